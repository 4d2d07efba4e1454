import PyProof.Rows.All
import Wide.All
import OpenK.AllK
import Wide.FinOn
import PyProof.SetScanFacts
import KE.BytesMake
import KE.KToBytes
import KE.KFromBytes
import KE.KBytesCut
import PySem.Challenge.RW_iy0007_01
set_option Elab.async false
set_option compiler.extract_closed false
set_option linter.unusedVariables false
set_option linter.unusedSimpArgs false
-- part TryHead
section
open PySem PySem.W PyProof.Rows
namespace Mine
theorem fstL {P Q : Prop} (p : P) (_ : Q) : P := p
set_option maxRecDepth 100000 in
set_option maxHeartbeats 8000000 in
theorem hd : False → PySem.Challenge.rw_iy0007_01.row.wellSaid = true → PySem.Challenge.rw_iy0007_01.row.Holds := by
  intro f said
  w_on
  refine' fstL ?main (And.intro ?hl (And.intro ?hw ?hc))
  case main => k_head
  all_goals exact f.elim
end Mine
end

-- part Om
section
namespace Mine
theorem rm0 {x b d : Nat} (h : x + b < d) : x < d := Nat.lt_of_le_of_lt (Nat.le_add_right x b) h
theorem rm1 {x a b d : Nat} (h : x + b < d) (e : Nat.ble a b = true) : x + a < d := Nat.lt_of_le_of_lt (Nat.add_le_add_left (Nat.le_of_ble_eq_true e) x) h
theorem rm2 {x a c b d : Nat} (h : x + b < d) (e : Nat.ble (a + c) b = true) : x + a + c < d := by rw [Nat.add_assoc]; exact rm1 h e
theorem rm3 {x a c f b d : Nat} (h : x + b < d) (e : Nat.ble (a + c + f) b = true) : x + a + c + f < d := by rw [Nat.add_assoc, Nat.add_assoc, ← Nat.add_assoc a]; exact rm1 h e
theorem nl1 {a b : Nat} {p : Prop} (h : a < b ∧ p) : a ≠ b := Nat.ne_of_lt h.1
theorem nl2 {a b : Nat} {q p : Prop} (h : q ∧ a < b ∧ p) : a ≠ b := Nat.ne_of_lt h.2.1
theorem nl3 {a b : Nat} {r q p : Prop} (h : r ∧ q ∧ a < b ∧ p) : a ≠ b := Nat.ne_of_lt h.2.2.1
theorem nl4 {a b : Nat} {s r q p : Prop} (h : s ∧ r ∧ q ∧ a < b ∧ p) : a ≠ b := Nat.ne_of_lt h.2.2.2.1
theorem nl5 {a b : Nat} {t s r q p : Prop} (h : t ∧ s ∧ r ∧ q ∧ a < b ∧ p) : a ≠ b := Nat.ne_of_lt h.2.2.2.2.1
theorem nl6 {a b : Nat} {u t s r q p : Prop} (h : u ∧ t ∧ s ∧ r ∧ q ∧ a < b ∧ p) : a ≠ b := Nat.ne_of_lt h.2.2.2.2.2.1
theorem nl7 {a b : Nat} {v u t s r q p : Prop} (h : v ∧ u ∧ t ∧ s ∧ r ∧ q ∧ a < b ∧ p) : a ≠ b := Nat.ne_of_lt h.2.2.2.2.2.2.1
theorem nl8 {a b : Nat} {x v u t s r q p : Prop} (h : x ∧ v ∧ u ∧ t ∧ s ∧ r ∧ q ∧ a < b ∧ p) : a ≠ b := Nat.ne_of_lt h.2.2.2.2.2.2.2.1
theorem neS {a b : Nat} (h : a ≠ b) : b ≠ a := h.symm
theorem neL {a b : Nat} (h : a < b) : a ≠ b := Nat.ne_of_lt h
theorem z0 (n : Nat) : (0 : Int) ≤ (n : Int) := Int.natCast_nonneg n
theorem le62 {n k b : Nat} (h : n ≤ k) (e : Nat.ble k b = true) : n ≤ b := Nat.le_trans h (Nat.le_of_ble_eq_true e)
theorem lt62 {n k b : Nat} (h : n < k) (e : Nat.ble k b = true) : n < b := Nat.lt_of_lt_of_le h (Nat.le_of_ble_eq_true e)
theorem llt62 {n k b : Nat} (h : n ≤ k) (e : Nat.blt k b = true) : n < b := Nat.lt_of_le_of_lt h (Nat.le_of_ble_eq_true e)
theorem zlt {z c : Int} {n : Nat} (h : z < (n : Int)) (h2 : (n : Int) < c) : z < c := Int.lt_trans h h2
theorem zcong {z : Int} {a b : Nat} (h : z < (a : Int)) (e : a = b) : z < (b : Int) := e ▸ h
theorem zeq0 {z : Int} {n : Nat} (h : z = (n : Int)) : 0 ≤ z := h ▸ Int.natCast_nonneg n
theorem sx1 {z : Int} {n : Nat} (h : z = (n : Int)) : z + 1 = ((n + 1 : Nat) : Int) := by rw [h]; rfl
theorem sx2 {z : Int} {k r : Nat} (h : z = ((k + r : Nat) : Int)) : z + 1 = ((k + (r + 1) : Nat) : Int) := by rw [h]; rfl
theorem litE {a n : Nat} (h : (a : Int) = (n : Int)) : a = n := Int.ofNat.inj h
theorem litNE {a n : Nat} (h : (a : Int) ≠ (n : Int)) : a ≠ n := fun e => h (congrArg _ e)
theorem zN {z : Int} {k n m : Nat} (e : z = (k : Int)) (h : z < (m : Int)) (hm : m = n) : k < n := by omega
theorem znN {z : Int} {k n m : Nat} (e : z = (k : Int)) (h : ¬ z < (m : Int)) (hm : m = n) (hk : k ≤ n) : k = n := by omega
theorem meas {n w x : Nat} (e : n = w - x) (h : x < w) : w - (x + 1) < n := by omega
theorem minL {a l w x : Nat} (h : a = min l (w - x)) (hk : x + l ≤ w) : a = l := by omega
theorem minB {l w x : Nat} (hw : w ≤ 6) : min l (w - x) ≤ 16777216 := by omega
theorem c12 {a c k w : Nat} (h : a = c) (h1 : c ≤ 2 * k) (h2 : k < w) (h3 : w ≤ 6) : a ≤ 12 := by omega
theorem n63 {n : Nat} (h : n ≤ 12) : (n : Int) < 2 ^ 63 := by omega
theorem n63s {n : Nat} (h : n ≤ 12) : ((n + (0 + 1) : Nat) : Int) < 2 ^ 63 := by omega
theorem nAbs {n : Nat} (h : n ≤ 12) : (n : Int).natAbs < 2 ^ 64 := by omega
theorem zAbs {z : Int} {n : Nat} (e : z = (n : Int)) (h : n ≤ 12) : z.natAbs < 2 ^ 64 := by omega
theorem big9 {n : Nat} (h : n ≤ 12) (h2 : (2147483647 : Int) ≤ ((n + 1 : Nat) : Int)) : False := by omega
theorem sum19 {a b : Nat} (h : a ≤ 12) (h2 : b ≤ 6) : a + 1 + b ≤ 1000 := by omega
theorem nltI {n k : Nat} {c : Int} (h : n ≤ k) (e : decide ((k : Int) < c) = true) : (n : Int) < c := Int.lt_of_le_of_lt (Int.ofNat_le.mpr h) (of_decide_eq_true e)
theorem le62e {n m k b : Nat} (e : n = m) (h : m ≤ k) (q : Nat.ble k b = true) : n ≤ b := e ▸ le62 h q
theorem nAbsK {n k c : Nat} (h : n ≤ k) (e : Nat.blt k c = true) : (n : Int).natAbs < c := by rw [Int.natAbs_natCast]; exact llt62 h e
theorem nAbsL {n c : Nat} (h : n < c) : (n : Int).natAbs < c := by rw [Int.natAbs_natCast]; exact h
theorem z0s (n : Nat) : (0 : Int) ≤ (n : Int) + 1 := z0 (n + 1)
theorem zcongY {z y : Int} {b : Nat} (h : z < y) (e : y = (b : Int)) : z < (b : Int) := e ▸ h
theorem zltY {z y c : Int} {n k : Nat} (h : z < y) (e : y = (n : Int)) (hn : n ≤ k) (q : decide ((k : Int) < c) = true) : z < c := Int.lt_trans (e ▸ h) (nltI hn q)
theorem ol200 {a ne e : Nat} (h : a = 12 + 8 * ne) (h1 : ne = e) (h2 : e ≤ 12) : a ≤ 200 := by omega
theorem ol12 {a ne P : Nat} (h : a = 12 + 8 * ne) (e : Nat.ble P 12 = true) : P ≤ a := h ▸ Nat.le_trans (Nat.le_of_ble_eq_true e) (Nat.le_add_right 12 _)
theorem okk {kk ne a c : Nat} (h : a = 12 + 8 * ne) (e : ne = c) (hk : kk < c) : 16 + 8 * kk ≤ a := by omega
theorem okk8 {kk ne a c : Nat} (h : a = 12 + 8 * ne) (e : ne = c) (hk : kk < c) : 8 + 8 * kk ≤ a := Nat.le_trans (Nat.add_le_add_right (by decide) _) (okk h e hk)
theorem okkn {kk ne a : Nat} (h : a = 12 + 8 * ne) (hk : kk < ne) : 8 + 8 * kk + 8 ≤ a := by omega
theorem oke {ne a : Nat} (h : a = 12 + 8 * ne) : 8 + 8 * ne + 4 ≤ a := by omega
theorem hik {kk ne c : Nat} (h : (kk : Int) < 0 + (((ne : Int) - 0).toNat : Int)) (e : ne = c) : kk < c := by omega
theorem neT {ne : Nat} (h : ne ≤ 12) : ((ne : Int) - 0).toNat ≤ 16777216 := by omega
theorem zz {z y : Int} {p c : Nat} (h : z < y) (e1 : y = (c : Int)) (e2 : z = (p : Int)) : p < c := by omega
theorem pz {z : Int} {p : Nat} (h : 0 < z) (e : z = (p : Int)) : ¬ p = 0 := by omega
theorem neK {k l c : Nat} (h : k < l) (e : l = c) : ¬ k = c := by omega
theorem rz {r : Nat} (h : (r : Int) = 0) (h2 : 0 < r) : False := by omega
theorem z210 {z : Int} {k l c : Nat} (e : z = ((64 * k : Nat) : Int)) (h : k < l) (e2 : l = c) (h2 : c ≤ 6) : z ≤ 2 ^ 10 := by omega
theorem z210b {z : Int} {k r i l n c : Nat} (e : z = ((64 * (k + r + i) : Nat) : Int)) (hi : i < l) (h : k + r + l ≤ n) (e2 : n = c) (h2 : c ≤ 6) : z ≤ 2 ^ 10 := by omega
theorem z0m (r : Nat) : (0 : Int) ≤ 64 * (r : Int) := z0 (64 * r)
theorem ob27 {b r : Nat} {z : Int} (h : b ≤ 64 * r) (hr : r ≤ 6) (hz : z ≤ 2 ^ 10) : (b : Int) + z ≤ 2 ^ 27 := by omega
theorem kr {k r l n c : Nat} (h : k + r + l ≤ n) (e : n = c) : k + r ≤ c := by omega
theorem kri {k r l i n c : Nat} (h : k + r + l ≤ n) (e : n = c) (hi : i < l) : k + r + i < c := by omega
theorem zr0 {z : Int} {k r : Nat} (e : z = ((64 * k : Nat) : Int)) : z + 64 * (r : Int) = ((64 * (k + r + 0) : Nat) : Int) := by omega
theorem neg3 {z : Int} {p l : Nat} (e : z = (p : Int)) (h : z + 1 + (l : Int) < 0) : False := by omega
theorem z64 {z : Int} {x : Nat} (e : z = ((64 * x : Nat) : Int)) : z + 64 = ((64 * (x + 1) : Nat) : Int) := by omega
theorem lminus {k l n : Nat} (h : k + l ≤ n) : l ≤ n - k := by omega
theorem pe {z y : Int} {p c ne : Nat} (h : ¬ z < y) (e1 : y = (c : Int)) (e2 : z = (p : Int)) (e3 : p ≤ ne) (e4 : ne = c) : p = c := by omega
theorem wc64 (b : Nat) : ((64 * ((b + 63) / 64) : Nat) : Int) = ((b : Int) + 63) / 64 * 64 := by omega
theorem dv1 {b : Nat} (h : b ≤ 384) : ((b : Int) + 63) / 64 < 2 ^ 64 := by omega
theorem dv2 (b : Nat) : -2 ^ 64 < ((b : Int) + 63) / 64 := by omega
theorem lt4b {n k : Nat} (h : n ≤ k) (q : Nat.blt k 4294967296 = true) : (n : Int) < 256 ^ 4 := by
  have := Nat.le_of_ble_eq_true q
  omega
theorem lt8b {n : Nat} (h : n < 2 ^ 64) : (n : Int) < 256 ^ 8 := by omega
theorem i63 {n k : Nat} (h : n ≤ k) (q : Nat.blt k 9223372036854775808 = true) : (n : Int) < 2 ^ 63 := by
  have := Nat.le_of_ble_eq_true q
  omega
theorem i64 {n k : Nat} (h : n ≤ k) (q : Nat.blt k 18446744073709551616 = true) : (n : Int) < 18446744073709551616 := by
  have := Nat.le_of_ble_eq_true q
  omega
theorem i32 {n k : Nat} (h : n ≤ k) (q : Nat.blt k 4294967296 = true) : (n : Int) < 4294967296 := by
  have := Nat.le_of_ble_eq_true q
  omega
theorem zY63 {z y : Int} {n k : Nat} (h : z < y) (e : y = (n : Int)) (hn : n ≤ k) (q : Nat.blt k 9223372036854775808 = true) : z < 2 ^ 63 := Int.lt_trans (e ▸ h) (i63 hn q)
theorem rA0 {x b : Nat} (h : x + b < PySem.recursionLimit) : x < 1000 := rm0 h
theorem rA1 {x a b : Nat} (h : x + b < PySem.recursionLimit) (e : Nat.ble a b = true) : x + a < 1000 := rm1 h e
theorem rA2 {x a c b : Nat} (h : x + b < PySem.recursionLimit) (e : Nat.ble (a + c) b = true) : x + a + c < 1000 := rm2 h e
theorem rB0 {x b : Nat} (h : x + b < PySem.recursionLimit) : x < PySem.recursionLimit := rm0 h
theorem rB1 {x a b : Nat} (h : x + b < PySem.recursionLimit) (e : Nat.ble a b = true) : x + a < PySem.recursionLimit := rm1 h e
theorem rB2 {x a c b : Nat} (h : x + b < PySem.recursionLimit) (e : Nat.ble (a + c) b = true) : x + a + c < PySem.recursionLimit := rm2 h e
theorem rC0 {x b : Nat} (h : x + b < PySem.cLine) : x < PySem.cLine := rm0 h
theorem rC1 {x a b : Nat} (h : x + b < PySem.cLine) (e : Nat.ble a b = true) : x + a < PySem.cLine := rm1 h e
theorem rC2 {x a c b : Nat} (h : x + b < PySem.cLine) (e : Nat.ble (a + c) b = true) : x + a + c < PySem.cLine := rm2 h e
theorem minT {n a P : Nat} (h : P + n ≤ a) : min n (a - P) = n := by omega
theorem m12 {a i c : Nat} (h : a = min i c) (h2 : c ≤ 12) : a ≤ 12 := by omega
theorem rs1 (n : Nat) : ((((n : Int) - 0).toNat : Nat) : Int) = (n : Int) := by omega
theorem rs2 (r : Nat) : ((((r : Int) * 64 - 0).toNat : Nat) : Int) = ((64 * r : Nat) : Int) := by omega
theorem rs3 {z : Int} {l : Nat} (h : z = (l : Int)) : (((z - 0).toNat : Nat) : Int) = (l : Int) := by omega
theorem s62a (n : Nat) : -(2 ^ 62) ≤ (n : Int) := by omega
theorem s62b {n : Nat} (h : n ≤ 12) : (n : Int) < 2 ^ 62 := by omega
theorem s62c (r : Nat) : -(2 ^ 62) ≤ (r : Int) * 64 := by omega
theorem s62d {r : Nat} (h : r ≤ 6) : (r : Int) * 64 < 2 ^ 62 := by omega
theorem zi {z : Int} {x i : Nat} (e : z = (x : Int)) : z + (0 + (i : Int)) = ((x + i : Nat) : Int) := by omega
theorem h1024a {k r l n c i : Nat} (hi : i < 64 * r) (h : k + r + l ≤ n) (e : n = c) (hc : c ≤ 6) : 64 * k + i < 1024 := by omega
theorem h1024b {x c j : Nat} (h : x < c) (hc : c ≤ 6) (hj : j < 64) : 64 * x + j < 1024 := by omega
theorem zr64 {z : Int} {k r : Nat} (e : z = ((64 * k : Nat) : Int)) : z + (r : Int) * 64 = ((64 * (k + r) : Nat) : Int) := by omega
theorem r00 {r : Nat} (h : ¬ (0 : Int) < (r : Int)) : r = 0 := by omega
theorem z10 {z : Int} {k r : Nat} (e : z = ((64 * k : Nat) : Int)) (h : r = 0) : z = ((64 * (k + r) : Nat) : Int) := by rw [h]; exact e
theorem kl6 {k r l n c : Nat} (h : k + r + l ≤ n) (e : n = c) (hc : c ≤ 6) : l ≤ 6 := by omega
theorem pi9 {p l ne i : Nat} (h : p + 1 + l ≤ ne) (hi : i < l) : p + 1 + i < ne := Nat.lt_of_lt_of_le (Nat.add_lt_add_left hi _) h
theorem zj0 (j : Nat) : (0 : Int) ≤ 0 + (j : Int) := by omega
theorem zj1 {j : Nat} (h : j < 64) : (0 : Int) + (j : Int) ≤ 1000000 := by omega
theorem ms9 {n ne p l : Nat} (h : n = ne - p) (h2 : p + 1 + l ≤ ne) : ne - (p + 1 + l) < n := by omega
theorem z88 (i : Nat) : ((8 + 8 * i : Nat) : Int) + ((8 : Nat) : Int) = ((8 + 8 * (i + 1) : Nat) : Int) := by omega
theorem wcm {b mb : Nat} (h : b - 1 = mb) (h0 : 0 < b) : (((mb : Int) + 1 + 63) / 64).toNat = (b + 63) / 64 := by omega
theorem mb384 {b mb : Nat} (h : b - 1 = mb) (h0 : b ≤ 384) : mb ≤ 384 := by omega
theorem dm1 (mb : Nat) : -2 ^ 63 ≤ ((mb : Int) + 1 + 63) / 64 := by omega
theorem dm2 {mb : Nat} (h : mb ≤ 384) : ((mb : Int) + 1 + 63) / 64 < 2 ^ 63 := by omega
theorem dm3 {mb : Nat} (h : mb ≤ 384) : ((mb : Int) + 1 + 63) / 64 ≤ ((1048576 : Nat) : Int) := by omega
theorem dm4 {mb : Nat} (h : mb ≤ 384) : (mb : Int) + 1 < 4294967296 := by omega
theorem kq {k b v : Nat} (h : k < b) (e : v = (b + 63) / 64) : k / 64 < v := by omega
theorem q6 {q v c : Nat} (h : q < v) (e : v = c) (hc : c ≤ 6) : q ≤ 6 := by omega
theorem r1e6 {r : Nat} (h : r < 64) : (r : Int) ≤ 1000000 := by omega
theorem e12 {a c w : Nat} (h : a = c) (h2 : c ≤ 2 * w) (hw : w ≤ 6) : a ≤ 12 := by omega
theorem f1000 {i c a : Nat} (h : a = c) (h2 : a ≤ 12) : 8 * min i c ≤ 1000 := by omega
theorem g1000 {c a : Nat} (h : a = c) (h2 : a ≤ 12) : 8 * c ≤ 1000 := by omega
theorem mb1 {b mb : Nat} (h : b - 1 = mb) (h0 : 0 < b) : (b : Int) = (mb : Int) + 1 := by omega
theorem lt64b {c : Nat} (h : c < 2 ^ 64) : (c : Int) < 18446744073709551616 := by omega
theorem pos9 {r : Nat} (h : (0 : Int) < (r : Int)) : 0 < r := by omega
end Mine
end

-- part SetT
section
open PySem
namespace Mine

/-- strictly rising -/
abbrev Up (l : List Nat) : Prop := l.Pairwise (· < ·)

theorem below_go (xs : Array Nat) (hs : Up xs.toList) (j : Nat) : ∀ (fuel lo hi : Nat), hi - lo ≤ fuel → lo ≤ hi → hi ≤ xs.size →
    (∀ i x, i < lo → xs[i]? = some x → x < j) → (∀ i x, hi ≤ i → xs[i]? = some x → j ≤ x) →
    SetTable.below.go xs j fuel lo hi ≤ xs.size ∧ (∀ i x, i < SetTable.below.go xs j fuel lo hi → xs[i]? = some x → x < j) ∧ (∀ i x, SetTable.below.go xs j fuel lo hi ≤ i → xs[i]? = some x → j ≤ x) := by
  intro fuel
  induction fuel with
  | zero =>
    intro lo hi h1 h2 h3 hl hh
    have e : lo = hi := by omega
    subst e
    unfold SetTable.below.go
    exact ⟨h3, hl, hh⟩
  | succ f ih =>
    intro lo hi h1 h2 h3 hl hh
    unfold SetTable.below.go
    by_cases hc : lo < hi
    · rw [if_pos hc]
      dsimp only
      have hm1 : (lo + hi) / 2 < hi := by omega
      have hm0 : lo ≤ (lo + hi) / 2 := by omega
      generalize (lo + hi) / 2 = mid at *
      have hms : mid < xs.size := by omega
      have hg : xs.getD mid j = xs[mid] := by simp [Array.getD, hms]
      rw [hg]
      have mono : ∀ a b x y : Nat, a < b → xs[a]? = some x → xs[b]? = some y → x < y := by
        intro a b x y hab ha hb
        have hb' := (Array.getElem?_eq_some_iff.mp hb)
        have ha' := (Array.getElem?_eq_some_iff.mp ha)
        obtain ⟨hb1, rfl⟩ := hb'
        obtain ⟨ha1, rfl⟩ := ha'
        have := List.pairwise_iff_getElem.mp hs a b (by simpa using ha1) (by simpa using hb1) hab
        simpa using this
      by_cases hx : xs[mid] < j
      · rw [if_pos hx]
        refine ih (mid + 1) hi (by omega) (by omega) h3 (fun i x hi' hx' => ?_) hh
        by_cases e : i = mid
        · subst e; rw [Array.getElem?_eq_getElem hms] at hx'; cases hx'; exact hx
        · exact Nat.lt_trans (mono i mid x _ (by omega) hx' (Array.getElem?_eq_getElem hms)) hx
      · rw [if_neg hx]
        refine ih lo mid (by omega) (by omega) (by omega) hl (fun i x hi' hx' => ?_)
        by_cases e : i = mid
        · subst e; rw [Array.getElem?_eq_getElem hms] at hx'; cases hx'; omega
        · have := mono mid i _ x (by omega) (Array.getElem?_eq_getElem hms) hx'; omega
    · rw [if_neg hc]
      have e : lo = hi := by omega
      subst e
      exact ⟨h3, hl, hh⟩

theorem below_spec (xs : Array Nat) (hs : Up xs.toList) (j : Nat) :
    SetTable.below xs j ≤ xs.size ∧ (∀ i x, i < SetTable.below xs j → xs[i]? = some x → x < j) ∧ (∀ i x, SetTable.below xs j ≤ i → xs[i]? = some x → j ≤ x) := by
  unfold SetTable.below
  exact below_go xs hs j xs.size 0 xs.size (by omega) (by omega) (by omega) (fun i x h => by omega) (fun i x h hx => by
    have := (Array.getElem?_eq_some_iff.mp hx).1; omega)

theorem below_at (xs : Array Nat) (hs : Up xs.toList) (j i : Nat) (h : xs[i]? = some j) : SetTable.below xs j = i := by
  obtain ⟨h1, h2, h3⟩ := below_spec xs hs j
  rcases Nat.lt_trichotomy (SetTable.below xs j) i with h4 | h4 | h4
  · have hi := (Array.getElem?_eq_some_iff.mp h).1
    have hb : SetTable.below xs j < xs.size := by omega
    have h5 := h3 _ _ (Nat.le_refl _) (Array.getElem?_eq_getElem hb)
    have h6 := List.pairwise_iff_getElem.mp hs (SetTable.below xs j) i (by simpa using hb) (by simpa using hi) h4
    obtain ⟨_, h7⟩ := Array.getElem?_eq_some_iff.mp h
    simp only [Array.getElem_toList] at h6
    omega
  · exact h4
  · have := h2 i j h4 h; omega

theorem below_next (xs : Array Nat) (hs : Up xs.toList) (j i : Nat) (h : xs[i]? = some j) : SetTable.below xs (j + 1) = i + 1 := by
  obtain ⟨h1, h2, h3⟩ := below_spec xs hs (j + 1)
  obtain ⟨hi, h7⟩ := Array.getElem?_eq_some_iff.mp h
  rcases Nat.lt_trichotomy (SetTable.below xs (j + 1)) (i + 1) with h4 | h4 | h4
  · have := h3 i j (by omega) h; omega
  · exact h4
  · have hb : i + 1 < xs.size := by omega
    have h5 := h2 (i + 1) _ h4 (Array.getElem?_eq_getElem hb)
    have h6 := List.pairwise_iff_getElem.mp hs i (i + 1) (by simpa using hi) (by simpa using hb) (by omega)
    simp only [Array.getElem_toList] at h6
    omega

theorem below_zero (xs : Array Nat) (hs : Up xs.toList) : SetTable.below xs 0 = 0 := by
  obtain ⟨h1, h2, h3⟩ := below_spec xs hs 0
  cases hb : SetTable.below xs 0 with
  | zero => rfl
  | succ n =>
    rw [hb] at h2 h1
    have := h2 0 xs[0] (by omega) (Array.getElem?_eq_getElem (by omega))
    omega

theorem has_iff (xs : Array Nat) (hs : Up xs.toList) (j : Nat) : SetTable.has xs j = true ↔ j ∈ xs.toList := by
  unfold SetTable.has
  constructor
  · intro h
    have h' : xs[SetTable.below xs j]? = some j := by simpa using h
    obtain ⟨hi, e⟩ := Array.getElem?_eq_some_iff.mp h'
    rw [← e, ← Array.getElem_toList]
    exact List.getElem_mem _
  · intro h
    obtain ⟨i, hi, e⟩ := List.getElem_of_mem h
    have h' : xs[i]? = some j := by
      rw [← Array.getElem?_toList, List.getElem?_eq_getElem hi, e]
    rw [below_at xs hs j i h', h']
    simp

theorem up_insert (xs : Array Nat) (hs : Up xs.toList) (j : Nat) (hj : j ∉ xs.toList) : Up (SetTable.insertAt xs (SetTable.below xs j) j).toList := by
  rw [SetTable.toList_insertAt]
  obtain ⟨h1, h2, h3⟩ := below_spec xs hs j
  generalize SetTable.below xs j = p at *
  have hlo : ∀ x ∈ xs.toList.take p, x < j := by
    intro x hx
    obtain ⟨i, hi, e⟩ := List.getElem_of_mem hx
    have hi' : i < p ∧ i < xs.toList.length := by rw [List.length_take] at hi; omega
    refine h2 i x hi'.1 ?_
    rw [← Array.getElem?_toList, List.getElem?_eq_getElem hi'.2]
    rw [List.getElem_take] at e
    rw [e]
  have hhi : ∀ x ∈ xs.toList.drop p, j < x := by
    intro x hx
    obtain ⟨i, hi, e⟩ := List.getElem_of_mem hx
    have hi' : p + i < xs.toList.length := by simp only [List.length_drop] at hi; omega
    rw [List.getElem_drop] at e
    have := h3 (p + i) x (by omega) (by rw [← Array.getElem?_toList, List.getElem?_eq_getElem hi', e])
    rcases Nat.lt_or_eq_of_le this with h | h
    · exact h
    · exact absurd (h ▸ List.mem_of_mem_drop hx) hj
  have hsp := hs
  rw [← List.take_append_drop p xs.toList, Up, List.pairwise_append] at hsp
  rw [Up, List.pairwise_append, List.pairwise_cons]
  refine ⟨hsp.1, ⟨hhi, hsp.2.1⟩, fun a ha b hb => ?_⟩
  rcases List.mem_cons.mp hb with rfl | hb
  · exact hlo a ha
  · exact hsp.2.2 a ha b hb

theorem toList_eraseAt {α : Type} (xs : Array α) (p : Nat) : (SetTable.eraseAt xs p).toList = xs.toList.take p ++ xs.toList.drop (p + 1) := by
  simp [SetTable.eraseAt, List.extract_eq_take_drop, List.take_of_length_le]
theorem eraseAt_sub {α : Type} (xs : Array α) (p : Nat) : (SetTable.eraseAt xs p).toList.Sublist xs.toList := by
  rw [toList_eraseAt]
  have h : xs.toList.drop (p + 1) = (xs.toList.drop p).drop 1 := by rw [List.drop_drop]
  rw [h]
  refine (List.Sublist.append (List.Sublist.refl _) (List.drop_sublist 1 _)).trans ?_
  rw [List.take_append_drop]; exact List.Sublist.refl _
theorem eraseAt_eq {α : Type} (xs : Array α) (p : Nat) : (SetTable.eraseAt xs p).toList = xs.toList.eraseIdx p := by
  rw [toList_eraseAt, List.eraseIdx_eq_take_drop_succ]
theorem up_erase (xs : Array Nat) (hs : Up xs.toList) (p : Nat) : Up (SetTable.eraseAt xs p).toList := List.Pairwise.sublist (eraseAt_sub xs p) hs
theorem mem_insertAt {α : Type} (xs : Array α) (p : Nat) (x y : α) : y ∈ (SetTable.insertAt xs p x).toList ↔ y = x ∨ y ∈ xs.toList := by
  rw [(SetTable.insertAt_perm xs p x).mem_iff, Array.toList_push, List.mem_append, List.mem_singleton]
  exact Or.comm
theorem size_insertAt {α : Type} (xs : Array α) (p : Nat) (x : α) : (SetTable.insertAt xs p x).size = xs.size + 1 := by
  have := (SetTable.insertAt_perm xs p x).length_eq
  simpa using this
theorem size_eraseAt {α : Type} (xs : Array α) (p : Nat) (h : p < xs.size) : (SetTable.eraseAt xs p).size = xs.size - 1 := by
  have e : (SetTable.eraseAt xs p).toList.length = xs.toList.length - 1 := by
    rw [eraseAt_eq, List.length_eraseIdx_of_lt (by simpa using h)]
  simpa using e
theorem up_nodup {l : List Nat} (h : Up l) : l.Nodup := by
  rw [List.nodup_iff_pairwise_ne]
  exact h.imp fun h => Nat.ne_of_lt h
theorem mem_eraseAt_below (xs : Array Nat) (hs : Up xs.toList) (j y : Nat) (hj : j ∈ xs.toList) : y ∈ (SetTable.eraseAt xs (SetTable.below xs j)).toList ↔ y ≠ j ∧ y ∈ xs.toList := by
  obtain ⟨i, hi, e⟩ := List.getElem_of_mem hj
  have h' : xs[i]? = some j := by rw [← Array.getElem?_toList, List.getElem?_eq_getElem hi, e]
  rw [below_at xs hs j i h', eraseAt_eq]
  have : xs.toList.eraseIdx i = xs.toList.erase j := by
    rw [← e]
    exact (List.erase_eq_eraseIdx_of_idxOf ((up_nodup hs).idxOf_getElem i hi)).symm
  rw [this, (up_nodup hs).mem_erase_iff]
end Mine
end

-- part SetP
section
open PySem
namespace Mine

/-- the walk with no perturbation left, without the remainder -/
def gk : Nat → Nat → Nat
  | 0, x => x
  | k + 1, x => gk k (5 * x + 1)
def ck : Nat → Nat
  | 0 => 0
  | k + 1 => 5 * ck k + 1
theorem ck_pow : ∀ k, 4 * ck k + 1 = 5 ^ k
  | 0 => rfl
  | k + 1 => by
    have := ck_pow k
    rw [Nat.pow_succ, ← this, ck]; omega
theorem gk_eq : ∀ k x, gk k x = x + ck k * (4 * x + 1)
  | 0, x => by simp [gk, ck]
  | k + 1, x => by
    rw [gk, gk_eq k, ck]
    have e : 4 * (5 * x + 1) + 1 = 5 * (4 * x + 1) := by omega
    rw [e, Nat.add_mul, Nat.one_mul, ← Nat.mul_assoc, Nat.mul_comm (ck k) 5]
    omega
theorem gk_add : ∀ a b x, gk (a + b) x = gk b (gk a x)
  | 0, b, x => by rw [Nat.zero_add]; rfl
  | a + 1, b, x => by
    have : a + 1 + b = (a + b) + 1 := by omega
    rw [this, gk, gk, gk_add a b]
theorem ck_double (k : Nat) : ck (k + k) = 2 * (2 * ck k + 1) * ck k := by
  have h1 := gk_add k k 0
  rw [gk_eq (k + k), gk_eq k, gk_eq k] at h1
  simp only [Nat.mul_zero, Nat.zero_add, Nat.mul_one] at h1
  rw [h1, Nat.mul_comm (2 * (2 * ck k + 1))]
  have : ck k + ck k * (4 * ck k + 1) = ck k * (4 * ck k + 2) := by rw [Nat.mul_add (ck k) _ 2, Nat.mul_add (ck k) _ 1]; omega
  rw [this]
  congr 1
  omega
theorem ck_two : ∀ n, ∃ o, ck (2 ^ n) = 2 ^ n * (2 * o + 1)
  | 0 => ⟨0, rfl⟩
  | n + 1 => by
    obtain ⟨o, h⟩ := ck_two n
    have e : 2 ^ (n + 1) = 2 ^ n + 2 ^ n := by rw [Nat.pow_succ]; omega
    refine ⟨2 * ck (2 ^ n) * o + ck (2 ^ n) + o, ?_⟩
    rw [e, ck_double, ← e, Nat.pow_succ]
    generalize hc : ck (2 ^ n) = c at h ⊢
    have : 2 * (2 * c + 1) * c = 2 * (2 * c + 1) * (2 ^ n * (2 * o + 1)) := by rw [← h]
    rw [this, Nat.mul_comm 2 (2 * c + 1), Nat.mul_assoc, ← Nat.mul_assoc 2, Nat.mul_comm 2 (2 ^ n), ← Nat.mul_assoc, Nat.mul_comm (2 * c + 1), Nat.mul_assoc]
    congr 1
    rw [Nat.add_mul, Nat.mul_add, Nat.mul_add]
    have h1 : 2 * c * (2 * o) = 2 * (2 * c * o) := by rw [Nat.mul_left_comm]
    rw [h1]
    omega
theorem par (P z y m : Nat) (hP : 0 < P) (h : z % P = y % P) : z % (P * 2) = y % (P * 2) ∨ (z + P * (2 * m + 1)) % (P * 2) = y % (P * 2) := by
  rw [Nat.mod_mul, Nat.mod_mul, Nat.mod_mul, Nat.add_mul_mod_self_left, Nat.add_mul_div_left _ _ hP, h]
  rcases Nat.mod_two_eq_zero_or_one (z / P) with h1 | h1 <;> rcases Nat.mod_two_eq_zero_or_one (y / P) with h2 | h2
  · left; rw [h1, h2]
  · right
    have : (z / P + (2 * m + 1)) % 2 = 1 := by omega
    rw [this, h2]
  · right
    have : (z / P + (2 * m + 1)) % 2 = 0 := by omega
    rw [this, h2]
  · left; rw [h1, h2]
theorem reach : ∀ n x y, ∃ k, k < 2 ^ n ∧ gk k x % 2 ^ n = y % 2 ^ n
  | 0, x, y => ⟨0, by simp, by simp [Nat.mod_one]⟩
  | n + 1, x, y => by
    obtain ⟨k, hk, h⟩ := reach n x y
    obtain ⟨o, ho⟩ := ck_two n
    have hP : 0 < 2 ^ n := Nat.two_pow_pos n
    have e : gk (k + 2 ^ n) x = gk k x + 2 ^ n * (2 * ((2 * o + 1) * (2 * gk k x) + o) + 1) := by
      rw [gk_add, gk_eq (2 ^ n), ho, Nat.mul_assoc]
      congr 2
      rw [Nat.mul_add, Nat.mul_one]
      have : (2 * o + 1) * (4 * gk k x) = 2 * ((2 * o + 1) * (2 * gk k x)) := by
        rw [Nat.mul_left_comm 2, ← Nat.mul_assoc 2 2]
      rw [this]; omega
    rw [Nat.pow_succ]
    rcases par (2 ^ n) (gk k x) y ((2 * o + 1) * (2 * gk k x) + o) hP h with h1 | h1
    · exact ⟨k, by omega, h1⟩
    · exact ⟨k + 2 ^ n, by omega, by rw [e]; exact h1⟩

/-- the walk with the remainder -/
def it (M : Nat) : Nat → Nat → Nat
  | 0, x => x
  | k + 1, x => it M k ((x * 5 + 1) % M)
theorem gk_mod (M : Nat) : ∀ k x, gk k (x % M) % M = gk k x % M := by
  intro k x
  have hx := Nat.mod_add_div x M
  rw [gk_eq, gk_eq]
  generalize x % M = r at hx ⊢
  generalize x / M = q at hx
  subst hx
  have e : r + M * q + ck k * (4 * (r + M * q) + 1) = r + ck k * (4 * r + 1) + M * (q + ck k * (4 * q)) := by
    have h1 : 4 * (r + M * q) + 1 = (4 * r + 1) + M * (4 * q) := by rw [Nat.mul_add, Nat.mul_left_comm 4 M q]; omega
    have h2 : M * (q + ck k * (4 * q)) = M * q + M * (ck k * (4 * q)) := Nat.mul_add _ _ _
    rw [h1, h2, Nat.mul_add (ck k) (4 * r + 1), Nat.mul_left_comm (ck k) M]; omega
  rw [e, Nat.add_mul_mod_self_left]
theorem it_gk (M : Nat) : ∀ k x, it M k x % M = gk k x % M
  | 0, x => rfl
  | k + 1, x => by
    rw [it, it_gk M k, gk_mod, gk, Nat.mul_comm x 5]
theorem it_lt (M : Nat) (hM : 0 < M) : ∀ k x, x < M → it M k x < M
  | 0, x, h => h
  | k + 1, x, _ => it_lt M hM k _ (Nat.mod_lt _ hM)
theorem it_reach {n M : Nat} (hM : M = 2 ^ n) {x y : Nat} (hx : x < M) (hy : y < M) : ∃ k, k < M ∧ it M k x = y := by
  subst hM
  obtain ⟨k, hk, h⟩ := reach n x y
  refine ⟨k, hk, ?_⟩
  have h1 := it_gk (2 ^ n) k x
  rw [h, Nat.mod_eq_of_lt hy, Nat.mod_eq_of_lt (it_lt _ (Nat.two_pow_pos n) k x hx)] at h1
  exact h1

theorem runEnd_ge (mask i : Nat) : i ≤ SetTable.runEnd mask i := by unfold SetTable.runEnd; split <;> omega
theorem runEnd_le (mask i : Nat) (h : i ≤ mask) : SetTable.runEnd mask i ≤ mask := by unfold SetTable.runEnd; split <;> omega
theorem runEnd_9 (mask i : Nat) : SetTable.runEnd mask i ≤ i + 9 := by unfold SetTable.runEnd; split <;> omega

section
variable {mask n : Nat} (hM : mask + 1 = 2 ^ n) (owner : Array (Option Nat)) (hsz : owner.size = mask + 1)

def Found (owner : Array (Option Nat)) (r : Option Nat) : Prop := ∃ j, r = some j ∧ owner[j]? = some none

theorem free_step (fuel i p : Nat) (h : SetTable.layClean.free mask owner fuel (SetTable.leap mask i p).1 (SetTable.leap mask i p).2 = SetTable.layClean.free mask owner fuel (SetTable.leap mask i p).1 (SetTable.leap mask i p).2 → owner[i]? ≠ some none → Found owner (SetTable.layClean.free mask owner fuel (SetTable.leap mask i p).1 (SetTable.leap mask i p).2)) :
    Found owner (SetTable.layClean.free mask owner (fuel + 1) i p) := by
  unfold SetTable.layClean.free
  cases hf : (List.range (SetTable.runEnd mask i + 1 - i)).find? fun k => (owner.getD (i + k) (some 0)).isNone with
  | some k =>
    dsimp only
    refine ⟨i + k, rfl, ?_⟩
    have hk := List.find?_some hf
    simp only [Option.isNone_iff_eq_none] at hk
    unfold Array.getD at hk
    split at hk
    · rename_i hlt
      rw [Array.getElem?_eq_getElem hlt]
      exact congrArg some hk
    · cases hk
  | none =>
    dsimp only
    refine h rfl fun ho => ?_
    have := List.find?_eq_none.mp hf 0 (List.mem_range.mpr (by have := runEnd_ge mask i; omega))
    apply this
    obtain ⟨hlt, e⟩ := Array.getElem?_eq_some_iff.mp ho
    simp [Array.getD, hlt, e]

theorem free_zero {T : Nat} (hT : owner[T]? = some none) : ∀ (k fuel i : Nat), it (mask + 1) k i = T → k < fuel → Found owner (SetTable.layClean.free mask owner fuel i 0)
  | 0, 0, _, _, h => absurd h (Nat.lt_irrefl _)
  | 0, fuel + 1, i, e, _ => by
    refine free_step owner fuel i 0 fun _ hne => ?_
    have e' : i = T := e
    exact absurd (e' ▸ hT) hne
  | k + 1, 0, _, _, h => absurd h (Nat.not_lt_zero _)
  | k + 1, fuel + 1, i, e, h => by
    refine free_step owner fuel i 0 fun _ _ => ?_
    have e1 : SetTable.leap mask i 0 = ((i * 5 + 1) % (mask + 1), 0) := by simp [SetTable.leap]
    rw [e1]
    exact free_zero hT k fuel _ e (by omega)
include hM hsz in
theorem free_any {T : Nat} (hT : owner[T]? = some none) : ∀ (d fuel i p : Nat), p < 32 ^ d → i < mask + 1 → d + (mask + 1) ≤ fuel → Found owner (SetTable.layClean.free mask owner fuel i p)
  | 0, fuel, i, p, hp, hi, hf => by
    have : p = 0 := by simpa using hp
    subst this
    have hTm : T < mask + 1 := by have := (Array.getElem?_eq_some_iff.mp hT).1; omega
    obtain ⟨k, hk, e⟩ := it_reach hM hi hTm
    exact free_zero owner hT k fuel i e (by omega)
  | d + 1, 0, i, p, _, _, hf => by omega
  | d + 1, fuel + 1, i, p, hp, hi, hf => by
    refine free_step owner fuel i p fun _ _ => ?_
    refine free_any hT d fuel _ _ ?_ (Nat.mod_lt _ (Nat.succ_pos _)) (by omega)
    show p / 32 < 32 ^ d
    rw [Nat.pow_succ] at hp
    exact Nat.div_lt_of_lt_mul (by rw [Nat.mul_comm]; exact hp)
end
theorem bits_lt (h : Int) : SetTable.bits h < 32 ^ 13 := by
  unfold SetTable.bits
  have h1 := Int.emod_nonneg h (show (2 ^ 64 : Int) ≠ 0 by decide)
  have h2 := Int.emod_lt_of_pos h (show (0 : Int) < 2 ^ 64 by decide)
  have : (2 ^ 64 : Int) < 32 ^ 13 := by decide
  have e : ((32 ^ 13 : Nat) : Int) = 32 ^ 13 := by decide
  omega

end Mine
end

-- part SetL
section
open PySem
namespace Mine

/-! the clean laying -/
theorem fm_set : ∀ (l : List (Option Nat)) (j k : Nat), l[j]? = some none → List.Perm ((l.set j (some k)).filterMap id) (k :: l.filterMap id)
  | [], j, k, h => by simp at h
  | x :: l, 0, k, h => by
    have : x = none := by simpa using h
    subst this
    simp
  | none :: l, j + 1, k, h => by
    have h' : l[j]? = some none := by simpa using h
    simpa using fm_set l j k h'
  | some x :: l, j + 1, k, h => by
    have h' : l[j]? = some none := by simpa using h
    have := fm_set l j k h'
    simp only [List.set_cons_succ, List.filterMap_cons, id]
    exact (this.cons x).trans (List.Perm.swap _ _ _)
theorem fm_none : ∀ l : List (Option Nat), (l.filterMap id).length < l.length → ∃ T : Nat, l[T]? = some none
  | [], h => absurd h (Nat.lt_irrefl _)
  | none :: l, _ => ⟨0, rfl⟩
  | some x :: l, h => by
    obtain ⟨T, e⟩ := fm_none l (by simp only [List.filterMap_cons, id, List.length_cons] at h; omega)
    exact ⟨T + 1, by simpa using e⟩

def LI (mask : Nat) (owner : Array (Option Nat)) (k : Nat) : Prop := owner.size = mask + 1 ∧ List.Perm (owner.toList.filterMap id) (List.range k)
def layStep (mask : Nat) (acc : Option (Array (Option Nat) × Nat)) (h : Int) : Option (Array (Option Nat) × Nat) := do
    let (owner, k) ← acc
    let j ← SetTable.layClean.free mask owner (SetTable.turns mask) (SetTable.bits h % (mask + 1)) (SetTable.bits h)
    pure (owner.setIfInBounds j (some k), k + 1)
theorem lay_step {mask n : Nat} (hM : mask + 1 = 2 ^ n) {owner : Array (Option Nat)} {k : Nat} (I : LI mask owner k) (hk : k < mask + 1) (h : Int) :
    ∃ owner', layStep mask (some (owner, k)) h = some (owner', k + 1) ∧ LI mask owner' (k + 1) := by
  obtain ⟨hs, hp⟩ := I
  have hlen : (owner.toList.filterMap id).length < owner.toList.length := by
    rw [hp.length_eq, List.length_range, Array.length_toList]; omega
  obtain ⟨T, hT⟩ := fm_none _ hlen
  rw [Array.getElem?_toList] at hT
  obtain ⟨j, hj, hjo⟩ := free_any hM owner hs hT 13 (SetTable.turns mask) (SetTable.bits h % (mask + 1)) (SetTable.bits h) (bits_lt h) (Nat.mod_lt _ (Nat.succ_pos _)) (by unfold SetTable.turns; omega)
  refine ⟨owner.setIfInBounds j (some k), ?_, ?_⟩
  · unfold layStep
    simp only [Option.bind_eq_bind, Option.bind_some, hj]
    rfl
  · refine ⟨by simp [hs], ?_⟩
    rw [Array.toList_setIfInBounds, List.range_succ]
    refine (fm_set _ j k (by rw [Array.getElem?_toList]; exact hjo)).trans ?_
    exact (hp.cons k).trans (List.perm_append_singleton k _).symm
theorem lay_all {mask n : Nat} (hM : mask + 1 = 2 ^ n) : ∀ (hs : List Int) (owner : Array (Option Nat)) (k : Nat), LI mask owner k → k + hs.length ≤ mask + 1 →
    ∃ owner', hs.foldl (layStep mask) (some (owner, k)) = some (owner', k + hs.length) ∧ LI mask owner' (k + hs.length)
  | [], owner, k, I, _ => ⟨owner, rfl, I⟩
  | h :: hs, owner, k, I, hl => by
    simp only [List.length_cons] at hl
    obtain ⟨o1, e1, I1⟩ := lay_step hM I (by omega) h
    obtain ⟨o2, e2, I2⟩ := lay_all hM hs o1 (k + 1) I1 (by omega)
    refine ⟨o2, ?_, ?_⟩
    · rw [List.foldl_cons, e1, e2, List.length_cons]
      have : k + 1 + hs.length = k + (hs.length + 1) := by omega
      rw [this]
    · have : k + (h :: hs).length = k + 1 + hs.length := by rw [List.length_cons]; omega
      rw [this]; exact I2
theorem layClean_ok {mask n : Nat} (hM : mask + 1 = 2 ^ n) (hs : Array Int) (hl : hs.size ≤ mask + 1) : ∃ owner, SetTable.layClean mask hs = some owner ∧ LI mask owner hs.size := by
  have I0 : LI mask (Array.replicate (mask + 1) none) 0 := by
    refine ⟨by simp, ?_⟩
    rw [Array.toList_replicate]
    have : ∀ m, (List.replicate m (none : Option Nat)).filterMap id = [] := fun m => by
      induction m with
      | zero => rfl
      | succ m ih => rw [List.replicate_succ, List.filterMap_cons]; exact ih
    rw [this]; exact .nil
  obtain ⟨o, e, I⟩ := lay_all hM hs.toList _ 0 I0 (by simpa using hl)
  refine ⟨o, ?_, by simpa using I⟩
  unfold SetTable.layClean
  rw [← Array.foldl_toList]
  show Option.map (·.1) (hs.toList.foldl (layStep mask) _) = _
  rw [e]; rfl

theorem map_getD (l : List (Option Nat)) : (List.range l.length).map (fun j => l.getD j none) = l := by
  refine List.ext_getElem (by simp) fun i h1 h2 => ?_
  simp [List.getD_eq_getElem?_getD, List.getElem?_eq_getElem h2]
theorem live_snd (owner : Array (Option Nat)) (M : Nat) (h : owner.size = M) : ((List.range M).filterMap fun j => (owner.getD j none).map (j, ·)).map (·.2) = owner.toList.filterMap id := by
  subst h
  have e : ∀ l : List Nat, (l.filterMap fun j => (owner.getD j none).map (j, ·)).map (·.2) = (l.map fun j => owner.toList.getD j none).filterMap id := by
    intro l
    induction l with
    | nil => rfl
    | cons j l ih =>
      have hj : owner.toList.getD j none = owner.getD j none := by simp [List.getD_eq_getElem?_getD, Array.getD_eq_getD_getElem?]
      rw [List.map_cons, hj, List.filterMap_cons, List.filterMap_cons]
      cases owner.getD j none with
      | none => exact ih
      | some v => simp only [Option.map_some, id, List.map_cons]; rw [ih]
  rw [e, ← Array.length_toList, map_getD]
theorem live_fst (owner : Array (Option Nat)) (M : Nat) : (((List.range M).filterMap fun j => (owner.getD j none).map (j, ·)).map (·.1)).Sublist (List.range M) := by
  generalize List.range M = l
  induction l with
  | nil => exact .slnil
  | cons j l ih =>
    rw [List.filterMap_cons]
    cases owner.getD j none with
    | none => exact ih.cons j
    | some v => exact ih.cons_cons j

/-- the table's word -/
structure TOK (bt : Bool) (t : SetTable) (n : Nat) : Prop where
  sz : t.place.size = n
  up : Up t.place.toList
  dup : Up t.dummies.toList
  ple : ∀ j ∈ t.place.toList, j ≤ t.mask
  dle : ∀ j ∈ t.dummies.toList, j ≤ t.mask
  dis : ∀ j ∈ t.place.toList, j ∉ t.dummies.toList
  room : (n + t.dummies.size) * 5 < t.mask * 3
  pow : ∃ q, t.mask + 1 = 2 ^ q
  m7 : 7 ≤ t.mask
  plain : t.plain = true
  led : t.led = !bt

theorem TOK.fits {bt : Bool} {t : SetTable} {n : Nat} (T : TOK bt t n) : t.fits n = true := by
  have h1 := T.room
  have h2 := T.sz
  simp only [SetTable.fits, SetTable.fill, Bool.and_eq_true, beq_iff_eq]
  exact ⟨h2, decide_eq_true (by omega)⟩
theorem tok_fresh (bt : Bool) : TOK bt (SetTable.fresh 0 0 !bt) 0 where
  sz := rfl
  up := .nil
  dup := .nil
  ple := fun _ h => nomatch h
  dle := fun _ h => nomatch h
  dis := fun _ h => nomatch h
  room := by show (0 + 0) * 5 < 7 * 3; decide
  pow := ⟨3, rfl⟩
  m7 := Nat.le_refl _
  plain := rfl
  led := rfl

theorem sizeAbove_go (n : Nat) : ∀ (fuel s q : Nat), s = 2 ^ q → 8 ≤ s → n < s * 2 ^ fuel →
    n < SetTable.sizeAbove.go n fuel s ∧ (∃ q', SetTable.sizeAbove.go n fuel s = 2 ^ q') ∧ 8 ≤ SetTable.sizeAbove.go n fuel s ∧ (SetTable.sizeAbove.go n fuel s ≤ s ∨ SetTable.sizeAbove.go n fuel s ≤ 2 * n)
  | 0, s, q, hq, h8, h => by
    unfold SetTable.sizeAbove.go
    exact ⟨by simpa using h, ⟨q, hq⟩, h8, .inl (Nat.le_refl _)⟩
  | fuel + 1, s, q, hq, h8, h => by
    unfold SetTable.sizeAbove.go
    by_cases hc : s ≤ n
    · rw [if_pos hc]
      have := sizeAbove_go n fuel (s * 2) (q + 1) (by rw [hq, Nat.pow_succ]) (by omega) (by rw [Nat.pow_succ] at h; rw [Nat.mul_assoc, Nat.mul_comm 2]; exact h)
      refine ⟨this.1, this.2.1, this.2.2.1, ?_⟩
      rcases this.2.2.2 with h1 | h1
      · right; omega
      · right; exact h1
    · rw [if_neg hc]
      exact ⟨by omega, ⟨q, hq⟩, h8, .inl (Nat.le_refl _)⟩
theorem sizeAbove_ok (n : Nat) (hn : n < 1000000) : n < SetTable.sizeAbove n ∧ (∃ q', SetTable.sizeAbove n = 2 ^ q') ∧ 8 ≤ SetTable.sizeAbove n ∧ SetTable.sizeAbove n ≤ 2000000 := by
  unfold SetTable.sizeAbove
  have h := sizeAbove_go n 64 8 3 rfl (Nat.le_refl _) (Nat.lt_trans hn (by decide))
  refine ⟨h.1, h.2.1, h.2.2.1, ?_⟩
  rcases h.2.2.2 with h1 | h1 <;> omega

theorem laid_ok (bt : Bool) {mask q : Nat} (hM : mask + 1 = 2 ^ q) (h7 : 7 ≤ mask) (finger moves : Nat) (led : Bool) (hled : led = !bt) (hs : Array Int) (hroom : hs.size * 5 < mask * 3) :
    ∃ t' order, SetTable.laid mask finger moves led true hs = some (t', order) ∧ TOK bt t' hs.size ∧ List.Perm order.toList (List.range hs.size) ∧ t'.dummies = #[] ∧ t'.mask = mask := by
  obtain ⟨owner, e, hsz, hp⟩ := layClean_ok hM hs (by omega)
  have hl2 := live_snd owner (mask + 1) hsz
  have hl1 := live_fst owner (mask + 1)
  have hup : Up (((List.range (mask + 1)).filterMap fun j => (owner.getD j none).map (j, ·)).map (·.1)) := List.Pairwise.sublist hl1 List.pairwise_lt_range
  have hlen : ((List.range (mask + 1)).filterMap fun j => (owner.getD j none).map (j, ·)).length = hs.size := by
    have := congrArg List.length hl2
    rw [List.length_map, hp.length_eq, List.length_range] at this
    exact this
  refine ⟨{ mask := mask, place := (((List.range (mask + 1)).filterMap fun j => (owner.getD j none).map (j, ·)).map (·.1)).toArray, dummies := #[], finger := finger, led := led, moves := moves, plain := true },
    (((List.range (mask + 1)).filterMap fun j => (owner.getD j none).map (j, ·)).map (·.2)).toArray, ?_, ?_, ?_, ?_, ?_⟩
  · unfold SetTable.laid
    rw [e]
    rfl
  · exact {
      sz := by rw [List.size_toArray, List.length_map]; exact hlen
      up := hup
      dup := .nil
      ple := fun j hj => by
        have := List.mem_range.mp (hl1.subset hj)
        show j ≤ mask
        omega
      dle := fun j hj => nomatch hj
      dis := fun j _ h => nomatch h
      room := by show (hs.size + 0) * 5 < mask * 3; exact hroom
      pow := ⟨q, hM⟩
      m7 := h7
      plain := rfl
      led := hled }
  · show List.Perm (List.map _ _) _
    rw [hl2]; exact hp
  · rfl
  · rfl

theorem relaid_ok (bt : Bool) (t : SetTable) (hpl : t.plain = true) (hled : t.led = !bt) (hs : Array Int) (wanted : Nat) (hw : 2 * hs.size ≤ wanted) (hb : wanted < 1000000) :
    ∃ t' order, t.relaid hs wanted = some (t', order) ∧ TOK bt t' hs.size ∧ List.Perm order.toList (List.range hs.size) ∧ t'.dummies = #[] ∧ t'.mask + 1 = SetTable.sizeAbove wanted := by
  obtain ⟨h1, ⟨q, h2⟩, h3, _⟩ := sizeAbove_ok wanted hb
  unfold SetTable.relaid
  have hM : SetTable.sizeAbove wanted - 1 + 1 = 2 ^ q := by omega
  rw [hpl]
  obtain ⟨t', order, a, b, c, d, e⟩ := laid_ok bt hM (by omega) t.finger (t.movedTo (SetTable.sizeAbove wanted - 1)) t.led hled hs (by omega)
  exact ⟨t', order, a, b, c, d, by omega⟩

theorem relayAll_ok (bt : Bool) (t : SetTable) (hpl : t.plain = true) (hled : t.led = !bt) (es : Array (Int × Value)) (wanted : Nat) (hw : 2 * es.size ≤ wanted) (hb : wanted < 1000000) :
    ∃ es' t', relayAll t es wanted = (es', t', false) ∧ TOK bt t' es.size ∧ List.Perm es'.toList es.toList := by
  obtain ⟨t', order, h1, h2, h3, _, _⟩ := relaid_ok bt t hpl hled (es.map (·.1)) wanted (by rw [Array.size_map]; exact hw) hb
  rw [Array.size_map] at h2 h3
  have hp : List.Perm (order.filterMap (es[·]?)).toList es.toList := by
    rw [Array.toList_filterMap]
    exact (h3.filterMap _).trans (by rw [filterMap_getElem?_range])
  have hsz : (order.filterMap (es[·]?)).size = es.size := by have := hp.length_eq; rw [Array.length_toList, Array.length_toList] at this; exact this
  refine ⟨order.filterMap (es[·]?), t', ?_, h2, hp⟩
  unfold relayAll
  rw [h1]
  dsimp only
  have hc : coversAll order es.size = true := by
    unfold coversAll
    exact List.isPerm_iff.mpr h3
  rw [hc, hsz, h2.fits]
  rfl
end Mine
end

-- part SetN
section
open PySem PySem.SetTable
namespace Mine

/-! the probe -/
section
variable (t : SetTable) (hashAt : Nat → Int) (h : Int) (hne : ∀ i, (hashAt i == h) = false)

def DumOK (d : Option Nat) : Prop := ∀ x, d = some x → t.slot x = .dummy ∧ x ≤ t.mask
def GoodMet (r : Option Met) : Prop := ∃ j d, r = some (.empty j d) ∧ j ≤ t.mask ∧ t.slot j = .empty ∧ DumOK t d

include hne in
theorem probe_step (fuel : Nat) (p : Probe) (hd : DumOK t p.dummy) (hj : p.j ≤ t.mask)
    (k : t.slot p.j ≠ .empty → ∀ d, DumOK t d → GoodMet t (probe.go t hashAt h fuel (t.advance { p with dummy := d }))) : GoodMet t (probe.go t hashAt h (fuel + 1) p) := by
  unfold probe.go
  cases hs : t.slot p.j with
  | empty => exact ⟨p.j, p.dummy, rfl, hj, hs, hd⟩
  | dummy =>
    dsimp only
    refine k (by rw [hs]; exact fun h => nomatch h) (some p.j) fun x hx => ?_
    cases hx
    exact ⟨hs, hj⟩
  | live i =>
    dsimp only
    rw [hne i]
    simp only [Bool.false_eq_true, if_false]
    exact k (by rw [hs]; exact fun h => nomatch h) p.dummy hd

include hne in
theorem probe_run : ∀ (m fuel : Nat) (p : Probe), p.more = m → p.j + m ≤ t.mask → DumOK t p.dummy →
    (t.slot p.j ≠ .empty → ∀ d, DumOK t d → GoodMet t (probe.go t hashAt h fuel { j := (leap t.mask p.i p.perturb).1, more := runEnd t.mask (leap t.mask p.i p.perturb).1 - (leap t.mask p.i p.perturb).1, i := (leap t.mask p.i p.perturb).1, perturb := (leap t.mask p.i p.perturb).2, dummy := d })) →
    GoodMet t (probe.go t hashAt h (fuel + m + 1) p)
  | 0, fuel, p, hm, hj, hd, k => by
    refine probe_step t hashAt h hne fuel p hd (by omega) fun hs d hd' => ?_
    have : t.advance { p with dummy := d } = { j := (leap t.mask p.i p.perturb).1, more := runEnd t.mask (leap t.mask p.i p.perturb).1 - (leap t.mask p.i p.perturb).1, i := (leap t.mask p.i p.perturb).1, perturb := (leap t.mask p.i p.perturb).2, dummy := d } := by
      unfold advance
      rw [if_neg (by show ¬ p.more > 0; omega)]
    rw [this]
    exact k hs d hd'
  | m + 1, fuel, p, hm, hj, hd, k => by
    have e : fuel + (m + 1) + 1 = (fuel + m + 1) + 1 := by omega
    rw [e]
    refine probe_step t hashAt h hne (fuel + m + 1) p hd (by omega) fun hs d hd' => ?_
    have : t.advance { p with dummy := d } = { p with dummy := d, j := p.j + 1, more := p.more - 1 } := by
      unfold advance
      rw [if_pos (by show p.more > 0; omega)]
    rw [this]
    exact probe_run m fuel _ (by show p.more - 1 = m; omega) (by show p.j + 1 + m ≤ t.mask; omega) hd' fun _ d' hd'' => k hs d' hd''

def startAt (i p : Nat) (d : Option Nat) : Probe := { j := i, more := runEnd t.mask i - i, i := i, perturb := p, dummy := d }

include hne in
theorem probe_leap (fuel i p : Nat) (d : Option Nat) (hi : i ≤ t.mask) (hd : DumOK t d)
    (k : t.slot i ≠ .empty → ∀ F d, fuel ≤ F → DumOK t d → GoodMet t (probe.go t hashAt h F (startAt t (leap t.mask i p).1 (leap t.mask i p).2 d))) :
    GoodMet t (probe.go t hashAt h (fuel + 10) (startAt t i p d)) := by
  have h1 := runEnd_ge t.mask i
  have h2 := runEnd_le t.mask i hi
  have h3 := runEnd_9 t.mask i
  have e : fuel + 10 = (fuel + 9 - (runEnd t.mask i - i)) + (runEnd t.mask i - i) + 1 := by omega
  rw [e]
  exact probe_run t hashAt h hne (runEnd t.mask i - i) _ (startAt t i p d) rfl (by show i + _ ≤ _; omega) hd fun hs d' hd' => k hs _ d' (by omega) hd'

include hne in
theorem probe_zero {T : Nat} (hT : t.slot T = .empty) : ∀ (k fuel i : Nat) (d : Option Nat), it (t.mask + 1) k i = T → i ≤ t.mask → DumOK t d → 10 * (k + 1) ≤ fuel → GoodMet t (probe.go t hashAt h fuel (startAt t i 0 d))
  | 0, fuel, i, d, e, hi, hd, hf => by
    have : fuel = (fuel - 10) + 10 := by omega
    rw [this]
    refine probe_leap t hashAt h hne _ i 0 d hi hd fun hs => ?_
    have e' : i = T := e
    exact absurd (e' ▸ hT) hs
  | k + 1, fuel, i, d, e, hi, hd, hf => by
    have : fuel = (fuel - 10) + 10 := by omega
    rw [this]
    refine probe_leap t hashAt h hne _ i 0 d hi hd fun hs F d' hF hd' => ?_
    have e1 : leap t.mask i 0 = ((i * 5 + 1) % (t.mask + 1), 0) := by simp [leap]
    rw [e1]
    exact probe_zero hT k F _ d' e (Nat.le_of_lt_succ (Nat.mod_lt _ (Nat.succ_pos _))) hd' (by omega)
include hne in
theorem probe_any {q T : Nat} (hM : t.mask + 1 = 2 ^ q) (hT : t.slot T = .empty) (hTm : T ≤ t.mask) : ∀ (c fuel i p : Nat) (d : Option Nat), p < 32 ^ c → i ≤ t.mask → DumOK t d → 10 * (c + t.mask + 1) ≤ fuel → GoodMet t (probe.go t hashAt h fuel (startAt t i p d))
  | 0, fuel, i, p, d, hp, hi, hd, hf => by
    have : p = 0 := by simpa using hp
    subst this
    obtain ⟨k, hk, e⟩ := it_reach hM (Nat.lt_succ_of_le hi) (Nat.lt_succ_of_le hTm)
    exact probe_zero t hashAt h hne hT k fuel i d e hi hd (by omega)
  | c + 1, fuel, i, p, d, hp, hi, hd, hf => by
    have : fuel = (fuel - 10) + 10 := by omega
    rw [this]
    refine probe_leap t hashAt h hne _ i p d hi hd fun hs F d' hF hd' => ?_
    refine probe_any hM hT hTm c F _ _ d' ?_ (Nat.le_of_lt_succ (Nat.mod_lt _ (Nat.succ_pos _))) hd' (by omega)
    show p / 32 < 32 ^ c
    rw [Nat.pow_succ] at hp
    exact Nat.div_lt_of_lt_mul (by rw [Nat.mul_comm]; exact hp)
end

variable {bt : Bool} {t : SetTable} {n : Nat}
theorem slot_empty (T : TOK bt t n) (j : Nat) : t.slot j = .empty ↔ j ∉ t.place.toList ∧ j ∉ t.dummies.toList := by
  have h1 := has_iff t.place T.up j
  have h2 := has_iff t.dummies T.dup j
  unfold SetTable.slot
  unfold SetTable.has at h1
  dsimp only
  rw [← h2, ← h1]
  cases (t.place[below t.place j]? == some j) <;> cases has t.dummies j <;> simp
theorem slot_dummy (T : TOK bt t n) (j : Nat) (h : t.slot j = .dummy) : j ∉ t.place.toList ∧ j ∈ t.dummies.toList := by
  have h1 := has_iff t.place T.up j
  have h2 := has_iff t.dummies T.dup j
  unfold SetTable.slot at h
  unfold SetTable.has at h1
  dsimp only at h
  rw [← h2, ← h1]
  revert h
  cases (t.place[below t.place j]? == some j) <;> cases has t.dummies j <;> simp
theorem free_place (T : TOK bt t n) : ∃ j, j ≤ t.mask ∧ t.slot j = .empty := by
  refine Classical.byContradiction fun hno => ?_
  have hall : ∀ j, j ≤ t.mask → j ∈ t.place.toList ++ t.dummies.toList := by
    intro j hj
    refine Classical.byContradiction fun hm => hno ⟨j, hj, (slot_empty T j).mpr ?_⟩
    simp only [List.mem_append, not_or] at hm
    exact hm
  have hlen : (List.range (t.mask + 1)).length ≤ (t.place.toList ++ t.dummies.toList).length :=
    List.Nodup.length_le_of_subset List.nodup_range fun j hj => hall j (by have := List.mem_range.mp hj; omega)
  have h1 := T.room
  have h2 := T.sz
  simp only [List.length_range, List.length_append, Array.length_toList] at hlen
  omega
theorem freeSlot_ok (T : TOK bt t n) (h : Int) : ∃ s wd, t.freeSlot h = some (s, wd) ∧ s ≤ t.mask ∧ s ∉ t.place.toList ∧ (wd = true → s ∈ t.dummies.toList) ∧ (wd = false → s ∉ t.dummies.toList) := by
  obtain ⟨q, hM⟩ := T.pow
  obtain ⟨T0, hTm, hT0⟩ := free_place T
  have hne : ∀ i : Nat, ((fun _ : Nat => h + 1) i == h) = false := fun i => by
    have : h + 1 ≠ h := by omega
    simpa using this
  obtain ⟨j, d, e, hj, hs, hd⟩ := probe_any t (fun _ => h + 1) h hne hM hT0 hTm 13 (10 * turns t.mask) (bits h % (t.mask + 1)) (bits h) none (bits_lt h)
    (Nat.le_of_lt_succ (Nat.mod_lt _ (Nat.succ_pos _))) (fun x hx => nomatch hx) (by unfold turns; omega)
  have e' : t.probe (fun _ => h + 1) h (t.probeStart h) = some (.empty j d) := e
  unfold SetTable.freeSlot
  rw [e']
  cases d with
  | none =>
    have := (slot_empty T j).mp hs
    exact ⟨j, false, rfl, hj, this.1, (fun h => nomatch h), fun _ => this.2⟩
  | some x =>
    obtain ⟨hx1, hx2⟩ := hd x rfl
    have := slot_dummy T x hx1
    exact ⟨x, true, rfl, hx2, this.1, fun _ => this.2, fun h => nomatch h⟩

/-- a new element's place -/
theorem layNew_ok {es : Array (Int × Value)} (T : TOK bt t es.size) (h : Int) (x : Value) : ∃ es' t' wd, layNew t es h x = (es', t', wd, false) ∧ List.Perm es'.toList (es.push (h, x)).toList ∧
    t'.plain = true ∧ t'.led = (!bt) ∧ t'.fits es'.size = true ∧ ((!wd && t'.tooFull) = false → TOK bt t' es'.size) := by
  obtain ⟨s, wd, e, hsm, hsp, hd1, hd2⟩ := freeSlot_ok T h
  have hpm := layNew_perm t es h x
  have hes' : (insertAt es (below t.place s) (h, x)).size = es.size + 1 := size_insertAt es _ _
  have hroom := T.room
  have hm7 := T.m7
  have hup := up_insert t.place T.up s hsp
  have hps : (insertAt t.place (below t.place s) s).size = es.size + 1 := by rw [size_insertAt, T.sz]
  unfold layNew at hpm ⊢
  rw [e] at hpm ⊢
  dsimp only at hpm ⊢
  unfold SetTable.put at hpm ⊢
  dsimp only at hpm ⊢
  cases wd with
  | true =>
    have hin := hd1 rfl
    have hhas := (has_iff t.dummies T.dup s).mpr hin
    rw [hhas]
    simp only [if_true]
    have hb : below t.dummies s < t.dummies.size := by
      unfold has at hhas
      have h' : t.dummies[below t.dummies s]? = some s := by simpa using hhas
      exact (Array.getElem?_eq_some_iff.mp h').1
    have hds := size_eraseAt t.dummies (below t.dummies s) hb
    have T' : TOK bt { t with place := insertAt t.place (below t.place s) s, dummies := eraseAt t.dummies (below t.dummies s) } (insertAt es (below t.place s) (h, x)).size := {
      sz := by rw [hes']; exact hps
      up := hup
      dup := up_erase _ T.dup _
      ple := fun j hj => by
        rcases (mem_insertAt _ _ _ _).mp hj with rfl | hj
        · exact hsm
        · exact T.ple j hj
      dle := fun j hj => T.dle j ((eraseAt_sub _ _).subset hj)
      dis := fun j hj hj' => by
        rw [mem_eraseAt_below _ T.dup _ _ hin] at hj'
        rcases (mem_insertAt _ _ _ _).mp hj with rfl | hj
        · exact hj'.1 rfl
        · exact T.dis j hj hj'.2
      room := by rw [hes']; show (es.size + 1 + (eraseAt t.dummies (below t.dummies s)).size) * 5 < t.mask * 3; rw [hds]; omega
      pow := T.pow
      m7 := hm7
      plain := T.plain
      led := T.led }
    have hf := T'.fits
    unfold SetTable.orStandIn
    rw [if_pos hf]
    exact ⟨insertAt es (below t.place s) (h, x), { t with place := insertAt t.place (below t.place s) s, dummies := eraseAt t.dummies (below t.dummies s) }, true, by rw [hf]; rfl, hpm, T.plain, T.led, hf, fun _ => T'⟩
  | false =>
    have hnin := hd2 rfl
    have hhas : has t.dummies s = false := by
      cases hh : has t.dummies s with
      | false => rfl
      | true => exact absurd ((has_iff t.dummies T.dup s).mp hh) hnin
    rw [hhas]
    simp only [Bool.false_eq_true, if_false]
    have hf : ({ t with place := insertAt t.place (below t.place s) s } : SetTable).fits (insertAt es (below t.place s) (h, x)).size = true := by
      simp only [SetTable.fits, SetTable.fill, Bool.and_eq_true, beq_iff_eq]
      refine ⟨by rw [hes']; exact hps, decide_eq_true ?_⟩
      rw [hps]; omega
    unfold SetTable.orStandIn
    rw [if_pos hf]
    refine ⟨insertAt es (below t.place s) (h, x), { t with place := insertAt t.place (below t.place s) s }, false, by rw [hf]; rfl, hpm, T.plain, T.led, hf, fun hn => ?_⟩
    have hn' : ¬ ((insertAt t.place (below t.place s) s).size + t.dummies.size) * 5 ≥ t.mask * 3 := by
      simpa [SetTable.tooFull, SetTable.fill] using hn
    exact {
      sz := by rw [hes']; exact hps
      up := hup
      dup := T.dup
      ple := fun j hj => by
        rcases (mem_insertAt _ _ _ _).mp hj with rfl | hj
        · exact hsm
        · exact T.ple j hj
      dle := T.dle
      dis := fun j hj hj' => by
        rcases (mem_insertAt _ _ _ _).mp hj with rfl | hj
        · exact hnin hj'
        · exact T.dis j hj hj'
      room := by rw [hes']; show (es.size + 1 + t.dummies.size) * 5 < t.mask * 3; rw [hps] at hn'; omega
      pow := T.pow
      m7 := hm7
      plain := T.plain
      led := T.led }

/-- an element's leaving -/
theorem drop_ok (T : TOK bt t n) (i : Nat) (hi : i < n) : TOK bt (t.drop i) (n - 1) := by
  have hsz := T.sz
  have hi' : i < t.place.size := by omega
  have hroom := T.room
  unfold SetTable.drop
  rw [Array.getElem?_eq_getElem hi']
  dsimp only
  have hj : t.place[i] ∈ t.place.toList := by rw [← Array.getElem_toList]; exact List.getElem_mem _
  have hjd := T.dis _ hj
  have hb := below_at t.place T.up t.place[i] i (Array.getElem?_eq_getElem hi')
  have hds : (insertAt t.dummies (below t.dummies t.place[i]) t.place[i]).size = t.dummies.size + 1 := size_insertAt _ _ _
  exact {
    sz := by show (eraseAt t.place i).size = n - 1; rw [size_eraseAt _ _ hi', hsz]
    up := up_erase _ T.up _
    dup := up_insert _ T.dup _ hjd
    ple := fun j h => T.ple j ((eraseAt_sub _ _).subset h)
    dle := fun j h => by
      rcases (mem_insertAt _ _ _ _).mp h with rfl | h
      · exact T.ple _ hj
      · exact T.dle j h
    dis := fun j h h' => by
      have h : j ∈ (eraseAt t.place (below t.place t.place[i])).toList := by rw [hb]; exact h
      rw [mem_eraseAt_below _ T.up _ _ hj] at h
      rcases (mem_insertAt _ _ _ _).mp h' with e | h'
      · exact h.1 e
      · exact T.dis j h.2 h'
    room := by show (n - 1 + (insertAt t.dummies (below t.dummies t.place[i]) t.place[i]).size) * 5 < t.mask * 3; rw [hds]; omega
    pow := T.pow
    m7 := T.m7
    plain := T.plain
    led := T.led }
end Mine
end

-- part SetW
section
open PySem PySem.W PyProof.Rows PySem.Spec PySem.Calls
namespace Mine

def byText (w : World) : Bool := w.params.followText "set-order"
def keyOf (e : Int × Value) : Nat := match e.2 with | .int i _ => i.toNat | _ => 0
def IsEnt (e : Int × Value) : Prop := ∃ (k : Nat) (tk : Tok), e = (hashInt k, .int k tk)
theorem keyOf_ent (h : Int) (k : Nat) (tk : Tok) : keyOf (h, .int (k : Int) tk) = k := by simp [keyOf]

/-- what a set of small natural numbers holds -/
def Held (w : World) (S : Nat → Bool) (es : Array (Int × Value)) (t : SetTable) : Prop :=
  (∀ e ∈ es.toList, IsEnt e) ∧ (es.toList.map keyOf).Nodup ∧ (∀ k, S k = true ↔ k ∈ es.toList.map keyOf) ∧ TOK (byText w) t es.size
structure BSet (w : World) (o : Obj) (S : Nat → Bool) : Prop where
  ex : o.ExactSet
  bd : ∀ k, S k = true → k < 1024
  dat : ∃ es ep t, o.data = .set es ep t ∧ Held w S es t

theorem BSet.congr {w : World} {o : Obj} {S S' : Nat → Bool} (B : BSet w o S) (h : ∀ k, S k = S' k) : BSet w o S' := by
  have : S = S' := funext h
  exact this ▸ B

section
variable {prog : Program} {w : World} {A : Around} {E : Value → Shared → Prop} {s : Shared} {a : Addr} {o : Obj} {S : Nat → Bool} {es : Array (Int × Value)} {ep : Nat} {t : SetTable}

theorem Held.elems (H : Held w S es t) : ElemsOf (PySem.intKind prog w) es.toList := fun e he => by
  obtain ⟨k, tk, rfl⟩ := H.1 e he
  exact ⟨⟨k, intKind_is prog w k tk, rfl⟩, rfl⟩
theorem Held.mem (H : Held w S es t) (k : Nat) : S k = true ↔ ∃ e ∈ es.toList, (PySem.intKind prog w).is (k : Int) e.2 = true := by
  rw [H.2.2.1 k, List.mem_map]
  constructor
  · rintro ⟨e, he, hk⟩
    obtain ⟨j, tk, rfl⟩ := H.1 e he
    rw [keyOf_ent] at hk
    subst hk
    exact ⟨_, he, intKind_is prog w _ tk⟩
  · rintro ⟨e, he, hk⟩
    obtain ⟨j, tk, rfl⟩ := H.1 e he
    have hj : (PySem.intKind prog w).is (j : Int) (Value.int (j : Int) tk) = true := intKind_is prog w _ tk
    have e1 := (PySem.intKind prog w).inj _ _ _ hk hj
    refine ⟨_, he, ?_⟩
    rw [keyOf_ent]; omega
theorem Held.size_le (H : Held w S es t) (bd : ∀ k, S k = true → k < 1024) : es.size ≤ 1024 := by
  have h1 : (es.toList.map keyOf).length ≤ (List.range 1024).length :=
    List.Nodup.length_le_of_subset H.2.1 fun k hk => List.mem_range.mpr (bd k ((H.2.2.1 k).mpr hk))
  simpa using h1
theorem Held.scan (H : Held w S es t) (bd : ∀ k, S k = true → k < 1024) : es.size < scanBound := by
  have := H.size_le bd
  unfold scanBound; omega
theorem Held.perm {es' : Array (Int × Value)} {t' : SetTable} (H : Held w S es t) (p : List.Perm es'.toList es.toList) (T : TOK (byText w) t' es'.size) : Held w S es' t' := by
  refine ⟨fun e he => H.1 e (p.mem_iff.mp he), ?_, fun k => ?_, T⟩
  · exact ((p.map keyOf).nodup_iff).mpr H.2.1
  · rw [H.2.2.1 k]; exact ((p.map keyOf).mem_iff).symm

theorem BSet.setObjOf (B : BSet w o S) : ∃ n, o.SetObjOf (PySem.intKind prog w) (fun k => decide (0 ≤ k) && S k.toNat) n := by
  obtain ⟨ex, bd, es, ep, t, hd, H⟩ := B
  refine ⟨es.size, ex, es, ep, t, hd, H.elems, fun k => ?_, rfl, H.2.2.2.fits⟩
  rw [Bool.and_eq_true, decide_eq_true_eq]
  constructor
  · rintro ⟨h0, h1⟩
    obtain ⟨e, he, hk⟩ := (H.mem (prog := prog) k.toNat).mp h1
    rw [Int.toNat_of_nonneg h0] at hk
    exact ⟨e, he, hk⟩
  · rintro ⟨e, he, hk⟩
    obtain ⟨j, tk, rfl⟩ := H.1 e he
    have hj : (PySem.intKind prog w).is (j : Int) (Value.int (j : Int) tk) = true := intKind_is prog w _ tk
    have e1 : k = (j : Int) := (PySem.intKind prog w).inj _ _ _ hk hj
    subst e1
    refine ⟨by omega, ?_⟩
    rw [Int.toNat_natCast]
    exact (H.mem (prog := prog) j).mpr ⟨_, he, hk⟩

theorem put_get {es' : Array (Int × Value)} {t' : SetTable} (ho : s.heap.get? a = some o) (hd : o.data = .set es ep t) :
    (s.heap.update a (Obj.putSet es' t')).get? a = some { o with data := .set es' (ep + 1) t' } := by
  have := Heap.get?_update_self (Obj.putSet es' t') ho (by rw [putSet_of es' t' hd]; rfl)
  rw [putSet_of es' t' hd] at this; exact this

theorem new_ok {Q : Value → Shared → Prop} (h : BSet w { cls := .type "set", dict := none, data := .set #[] 0 (.fresh 0 0 (!byText w)) } (fun _ => false) →
      Q (.ref s.heap.objs.size) { s with heap := s.heap.push { cls := .type "set", dict := none, data := .set #[] 0 (.fresh 0 0 (!byText w)) } }) :
    wpAny (model prog w) A (newSet (.type "set")) Q E s := by
  unfold newSet setsByText
  refine wpAny_bind (wpAny_bind (wpAny_askSetting (wpAny_pure ?_)))
  dsimp only
  simp only [newObj]
  exact wpAny_bind (wpAny_alloc (wpAny_pure (h ⟨⟨rfl, rfl, rfl⟩, (fun k h => nomatch h), #[], 0, _, rfl, fun e he => by simp at he, by simp, fun k => by simp, tok_fresh (byText w)⟩)))

theorem state_ok {Q : (Array (Int × Value) × Nat × SetTable) → Shared → Prop} (ho : s.heap.get? a = some o) (hd : o.data = .set es ep t) (H : Held w S es t) (h : Q (es, ep, t) s) :
    wpAny (model prog w) A (setState a) Q E s := wpAny_setState_of ho hd H.2.2.2.fits h
theorem entries_ok {Q : Array (Int × Value) → Shared → Prop} (ho : s.heap.get? a = some o) (hd : o.data = .set es ep t) (H : Held w S es t) (h : Q es s) :
    wpAny (model prog w) A (setEntries a) Q E s := wpAny_setEntries_of ho hd H.2.2.2.fits h
theorem epoch_ok {Q : Nat → Shared → Prop} (ho : s.heap.get? a = some o) (hd : o.data = .set es ep t) (H : Held w S es t) (h : Q ep s) :
    wpAny (model prog w) A (setEpoch a) Q E s := wpAny_setEpoch_of ho hd H.2.2.2.fits h
theorem byText_ok {Q : Bool → Shared → Prop} (h : Q (byText w) s) : wpAny (model prog w) A setsByText Q E s := by
  unfold setsByText
  exact wpAny_bind (wpAny_askSetting (wpAny_pure h))

/-- where a number stands -/
theorem find_ok {k : Nat} {tk : Tok} {Q : Option Nat → Shared → Prop} (ho : s.heap.get? a = some o) (hd : o.data = .set es ep t) (H : Held w S es t) (bd : ∀ k, S k = true → k < 1024)
    (h : ∀ r : Option Nat, r.isSome = S k → (∀ i, r = some i → ∃ hi : i < es.size, keyOf es[i] = k) → Q r s) : wpAny (model prog w) A (setFind a (.int (k : Int) tk) (hashInt k)) Q E s := by
  unfold setFind setFindIn
  refine wpAny_bind (state_ok ho hd H ?_)
  dsimp only
  rw [byScan_of rfl (H.scan bd) (H.elems (prog := prog))]
  simp only [↓reduceIte]
  refine wpAny_bind (wpAny_rule ?_)
  refine wpAny_bind (wpAny_setScan_of (knd := PySem.intKind prog w) (k := (k : Int)) (intKind_is prog w _ _) ho hd H.2.2.2.fits H.elems ?_)
  have hk := H.mem (prog := prog) k
  cases hr : List.findIdx? (fun e => (PySem.intKind prog w).is (k : Int) e.2) es.toList with
  | none =>
    dsimp only
    refine wpAny_pure (h none ?_ fun i hi => nomatch hi)
    rw [Option.isSome_none, eq_comm, ← Bool.not_eq_true, hk]
    rintro ⟨e, he, hpe⟩
    have := List.findIdx?_eq_none_iff.mp hr e he
    rw [hpe] at this; exact Bool.noConfusion this
  | some j =>
    dsimp only
    obtain ⟨hj, hpj, _⟩ := List.findIdx?_eq_some_iff_getElem.mp hr
    refine wpAny_pure (h (some (0 + j)) ?_ fun i hi => ?_)
    · rw [Option.isSome_some, eq_comm, hk]
      exact ⟨es.toList[j], List.getElem_mem hj, hpj⟩
    · have e : i = j := by have := Option.some.inj hi; omega
      subst e
      refine ⟨by simpa using hj, ?_⟩
      obtain ⟨j', tk', hj'⟩ := H.1 _ (List.getElem_mem hj)
      rw [hj'] at hpj
      have e1 := (PySem.intKind prog w).inj _ _ _ hpj (intKind_is prog w (j' : Int) tk')
      rw [Array.getElem_toList] at hj'
      rw [hj', keyOf_ent]; omega

/-- one more number -/
theorem addHashed_ok {k : Nat} {tk : Tok} {Q : Bool → Shared → Prop} (ho : s.heap.get? a = some o) (B : BSet w o S) (hk : k < 1024)
    (h : ∀ h' o', Heap.SameBut a s.heap h' → h'.get? a = some o' → BSet w o' (fun j => S j || decide (j = k)) → Q (!S k) { s with heap := h' }) :
    wpAny (model prog w) A (setAddHashed a (.int (k : Int) tk) (hashInt k)) Q E s := by
  obtain ⟨ex, bd, es, ep, t, hd, H⟩ := B
  have hb := H.scan bd
  have hle := H.size_le bd
  have bd' : ∀ j, (S j || decide (j = k)) = true → j < 1024 := fun j hj => by
    rcases Bool.or_eq_true_iff.mp hj with h1 | h1
    · exact bd j h1
    · exact (of_decide_eq_true h1) ▸ hk
  unfold setAddHashed setAddHashedIn
  refine wpAny_holding (wpAny_bind (state_ok ho hd H ?_))
  dsimp only
  rw [byScan_of rfl hb (H.elems (prog := prog))]
  simp only [↓reduceIte]
  unfold setAddByScan
  refine wpAny_bind ?_
  refine wpAny_bind (wpAny_rule ?_)
  refine wpAny_bind (wpAny_setScan_of (knd := PySem.intKind prog w) (k := (k : Int)) (intKind_is prog w _ _) ho hd H.2.2.2.fits H.elems ?_)
  have hmem := H.mem (prog := prog) k
  cases hr : List.findIdx? (fun e => (PySem.intKind prog w).is (k : Int) e.2) es.toList with
  | some j =>
    dsimp only
    obtain ⟨hj, hpj, _⟩ := List.findIdx?_eq_some_iff_getElem.mp hr
    have hSk : S k = true := hmem.mpr ⟨es.toList[j], List.getElem_mem hj, hpj⟩
    refine wpAny_pure (wpAny_pure ?_)
    have e : s = { s with heap := s.heap } := by cases s; rfl
    have := h s.heap o (Heap.SameBut.refl a s.heap) ho (BSet.congr ⟨ex, bd, es, ep, t, hd, H⟩ fun j => by
      by_cases e : j = k
      · subst e; rw [hSk]; rfl
      · simp [e])
    rw [hSk] at this; rw [e]; exact this
  | none =>
    dsimp only
    have hSk : S k = false := by
      cases hk' : S k with
      | false => rfl
      | true => obtain ⟨e, he, hp⟩ := hmem.mp hk'; have := List.findIdx?_eq_none_iff.mp hr e he; rw [hp] at this; exact Bool.noConfusion this
    have hgw : ∀ (b : Bool) {s₁ : Shared} {Q' : Unit → Shared → Prop}, Q' () s₁ → wpAny (model prog w) A (match b with | true => rule "set.scan.the-table-gave-way" | false => pure ()) Q' E s₁ :=
      fun b s₁ Q' hq => by cases b <;> first | exact wpAny_pure hq | exact wpAny_rule hq
    obtain ⟨es1, t1, wd, eL, hperm, hpl, hled, hfit, hok⟩ := layNew_ok H.2.2.2 (hashInt k) (.int (k : Int) tk)
    rw [eL]
    dsimp only
    rw [Array.toList_push] at hperm
    have hsz1 : es1.size = es.size + 1 := by have := hperm.length_eq; simpa using this
    have hH1 : ∀ (es' : Array (Int × Value)) (t' : SetTable), List.Perm es'.toList es1.toList → TOK (byText w) t' es'.size → Held w (fun j => S j || decide (j = k)) es' t' := by
      intro es' t' hp T
      have hp' := hp.trans hperm
      refine ⟨fun e he => ?_, ?_, fun j => ?_, T⟩
      · rcases List.mem_append.mp (hp'.mem_iff.mp he) with h1 | h1
        · exact H.1 e h1
        · rw [List.mem_singleton] at h1; exact ⟨k, tk, h1⟩
      · refine ((hp'.map keyOf).nodup_iff).mpr ?_
        rw [List.map_append, List.map_singleton, keyOf_ent]
        refine List.nodup_append.mpr ⟨H.2.1, by simp, fun x hx y hy => ?_⟩
        rw [List.mem_singleton] at hy
        rintro rfl
        subst hy
        rw [(H.2.2.1 x).mpr hx] at hSk; cases hSk
      · rw [(hp'.map keyOf).mem_iff, List.map_append, List.map_singleton, keyOf_ent, List.mem_append, List.mem_singleton, ← H.2.2.1 j, Bool.or_eq_true, decide_eq_true_eq]
    refine wpAny_bind (hgw false ?_)
    rw [hpl]
    simp only [if_true]
    refine wpAny_bind ?_
    rw [hashByValue_scannable 8 rfl]
    refine wpAny_pure ?_
    simp only [plainKind, if_true]
    refine wpAny_bind (wpAny_storeSet_of ho hd ?_ (fits_of_scanBound (by unfold scanBound; omega)))
    have ho1 := put_get (es' := es1) (t' := t1) ho hd
    have hsb1 := Heap.SameBut.update s.heap a (Obj.putSet es1 t1)
    have hend : ∀ h' o', Heap.SameBut a s.heap h' → h'.get? a = some o' → BSet w o' (fun j => S j || decide (j = k)) → Q true { s with heap := h' } := by
      intro h' o' h1 h2 h3; have := h h' o' h1 h2 h3; rw [hSk] at this; exact this
    cases hc : (!wd && t1.tooFull) with
    | true =>
      simp only [if_true]
      obtain ⟨es2, t2, e2, hT2, hp2⟩ := relayAll_ok (byText w) t1 hpl hled es1 (SetTable.grown es1.size) (by unfold SetTable.grown; split <;> omega) (by unfold SetTable.grown; split <;> omega)
      rw [e2]
      dsimp only
      have hsz2 : es2.size = es1.size := by have := hp2.length_eq; simpa using this
      refine wpAny_bind (hgw false ?_)
      refine wpAny_bind (wpAny_storeSet_of ho1 rfl ?_ (fits_of_scanBound (by unfold scanBound; omega)))
      refine wpAny_pure (wpAny_pure (hend _ _ (hsb1.trans (Heap.SameBut.update _ a _)) (put_get (s := { s with heap := _ }) ho1 rfl) ⟨ex, bd', es2, ep + 1 + 1, t2, rfl, hH1 es2 t2 hp2 (hsz2 ▸ hT2)⟩))
    | false =>
      simp only [Bool.false_eq_true, if_false]
      exact wpAny_pure (wpAny_pure (hend _ _ hsb1 ho1 ⟨ex, bd', es1, ep + 1, t1, rfl, hH1 es1 t1 (List.Perm.refl _) (hok hc)⟩))
end
end Mine
end

-- part SetX
section
open PySem PySem.W PyProof.Rows PySem.Spec PySem.Calls
namespace Mine
section
variable {prog : Program} {w : World} {A : Around} {E : Value → Shared → Prop} {s : Shared} {a : Addr} {o : Obj} {S : Nat → Bool} {es : Array (Int × Value)} {ep : Nat} {t : SetTable}

theorem discard_ok {k : Nat} {tk : Tok} {Q : Bool → Shared → Prop} (ho : s.heap.get? a = some o) (B : BSet w o S)
    (h : ∀ h' o', Heap.SameBut a s.heap h' → h'.get? a = some o' → BSet w o' (fun j => S j && !decide (j = k)) → Q (S k) { s with heap := h' }) :
    wpAny (model prog w) A (setDiscardHashed a (.int (k : Int) tk) (hashInt k)) Q E s := by
  obtain ⟨ex, bd, es, ep, t, hd, H⟩ := B
  have hle := H.size_le bd
  unfold setDiscardHashed
  refine wpAny_bind (find_ok ho hd H bd fun r hr hi => ?_)
  cases r with
  | none =>
    dsimp only
    have hSk : S k = false := hr.symm
    refine wpAny_pure ?_
    have := h s.heap o (Heap.SameBut.refl a s.heap) ho (BSet.congr ⟨ex, bd, es, ep, t, hd, H⟩ fun j => by
      by_cases e : j = k
      · subst e; rw [hSk]; rfl
      · simp [e])
    rw [hSk] at this
    exact this
  | some i =>
    dsimp only
    have hSk : S k = true := hr.symm
    obtain ⟨hlt, hki⟩ := hi i rfl
    refine wpAny_bind (state_ok ho hd H ?_)
    dsimp only
    have hsz := size_eraseAt es i hlt
    refine wpAny_bind (wpAny_storeSet_of ho hd ?_ (fits_of_scanBound (by unfold scanBound; omega)))
    refine wpAny_bind (wpAny_point (wpAny_pure ?_))
    have hsub := eraseAt_sub es i
    have hmem : ∀ j, j ∈ (SetTable.eraseAt es i).toList.map keyOf ↔ j ≠ k ∧ j ∈ es.toList.map keyOf := by
      intro j
      have e1 : (SetTable.eraseAt es i).toList.map keyOf = (es.toList.map keyOf).erase k := by
        rw [eraseAt_eq]
        have hl : i < (es.toList.map keyOf).length := by simpa using hlt
        have e2 : (es.toList.map keyOf)[i] = k := by simpa using hki
        rw [List.erase_eq_eraseIdx_of_idxOf (i := i) (by rw [← e2]; exact H.2.1.idxOf_getElem i hl)]
        simp only [List.eraseIdx_eq_take_drop_succ, List.map_append, List.map_take, List.map_drop]
      rw [e1, H.2.1.mem_erase_iff]
    have hB := h _ { o with data := .set (SetTable.eraseAt es i) (ep + 1) (t.drop i) } (Heap.SameBut.update s.heap a _) (put_get ho hd)
      ⟨ex, fun j hj => bd j (by rw [Bool.and_eq_true] at hj; exact hj.1), _, _, _, rfl,
        fun e he => H.1 e (hsub.subset he), List.Nodup.sublist (hsub.map keyOf) H.2.1, fun j => by
          rw [hmem j, ← H.2.2.1 j, Bool.and_eq_true, Bool.not_eq_true', decide_eq_false_iff_not]; exact And.comm, by
          rw [hsz]; exact drop_ok H.2.2.2 i hlt⟩
    rw [hSk] at hB
    exact hB

theorem pick_go {α : Type} (next : Nat → Nat) : ∀ (fuel k : Nat) (left : List α) (out : Array α), left.length ≤ fuel → List.Perm (pickOrder.go next fuel k left out).toList (out.toList ++ left)
  | 0, k, left, out, h => by
    have : left = [] := List.eq_nil_of_length_eq_zero (by omega)
    subst this
    unfold pickOrder.go
    simp
  | fuel + 1, k, left, out, h => by
    unfold pickOrder.go
    cases hg : left[next k % left.length]? with
    | none =>
      dsimp only
      have hl := List.getElem?_eq_none_iff.mp hg
      cases left with
      | nil => simp
      | cons x l => have := Nat.mod_lt (next k) (show 0 < (x :: l).length from Nat.succ_pos _); omega
    | some x =>
      dsimp only
      obtain ⟨hi, e⟩ := List.getElem?_eq_some_iff.mp hg
      refine (pick_go next fuel (k + 1) _ _ (by rw [List.length_eraseIdx_of_lt hi]; omega)).trans ?_
      rw [Array.toList_push, List.append_assoc]
      refine List.Perm.append_left _ ?_
      show List.Perm (x :: _) _
      rw [List.eraseIdx_eq_take_drop_succ]
      have e2 : left = left.take (next k % left.length) ++ x :: left.drop (next k % left.length + 1) := by
        rw [← e, List.getElem_cons_drop, List.take_append_drop]
      have p := (List.perm_middle (a := x) (l₁ := left.take (next k % left.length)) (l₂ := left.drop (next k % left.length + 1))).symm
      rw [← e2] at p
      exact p
theorem pick_perm {α : Type} (next : Nat → Nat) (xs : Array α) : List.Perm (pickOrder next xs).toList xs.toList := by
  unfold pickOrder
  have := pick_go next xs.size 0 xs.toList #[] (by simp)
  simpa using this

theorem walk_ok {Q : Array (Int × Value) → Shared → Prop} (ho : s.heap.get? a = some o) (hd : o.data = .set es ep t) (H : Held w S es t) (h : ∀ es' : Array (Int × Value), List.Perm es'.toList es.toList → Q es' s) :
    wpAny (model prog w) A (setWalk a) Q E s := by
  unfold setWalk
  refine wpAny_bind (state_ok ho hd H ?_)
  dsimp only
  refine wpAny_bind (byText_ok ?_)
  cases hb : byText w with
  | true =>
    simp only [if_true]
    exact wpAny_bind (wpAny_askSetting (wpAny_pure (h _ (pick_perm _ _))))
  | false =>
    simp only [Bool.false_eq_true, if_false]
    have hpl := H.2.2.2.plain
    have hled := H.2.2.2.led
    rw [hb] at hled
    refine wpAny_ite ?_
    split
    · rename_i hdr
      have : (!t.plain && decide (es.size > 1)) = true := hdr
      rw [hpl] at this
      cases this
    · refine wpAny_bind ?_
      show wpAny _ _ (if (!t.led && decide (es.size > 1)) = true then unsupported "set:maker-not-led" else pure ()) _ _ _
      rw [hled]
      simp only [Bool.not_false, Bool.not_true, Bool.false_and, Bool.false_eq_true, if_false]
      exact wpAny_pure (wpAny_pure (h es (List.Perm.refl _)))
theorem unseen_ok {others : List Addr} {filled : Option Addr} {Q : Array (Int × Value) → Shared → Prop} (ho : s.heap.get? a = some o) (hd : o.data = .set es ep t) (H : Held w S es t)
    (h : ∀ es' : Array (Int × Value), List.Perm es'.toList es.toList → Q es' s) : wpAny (model prog w) A (setWalkUnseen a others filled) Q E s := by
  unfold setWalkUnseen
  refine wpAny_bind (state_ok ho hd H ?_)
  dsimp only
  refine wpAny_bind (byText_ok ?_)
  have hpl := H.2.2.2.plain
  have hled := H.2.2.2.led
  have : (byText w || (t.led && t.plain) || decide (es.size ≤ 1)) = true := by
    rw [hpl, hled]; cases byText w <;> rfl
  rw [if_pos this]
  first | exact walk_ok ho hd H h | exact wpAny_bind (walk_ok ho hd H fun es' hp => wpAny_pure (h es' hp))

theorem forIn_ok {α : Type} {f : α → PUnit → Sem (ForInStep PUnit)} (I : List α → Shared → Prop) (step : ∀ x rem s, I (x :: rem) s → wpAny (model prog w) A (f x PUnit.unit) (fun st s' => st = .yield PUnit.unit ∧ I rem s') E s) :
    ∀ (l : List α) (s : Shared) {Q : PUnit → Shared → Prop}, I l s → (∀ s', I [] s' → Q PUnit.unit s') → wpAny (model prog w) A (forIn l PUnit.unit f) Q E s
  | [], s, Q, h, hQ => by rw [List.forIn_nil]; exact wpAny_pure (hQ s h)
  | x :: l, s, Q, h, hQ => by
    rw [List.forIn_cons]
    refine wpAny_bind (wpAny_mono (step x l s h) (fun st s' hs => ?_) fun _ _ e => e)
    obtain ⟨rfl, hI⟩ := hs
    exact forIn_ok I step l s' hI hQ

theorem relay_ok {wanted : Nat} {Q : Unit → Shared → Prop} (ho : s.heap.get? a = some o) (hd : o.data = .set es ep t) (H : Held w S es t) (ex : o.ExactSet) (bd : ∀ k, S k = true → k < 1024) (hw : 2 * es.size ≤ wanted) (hb : wanted < 1000000)
    (h : ∀ h' es' ep' t', Heap.SameBut a s.heap h' → h'.get? a = some { o with data := .set es' ep' t' } → Held w S es' t' → es'.size = es.size → t'.dummies = #[] → t'.mask + 1 = SetTable.sizeAbove wanted → Q () { s with heap := h' }) :
    wpAny (model prog w) A (setRelay a wanted) Q E s := by
  have hle := H.size_le bd
  obtain ⟨t', order, e1, e2, e3, e4, e5⟩ := relaid_ok (byText w) t H.2.2.2.plain H.2.2.2.led (es.map (·.1)) wanted (by rw [Array.size_map]; exact hw) hb
  rw [Array.size_map] at e2 e3
  have hsa := (sizeAbove_ok wanted hb).2.2.2
  have hp : List.Perm (order.filterMap (es[·]?)).toList es.toList := by
    rw [Array.toList_filterMap]
    exact (e3.filterMap _).trans (by rw [filterMap_getElem?_range])
  have hsz : (order.filterMap (es[·]?)).size = es.size := by have := hp.length_eq; rw [Array.length_toList, Array.length_toList] at this; exact this
  unfold setRelay
  refine wpAny_bind (state_ok ho hd H ?_)
  dsimp only
  rw [if_neg (by rw [PySem.sizeLine_eq]; omega)]
  rw [e1]
  have fin : wpAny (model prog w) A (storeSet a (order.filterMap (es[·]?)) t') Q E s := by
    refine wpAny_storeSet_of ho hd ?_ (fits_of_scanBound (by rw [hsz]; unfold scanBound; omega))
    exact h _ _ _ _ (Heap.SameBut.update s.heap a _) (put_get ho hd) (H.perm hp (hsz ▸ e2)) hsz e4 e5
  have main : wpAny (model prog w) A (do
      let es' := order.filterMap (es[·]?)
      if es'.size != es.size then unsupported "internal:set-table-lost-an-element"
      pure (es', t')) (fun x s' => wpAny (model prog w) A (storeSet a x.1 x.2) Q E s') E s := by
    dsimp only
    rw [hsz]
    simp only [bne_self_eq_false, Bool.false_eq_true, if_false]
    first | exact wpAny_bind (wpAny_pure (wpAny_pure fin)) | exact wpAny_pure fin
  first
  | exact wpAny_bind main
  | exact wpAny_bind (wpAny_pure (wpAny_bind main))
  | (refine wpAny_bind ?_; exact main)
end
end Mine
end

-- part SetY
section
open PySem PySem.W PyProof.Rows PySem.Spec PySem.Calls
namespace Mine
section
variable {prog : Program} {w : World} {A : Around} {E : Value → Shared → Prop} {s : Shared} {a : Addr} {o : Obj} {S : Nat → Bool} {es : Array (Int × Value)} {ep : Nat} {t : SetTable}

theorem roomFor_ok {more : Nat} {Q : Unit → Shared → Prop} (ho : s.heap.get? a = some o) (hd : o.data = .set es ep t) (H : Held w S es t) (ex : o.ExactSet) (bd : ∀ k, S k = true → k < 1024) (hm : 0 < more) (hm' : more ≤ 1024)
    (h : ∀ h' es' ep' t', Heap.SameBut a s.heap h' → h'.get? a = some { o with data := .set es' ep' t' } → Held w S es' t' → es'.size = es.size → (t'.fill + more) * 5 < t'.mask * 3 → Q () { s with heap := h' }) :
    wpAny (model prog w) A (setRoomFor a more) Q E s := by
  have hle := H.size_le bd
  have hsz := H.2.2.2.sz
  unfold setRoomFor
  refine wpAny_bind (state_ok ho hd H ?_)
  dsimp only
  unfold SetTable.roomFor
  by_cases hc : (t.fill + more) * 5 ≥ t.mask * 3
  · rw [if_pos hc]
    dsimp only
    refine relay_ok ho hd H ex bd (by rw [hsz]; omega) (by rw [hsz]; omega) fun h' es' ep' t' a1 a2 a3 a4 a5 a6 => h h' es' ep' t' a1 a2 a3 a4 ?_
    have h1 := (sizeAbove_ok ((t.place.size + more) * 2) (by rw [hsz]; omega)).1
    have h2 := a3.2.2.2.sz
    unfold SetTable.fill
    rw [a5]
    show (t'.place.size + 0 + more) * 5 < t'.mask * 3
    omega
  · rw [if_neg hc]
    dsimp only
    have e : s = { s with heap := s.heap } := by cases s; rfl
    refine wpAny_pure ?_
    have e2 : o = { o with data := .set es ep t } := by rw [← hd]
    have := h s.heap es ep t (Heap.SameBut.refl a s.heap) (e2 ▸ ho) H rfl (by omega)
    exact this

theorem Held.of_empty (H : Held w S es t) (h : es.size = 0) (k : Nat) : S k = false := by
  cases hk : S k with
  | false => rfl
  | true =>
    have := (H.2.2.1 k).mp hk
    have e : es.toList = [] := List.eq_nil_of_length_eq_zero (by simpa using h)
    rw [e] at this
    cases this

theorem bset_or_empty {S' : Nat → Bool} (h : ∀ k, S k = false) : ∀ k, S' k = (S k || S' k) := fun k => by rw [h k]; rfl

/-- one by one -/
theorem each_ok {b : Addr} {ob : Obj} {So : Nat → Bool} {eo : Array (Int × Value)} {to : SetTable} {f : Int × Value → PUnit → Sem (ForInStep PUnit)} (hab : b ≠ a) (bdo : ∀ k, So k = true → k < 1024)
    (hf : ∀ (k : Nat) (tk : Tok) (s₁ : Shared) (P : Shared → Prop), s₁.heap.get? b = some ob → wpAny (model prog w) A (setAddHashed a (.int (k : Int) tk) (hashInt k)) (fun _ s' => s'.heap.get? b = some ob ∧ P s') E s₁ →
      wpAny (model prog w) A (f (hashInt k, .int (k : Int) tk) PUnit.unit) (fun st s' => st = .yield PUnit.unit ∧ P s') E s₁)
    (hob : s.heap.get? b = some ob) (Ho : Held w So eo to) (ho : s.heap.get? a = some o) (B : BSet w o S) (l : List (Int × Value)) (hl : List.Perm l eo.toList) {Q : PUnit → Shared → Prop}
    (h : ∀ h' o', Heap.SameBut a s.heap h' → h'.get? a = some o' → BSet w o' (fun j => S j || So j) → Q PUnit.unit { s with heap := h' }) :
    wpAny (model prog w) A (forIn l PUnit.unit f) Q E s := by
  refine forIn_ok (fun rem s₁ => ∃ done h' o', done ++ rem = l ∧ s₁ = { s with heap := h' } ∧ Heap.SameBut a s.heap h' ∧ h'.get? a = some o' ∧ BSet w o' (fun j => S j || decide (j ∈ done.map keyOf))) ?_ l s
    ⟨[], s.heap, o, rfl, by cases s; rfl, Heap.SameBut.refl _ _, ho, BSet.congr B fun j => by simp⟩ ?_
  · rintro x rem s₁ ⟨done, h', o', e, rfl, hsb, ho', B'⟩
    have hx : x ∈ eo.toList := hl.mem_iff.mp (by rw [← e]; simp)
    obtain ⟨k, tk, rfl⟩ := Ho.1 x hx
    have hk : k < 1024 := bdo k ((Ho.2.2.1 k).mpr (List.mem_map.mpr ⟨_, hx, keyOf_ent _ _ _⟩))
    have hb' : h'.get? b = some ob := (hsb.2 b hab).trans hob
    refine hf k tk _ (fun s' => ∃ done h' o', done ++ rem = l ∧ s' = { s with heap := h' } ∧ Heap.SameBut a s.heap h' ∧ h'.get? a = some o' ∧ BSet w o' (fun j => S j || decide (j ∈ done.map keyOf))) hb' ?_
    refine addHashed_ok (s := { s with heap := h' }) ho' B' hk fun h2 o2 hsb2 ho2 B2 => ⟨(hsb2.2 b hab).trans hb', done ++ [(hashInt k, .int (k : Int) tk)], h2, o2, by rw [← e]; simp, rfl, hsb.trans hsb2, ho2, BSet.congr B2 fun j => ?_⟩
    rw [List.map_append, List.map_singleton, keyOf_ent, Bool.or_assoc]
    congr 1
    rw [Bool.eq_iff_iff]
    simp [List.mem_append]
  · rintro s₁ ⟨done, h', o', e, rfl, hsb, ho', B'⟩
    rw [List.append_nil] at e
    subst e
    refine h h' o' hsb ho' (BSet.congr B' fun j => ?_)
    congr 1
    rw [Bool.eq_iff_iff, decide_eq_true_eq, Ho.2.2.1 j]
    exact (hl.map keyOf).mem_iff

theorem merge_ok {b : Addr} {ob : Obj} {So : Nat → Bool} {each : Sem Unit} {Q : Unit → Shared → Prop} (hab : b ≠ a)
    (heach : ∀ (s₁ : Shared) (P : Unit → Shared → Prop), s₁.heap.get? b = some ob → P () s₁ → wpAny (model prog w) A each P E s₁)
    (hob : s.heap.get? b = some ob) (Bo : BSet w ob So) (ho : s.heap.get? a = some o) (B : BSet w o S)
    (h : ∀ h' o', Heap.SameBut a s.heap h' → h'.get? a = some o' → BSet w o' (fun j => S j || So j) → Q () { s with heap := h' }) :
    wpAny (model prog w) A (setMerge a b each) Q E s := by
  obtain ⟨exo, bdo, eo, po, to, hdo, Ho⟩ := id Bo
  obtain ⟨ex, bd, es, ep, t, hd, H⟩ := id B
  have hleo := Ho.size_le bdo
  have bd' : ∀ j, (S j || So j) = true → j < 1024 := fun j hj => by
    rcases Bool.or_eq_true_iff.mp hj with h1 | h1
    · exact bd j h1
    · exact bdo j h1
  unfold setMerge
  have hne : (a == b) = false := by simpa using fun e : a = b => hab e.symm
  rw [hne]
  simp only [Bool.false_eq_true, if_false]
  refine wpAny_bind (state_ok hob hdo Ho ?_)
  dsimp only
  cases hem : eo.isEmpty with
  | true =>
    simp only [if_true]
    have e0 : eo.size = 0 := by simpa using hem
    have e : s = { s with heap := s.heap } := by cases s; rfl
    have := h s.heap o (Heap.SameBut.refl _ _) ho (BSet.congr B fun j => by rw [Ho.of_empty e0 j, Bool.or_false])
    exact wpAny_pure this
  | false =>
    simp only [Bool.false_eq_true, if_false]
    have e0 : 0 < eo.size := by
      have : eo ≠ #[] := by intro hh; rw [hh] at hem; cases hem
      exact Array.size_pos_iff.mpr this
    refine wpAny_bind (roomFor_ok ho hd H ex bd e0 hleo fun h1 es1 ep1 t1 hsb1 ho1 H1 hs1 hr1 => ?_)
    have hob1 : h1.get? b = some ob := (hsb1.2 b hab).trans hob
    refine wpAny_bind (state_ok (s := { s with heap := h1 }) ho1 rfl H1 ?_)
    dsimp only
    unfold SetTable.road
    by_cases hfill : t1.fill = 0
    · have es0 : es1.size = 0 := by have := H1.2.2.2.sz; unfold SetTable.fill at hfill; omega
      have hSf : ∀ k, S k = false := H1.of_empty es0
      have hc1 : (t1.fill != 0) = false := by rw [hfill]; rfl
      rw [hc1]
      simp only [Bool.false_eq_true, if_false]
      by_cases hm : (t1.mask == to.mask && to.dummies.isEmpty) = true
      · rw [if_pos hm]
        dsimp only
        refine wpAny_storeSet_of (s := { s with heap := h1 }) ho1 rfl ?_ (fits_of_scanBound (by unfold scanBound; omega))
        refine h _ _ (hsb1.trans (Heap.SameBut.update h1 a _)) (put_get (s := { s with heap := h1 }) ho1 rfl) ⟨ex, bd', eo, ep1 + 1, _, rfl, Ho.1, Ho.2.1, fun k => ?_, ?_⟩
        · show (S k || So k) = true ↔ _
          rw [← Ho.2.2.1 k, hSf k, Bool.false_or]
        · have T := Ho.2.2.2
          have T1 := H1.2.2.2
          exact { sz := T.sz, up := T.up, dup := T.dup, ple := T.ple, dle := T.dle, dis := T.dis, room := T.room, pow := T.pow, m7 := T.m7, plain := by show (t1.plain && to.plain) = true; rw [T1.plain, T.plain]; rfl, led := by show (t1.led && to.led) = _; rw [T1.led, T.led, Bool.and_self] }
      · rw [if_neg hm]
        dsimp only
        have T1 := H1.2.2.2
        have T := Ho.2.2.2
        obtain ⟨q, hq⟩ := T1.pow
        obtain ⟨t', order, e1, e2, e3, e4, e5⟩ := laid_ok (byText w) hq T1.m7 t1.finger t1.moves (t1.led && to.led) (by rw [T1.led, T.led, Bool.and_self]) (eo.map (·.1)) (by rw [Array.size_map]; omega)
        rw [Array.size_map] at e2 e3
        have hp : List.Perm (order.filterMap (eo[·]?)).toList eo.toList := by
          rw [Array.toList_filterMap]
          exact (e3.filterMap _).trans (by rw [filterMap_getElem?_range])
        have hsz : (order.filterMap (eo[·]?)).size = eo.size := by have := hp.length_eq; rw [Array.length_toList, Array.length_toList] at this; exact this
        have epl : (t1.plain && to.plain) = true := by rw [T1.plain, T.plain]; rfl
        rw [epl, e1]
        have fin : wpAny (model prog w) A (storeSet a (order.filterMap (eo[·]?)) t') Q E { s with heap := h1 } := by
          refine wpAny_storeSet_of (s := { s with heap := h1 }) ho1 rfl ?_ (fits_of_scanBound (by rw [hsz]; unfold scanBound; omega))
          refine h _ _ (hsb1.trans (Heap.SameBut.update h1 a _)) (put_get (s := { s with heap := h1 }) ho1 rfl) ⟨ex, bd', _, ep1 + 1, t', rfl, ?_⟩
          have H2 : Held w So (order.filterMap (eo[·]?)) t' := Ho.perm hp (hsz ▸ e2)
          exact ⟨H2.1, H2.2.1, fun k => by show (S k || So k) = true ↔ _; rw [← H2.2.2.1 k, hSf k, Bool.false_or], H2.2.2.2⟩
        have main : wpAny (model prog w) A (do
            let es' := order.filterMap (eo[·]?)
            if es'.size != eo.size then unsupported "internal:set-table-lost-an-element"
            pure (es', t')) (fun x s' => wpAny (model prog w) A (storeSet a x.1 x.2) Q E s') E { s with heap := h1 } := by
          dsimp only
          rw [hsz]
          simp only [bne_self_eq_false, Bool.false_eq_true, if_false]
          first | exact wpAny_bind (wpAny_pure (wpAny_pure fin)) | exact wpAny_pure fin
        first
        | exact wpAny_bind main
        | exact wpAny_bind (wpAny_pure (wpAny_bind main))
        | (refine wpAny_bind ?_; exact main)
    · have hc1 : (t1.fill != 0) = true := by simpa using hfill
      rw [hc1]
      simp only [if_true]
      refine wpAny_bind (unseen_ok (s := { s with heap := h1 }) hob1 hdo Ho fun es' hp => ?_)
      have B1 : BSet w { o with data := .set es1 ep1 t1 } S := ⟨ex, bd, _, _, _, rfl, H1⟩
      have key : ∀ {f : Int × Value → PUnit → Sem (ForInStep PUnit)}, (∀ (k : Nat) (tk : Tok) (s₁ : Shared) (P : Shared → Prop), s₁.heap.get? b = some ob → wpAny (model prog w) A (setAddHashed a (.int (k : Int) tk) (hashInt k)) (fun _ s' => s'.heap.get? b = some ob ∧ P s') E s₁ →
          wpAny (model prog w) A (f (hashInt k, .int (k : Int) tk) PUnit.unit) (fun st s' => st = .yield PUnit.unit ∧ P s') E s₁) →
          wpAny (model prog w) A (forIn es' PUnit.unit f) (fun _ s' => Q () s') E { s with heap := h1 } := by
        intro f hf
        rw [← Array.forIn_toList]
        exact each_ok (s := { s with heap := h1 }) hab bdo hf hob1 Ho ho1 B1 es'.toList hp fun h' o' b1 b2 b3 => h h' o' (hsb1.trans b1) b2 b3
      refine wpAny_bind (wpAny_mono (key ?_) (fun _ s' q => wpAny_pure q) fun _ _ e => e)
      intro k tk s₁ P hb1 hk
      dsimp only
      refine wpAny_bind (wpAny_holding (wpAny_mono hk (fun _ s' q => ?_) fun _ _ e => e))
      obtain ⟨hb', hP⟩ := q
      refine wpAny_bind (heach s' _ hb' ?_)
      refine wpAny_bind (state_ok hb' hdo Ho ?_)
      dsimp only
      simp only [bne_self_eq_false, Bool.false_eq_true, if_false]
      exact wpAny_pure ⟨rfl, hP⟩
end
end Mine
end

-- part SetZ
section
open PySem PySem.W PyProof.Rows PySem.Spec PySem.Calls
namespace Mine

abbrev Grows (h h' : Heap) : Prop := ∀ b o, h.get? b = some o → h'.get? b = some o
theorem sameBut_grows {a : Addr} {h₀ h h' : Heap} (g : Grows h₀ h) (hs : Heap.SameBut a h h') (ha : h₀.objs.size ≤ a) : Grows h₀ h' := fun b o e =>
  (hs.2 b (Nat.ne_of_lt (Nat.lt_of_lt_of_le (Heap.lt_size e) ha))).trans (g b o e)

section
variable {prog : Program} {w : World} {A : Around} {E : Value → Shared → Prop} {s : Shared} {a b : Addr} {o ob : Obj} {S So : Nat → Bool} {es : Array (Int × Value)} {ep : Nat} {t : SetTable}

theorem BSet.dup (B : BSet w o S) : o.ExactSet ∧ (∀ k, S k = true → k < 1024) ∧ ∃ es ep t, o.data = .set es ep t ∧ Held w S es t := ⟨B.ex, B.bd, B.dat⟩
theorem BSet.typeIs (ho : s.heap.get? a = some o) (B : BSet w o S) : s.TypeIs (.ref a) "set" := ⟨o, ho, B.ex.1⟩

theorem anySet_ok {Q : Bool → Shared → Prop} (ho : s.heap.get? a = some o) (B : BSet w o S) (h : Q true s) : wpAny (model prog w) A (Builtin.Frozenset.isAnySet (.ref a)) Q E s := by
  unfold Builtin.Frozenset.isAnySet
  refine wpAny_bind (wpAny_isInstance (B.typeIs ho) sub_set_self ?_)
  exact wpAny_pure h
theorem baseOf_ok {Q : Value → Shared → Prop} (ho : s.heap.get? a = some o) (B : BSet w o S) (h : Q (.type "set") s) : wpAny (model prog w) A (Builtin.Frozenset.baseOf a) Q E s := by
  unfold Builtin.Frozenset.baseOf
  refine wpAny_bind (wpAny_isInstance (B.typeIs ho) sub_set_self ?_)
  exact wpAny_pure h
theorem slot1_ok {name : String} {u v : Value} {Q : Value × Value → Shared → Prop} (h : Q (u, v) s) : wpAny (model prog w) A (Builtin.Frozenset.slot1 name ⟨[u, v], []⟩) Q E s := by
  unfold Builtin.Frozenset.slot1 slotArgs
  simp only [List.isEmpty_nil, Bool.not_true, Bool.false_eq_true, ↓reduceIte, bind_assoc, List.length_cons, List.length_nil, bne_self_eq_false]
  first | exact wpAny_pure h | exact wpAny_bind (wpAny_pure (wpAny_pure h)) | (refine wpAny_bind (wpAny_pure ?_); refine wpAny_bind (wpAny_pure ?_); exact wpAny_pure h)

/-- what a new set leaves behind -/
abbrev NewSet (w : World) (s : Shared) (S : Nat → Bool) (Q : Value → Shared → Prop) : Prop :=
  ∀ h' o', Grows s.heap h' → s.heap.objs.size < h'.objs.size → h'.get? s.heap.objs.size = some o' → BSet w o' S → Q (.ref s.heap.objs.size) { s with heap := h' }

theorem push_lt {h : Heap} {x : Obj} : h.objs.size < (h.push x).objs.size := by rw [Heap.size_push]; exact Nat.lt_succ_self _
theorem size_eq {h h' : Heap} (hs : Heap.SameBut a h h') : h'.objs.size = h.objs.size := hs.1

theorem copyOf_ok {Q : Value → Shared → Prop} (ho : s.heap.get? a = some o) (B : BSet w o S) (h : NewSet w s S Q) : wpAny (model prog w) A (Builtin.Frozenset.copyOf a) Q E s := by
  unfold Builtin.Frozenset.copyOf
  refine wpAny_bind (baseOf_ok ho B ?_)
  refine wpAny_bind (new_ok fun B0 => ?_)
  try dsimp only
  refine wpAny_bind (wpAny_pure ?_)
  have hne : a ≠ s.heap.objs.size := Nat.ne_of_lt (Heap.lt_size ho)
  refine wpAny_bind (merge_ok (s := { s with heap := _ }) hne (fun _ _ _ p => wpAny_pure p) (Heap.get?_push_of_some _ ho) B (Heap.get?_push_size _ rfl) B0 fun h' o' h1 h2 h3 => ?_)
  refine wpAny_pure (h h' o' (sameBut_grows (fun b x e => Heap.get?_push_of_some _ e) h1 (Nat.le_refl _)) (by rw [size_eq h1]; exact push_lt) h2 (BSet.congr h3 fun j => by simp))

theorem updateFrom_ok {nm : String} {Q : Unit → Shared → Prop} (hab : b ≠ a) (hob : s.heap.get? b = some ob) (Bo : BSet w ob So) (ho : s.heap.get? a = some o) (B : BSet w o S)
    (h : ∀ h' o', Heap.SameBut a s.heap h' → h'.get? a = some o' → BSet w o' (fun j => S j || So j) → Q () { s with heap := h' }) :
    wpAny (model prog w) A (Builtin.Frozenset.updateFrom nm a (.ref b)) Q E s := by
  unfold Builtin.Frozenset.updateFrom
  refine wpAny_bind (anySet_ok hob Bo ?_)
  simp only [if_true]
  refine wpAny_bind (wpAny_pure ?_)
  unfold Builtin.Frozenset.merge
  obtain ⟨exo, bdo, eo, po, to, hdo, Ho⟩ := Bo.dup
  refine wpAny_bind (epoch_ok hob hdo Ho ?_)
  refine merge_ok hab (fun s₁ P hb p => ?_) hob Bo ho B h
  unfold Builtin.Frozenset.unchanged
  refine wpAny_bind (epoch_ok hb hdo Ho ?_)
  simp only [bne_self_eq_false, Bool.false_eq_true, if_false]
  exact wpAny_pure p

theorem union_ok {Q : Value → Shared → Prop} {f : String → Addr → Value → Sem Value} {nm : String} (hf : f nm a (.ref b) = (do
      let result ← Builtin.Frozenset.copyOf a
      if Value.ref b != .ref a then holding [result] (Builtin.Frozenset.updateFrom nm (← Builtin.Frozenset.addrOf result) (.ref b))
      return result)) (hab : b ≠ a) (hob : s.heap.get? b = some ob) (Bo : BSet w ob So) (ho : s.heap.get? a = some o) (B : BSet w o S) (h : NewSet w s (fun j => S j || So j) Q) :
    wpAny (model prog w) A (f nm a (.ref b)) Q E s := by
  rw [hf]
  refine wpAny_bind (copyOf_ok ho B fun h1 o1 g1 l1 e1 B1 => ?_)
  have hne : (Value.ref b != .ref a) = true := by simpa using hab
  rw [hne]
  simp only [if_true]
  have hbn : b ≠ s.heap.objs.size := Nat.ne_of_lt (Heap.lt_size hob)
  refine wpAny_bind (wpAny_pure ?_)
  refine wpAny_bind (wpAny_holding ?_)
  refine updateFrom_ok (s := { s with heap := h1 }) hbn (g1 _ _ hob) Bo e1 B1 fun h' o' h2 h3 h4 => ?_
  exact wpAny_pure (h h' o' (sameBut_grows g1 h2 (Nat.le_refl _)) (by rw [size_eq h2]; exact l1) h3 h4)

/-- a loop over a set that stays, filling or thinning another -/
theorem loop_ok {c : Addr} {f : Int × Value → PUnit → Sem (ForInStep PUnit)} {G : (Nat → Bool) → Nat → Nat → Bool} (I : Heap → Prop)
    (hf : ∀ (k : Nat) (tk : Tok) (s₁ : Shared) (o₁ : Obj) (S₁ : Nat → Bool) (P : Shared → Prop), So k = true → k < 1024 → I s₁.heap → s₁.heap.get? c = some o₁ → BSet w o₁ S₁ →
      (∀ h' o', Heap.SameBut c s₁.heap h' → h'.get? c = some o' → BSet w o' (G S₁ k) → P { s₁ with heap := h' }) →
      wpAny (model prog w) A (f (hashInt k, .int (k : Int) tk) PUnit.unit) (fun st s' => st = .yield PUnit.unit ∧ P s') E s₁)
    (hI : ∀ h h', I h → Heap.SameBut c h h' → I h') (hI0 : I s.heap) {eo : Array (Int × Value)} {to : SetTable} (Ho : Held w So eo to) (bdo : ∀ k, So k = true → k < 1024) (ho : s.heap.get? c = some o) (B : BSet w o S) (l : List (Int × Value)) (hl : List.Perm l eo.toList) {Q : PUnit → Shared → Prop}
    (h : ∀ h' o' (ks : List Nat), ks.Nodup → (∀ k, k ∈ ks ↔ So k = true) → Heap.SameBut c s.heap h' → h'.get? c = some o' → BSet w o' (ks.foldl G S) → Q PUnit.unit { s with heap := h' }) :
    wpAny (model prog w) A (forIn l PUnit.unit f) Q E s := by
  refine forIn_ok (fun rem s₁ => ∃ done h' o', done ++ rem = l ∧ s₁ = { s with heap := h' } ∧ Heap.SameBut c s.heap h' ∧ h'.get? c = some o' ∧ I h' ∧ BSet w o' ((done.map keyOf).foldl G S)) ?_ l s
    ⟨[], s.heap, o, rfl, by cases s; rfl, Heap.SameBut.refl _ _, ho, hI0, B⟩ ?_
  · rintro x rem s₁ ⟨done, h', o', e, rfl, hsb, ho', hI', B'⟩
    have hx : x ∈ eo.toList := hl.mem_iff.mp (by rw [← e]; simp)
    obtain ⟨k, tk, rfl⟩ := Ho.1 x hx
    have hk := (Ho.2.2.1 k).mpr (List.mem_map.mpr ⟨_, hx, keyOf_ent _ _ _⟩)
    refine hf k tk { s with heap := h' } o' _ _ hk (bdo k hk) hI' ho' B' fun h2 o2 hsb2 ho2 B2 => ⟨done ++ [(hashInt k, .int (k : Int) tk)], h2, o2, by rw [← e]; simp, rfl, hsb.trans hsb2, ho2, hI _ _ hI' hsb2, ?_⟩
    rw [List.map_append, List.map_singleton, keyOf_ent, List.foldl_append]
    exact B2
  · rintro s₁ ⟨done, h', o', e, rfl, hsb, ho', hI', B'⟩
    rw [List.append_nil] at e
    subst e
    exact h h' o' (done.map keyOf) (((hl.map keyOf).nodup_iff).mpr Ho.2.1) (fun k => ((hl.map keyOf).mem_iff).trans (Ho.2.2.1 k).symm) hsb ho' B'

theorem unchanged_ok {nm : String} {Q : Unit → Shared → Prop} (ho : s.heap.get? a = some o) (hd : o.data = .set es ep t) (H : Held w S es t) (h : Q () s) : wpAny (model prog w) A (Builtin.Frozenset.unchanged nm a ep) Q E s := by
  unfold Builtin.Frozenset.unchanged
  refine wpAny_bind (epoch_ok ho hd H ?_)
  simp only [bne_self_eq_false, Bool.false_eq_true, if_false]
  exact wpAny_pure h
theorem sizeOf_ok {Q : Nat → Shared → Prop} (ho : s.heap.get? a = some o) (hd : o.data = .set es ep t) (H : Held w S es t) (h : Q es.size s) : wpAny (model prog w) A (Builtin.Frozenset.sizeOf a) Q E s := by
  unfold Builtin.Frozenset.sizeOf
  exact wpAny_bind (entries_ok ho hd H (wpAny_pure h))

theorem fold_and (So' : Nat → Bool) : ∀ (ks : List Nat) (S : Nat → Bool) (j : Nat), (ks.foldl (fun S₁ k j => S₁ j || (So' k && decide (j = k))) S) j = (S j || (decide (j ∈ ks) && So' j))
  | [], S, j => by simp
  | k :: ks, S, j => by
    rw [List.foldl_cons, fold_and So' ks]
    by_cases e : j = k
    · subst e; cases S j <;> cases So' j <;> simp
    · simp [e]
end
end Mine
end

-- part SetV
section
open PySem PySem.W PyProof.Rows PySem.Spec PySem.Calls
namespace Mine

section
variable {prog : Program} {w : World} {A : Around} {E : Value → Shared → Prop} {s : Shared} {a b : Addr} {o ob : Obj} {S So : Nat → Bool} {es : Array (Int × Value)} {ep : Nat} {t : SetTable}

theorem fold_minus : ∀ (ks : List Nat) (S : Nat → Bool) (j : Nat), (ks.foldl (fun S₁ k j => S₁ j && !decide (j = k)) S) j = (S j && !decide (j ∈ ks))
  | [], S, j => by simp
  | k :: ks, S, j => by
    rw [List.foldl_cons, fold_minus ks]
    by_cases e : j = k
    · subst e; simp
    · simp [e]
theorem fold_flip : ∀ (ks : List Nat) (S : Nat → Bool) (j : Nat), ks.Nodup → (ks.foldl (fun S₁ k j => if j = k then !S₁ j else S₁ j) S) j = (S j ^^ decide (j ∈ ks))
  | [], S, j, _ => by simp
  | k :: ks, S, j, h => by
    rw [List.nodup_cons] at h
    rw [List.foldl_cons, fold_flip ks _ _ h.2]
    by_cases e : j = k
    · subst e; simp [h.1]
    · simp [e]
theorem mem_dec {ks : List Nat} (h : ∀ k, k ∈ ks ↔ So k = true) (j : Nat) : decide (j ∈ ks) = So j := by
  rw [Bool.eq_iff_iff, decide_eq_true_eq]; exact h j

theorem and_step {c q : Addr} {oa ow : Obj} {Sa Sw : Nat → Bool} {ew : Array (Int × Value)} {pw : Nat} {tw : SetTable} {nm : String} {o₁ : Obj} {S₁ : Nat → Bool} {P : Shared → Prop} {k : Nat} {tk : Tok} {neg : Bool}
    (ha : s.heap.get? a = some oa) (Ba : BSet w oa Sa) (hw : s.heap.get? q = some ow) (hdw : ow.data = .set ew pw tw) (Hw : Held w Sw ew tw) (hq : q ≠ c) (hk : k < 1024) (hr : s.heap.get? c = some o₁) (B₁ : BSet w o₁ S₁)
    {body : Option Nat → Sem Unit} (hb : ∀ r, body r = if (r.isSome ^^ neg) = true then (do let _ ← setAddHashed c (.int (k : Int) tk) (hashInt k); pure ()) else pure ())
    (hP : ∀ h' o', Heap.SameBut c s.heap h' → h'.get? c = some o' → BSet w o' (fun j => S₁ j || ((Sa k ^^ neg) && decide (j = k))) → P { s with heap := h' }) :
    wpAny (model prog w) A (do
      holding [Value.int (k : Int) tk] do
          let r ← setFind a (Value.int (k : Int) tk) (hashInt k)
          body r
      Builtin.Frozenset.unchanged nm q pw
      pure (ForInStep.yield PUnit.unit)) (fun st s' => st = ForInStep.yield PUnit.unit ∧ P s') E s := by
  obtain ⟨exa, bda, ea, pa, ta, hda, Ha⟩ := Ba.dup
  refine wpAny_bind (wpAny_holding (wpAny_bind (find_ok ha hda Ha bda fun r hr' _ => ?_)))
  rw [hb r, hr']
  cases hs : (Sa k ^^ neg) with
  | true =>
    simp only [if_true]
    refine wpAny_bind (addHashed_ok hr B₁ hk fun h' o' h1 h2 h3 => wpAny_pure ?_)
    refine wpAny_bind (unchanged_ok (s := { s with heap := h' }) ((h1.2 q hq).trans hw) hdw Hw ?_)
    exact wpAny_pure ⟨rfl, hP h' o' h1 h2 (BSet.congr h3 fun j => by rw [hs, Bool.true_and])⟩
  | false =>
    simp only [Bool.false_eq_true, if_false]
    refine wpAny_pure ?_
    refine wpAny_bind (unchanged_ok hw hdw Hw ?_)
    exact wpAny_pure ⟨rfl, hP s.heap o₁ (Heap.SameBut.refl _ _) hr (BSet.congr B₁ fun j => by rw [hs, Bool.false_and, Bool.or_false])⟩

/-- the heap behind a fresh set -/
theorem behind_new (s : Shared) {x : Obj} (hx : x.isFreed = false) : Grows s.heap (s.heap.push x) ∧ s.heap.objs.size < (s.heap.push x).objs.size ∧ (s.heap.push x).get? s.heap.objs.size = some x :=
  ⟨fun b y e => Heap.get?_push_of_some _ e, push_lt, Heap.get?_push_size _ hx⟩

set_option maxHeartbeats 1000000 in
theorem inter_ok {nm : String} {Q : Value → Shared → Prop} (hab : b ≠ a) (hob : s.heap.get? b = some ob) (Bo : BSet w ob So) (ho : s.heap.get? a = some o) (B : BSet w o S) (h : NewSet w s (fun j => S j && So j) Q) :
    wpAny (model prog w) A (Builtin.Frozenset.intersection nm a (.ref b)) Q E s := by
  unfold Builtin.Frozenset.intersection
  have hne : (Value.ref b == .ref a) = false := by simpa using hab
  rw [hne]
  simp only [Bool.false_eq_true, if_false]
  refine wpAny_bind (baseOf_ok ho B ?_)
  refine wpAny_bind (new_ok fun B0 => ?_)
  refine wpAny_bind (wpAny_pure ?_)
  have han : a ≠ s.heap.objs.size := Nat.ne_of_lt (Heap.lt_size ho)
  have hbn : b ≠ s.heap.objs.size := Nat.ne_of_lt (Heap.lt_size hob)
  obtain ⟨hg1, hl1, hr1⟩ := behind_new s (x := { cls := .type "set", dict := none, data := .set #[] 0 (.fresh 0 0 (!byText w)) }) rfl
  have ho1 := hg1 _ _ ho
  have hob1 := hg1 _ _ hob
  generalize (s.heap.push { cls := .type "set", dict := none, data := .set #[] 0 (.fresh 0 0 (!byText w)) }) = H1 at *
  obtain ⟨exo, bdo, eo, po, to, hdo, Ho⟩ := Bo.dup
  obtain ⟨ex, bd, es, ep, t, hd, H⟩ := B.dup
  refine wpAny_bind (wpAny_holding ?_)
  refine wpAny_bind (anySet_ok (s := { s with heap := H1 }) hob1 Bo ?_)
  simp only [if_true]
  refine wpAny_bind (wpAny_pure ?_)
  refine wpAny_bind (sizeOf_ok (s := { s with heap := H1 }) hob1 hdo Ho ?_)
  refine wpAny_bind (sizeOf_ok (s := { s with heap := H1 }) ho1 hd H ?_)
  by_cases hc : eo.size > es.size
  · rw [if_pos hc]
    dsimp only
    refine wpAny_bind (epoch_ok (s := { s with heap := H1 }) ho1 hd H ?_)
    refine wpAny_bind (unseen_ok (s := { s with heap := H1 }) ho1 hd H fun es' hp => ?_)
    rw [← Array.forIn_toList]
    refine wpAny_bind ?_
    refine loop_ok (s := { s with heap := H1 }) (So := S) (S := fun _ => false) (c := s.heap.objs.size) (G := fun S₁ k j => S₁ j || (So k && decide (j = k))) (fun h => h.get? a = some o ∧ h.get? b = some ob) ?_
      (fun h h' hI hs => ⟨(hs.2 a han).trans hI.1, (hs.2 b hbn).trans hI.2⟩) ⟨ho1, hob1⟩ H bd hr1 B0 es'.toList hp fun h' o' ks nd hks hs hg hB => ?_
    · intro k tk s₁ o₁ S₁ P hSk hk hI hr hB hP
      exact and_step (neg := false) hI.2 Bo hI.1 hd H han hk hr hB (fun r => by rw [Bool.xor_false]) fun h' o' h1 h2 h3 => hP h' o' h1 h2 (BSet.congr h3 fun j => by rw [Bool.xor_false])
    · refine wpAny_pure (wpAny_pure ?_)
      refine h h' o' (sameBut_grows hg1 hs (Nat.le_refl _)) (by rw [size_eq hs]; exact hl1) hg (BSet.congr hB fun j => ?_)
      rw [fold_and, mem_dec hks, Bool.false_or]
  · rw [if_neg hc]
    dsimp only
    refine wpAny_bind (epoch_ok (s := { s with heap := H1 }) hob1 hdo Ho ?_)
    refine wpAny_bind (unseen_ok (s := { s with heap := H1 }) hob1 hdo Ho fun es' hp => ?_)
    rw [← Array.forIn_toList]
    refine wpAny_bind ?_
    refine loop_ok (s := { s with heap := H1 }) (So := So) (S := fun _ => false) (c := s.heap.objs.size) (G := fun S₁ k j => S₁ j || (S k && decide (j = k))) (fun h => h.get? a = some o ∧ h.get? b = some ob) ?_
      (fun h h' hI hs => ⟨(hs.2 a han).trans hI.1, (hs.2 b hbn).trans hI.2⟩) ⟨ho1, hob1⟩ Ho bdo hr1 B0 es'.toList hp fun h' o' ks nd hks hs hg hB => ?_
    · intro k tk s₁ o₁ S₁ P hSk hk hI hr hB hP
      exact and_step (neg := false) hI.1 B hI.2 hdo Ho hbn hk hr hB (fun r => by rw [Bool.xor_false]) fun h' o' h1 h2 h3 => hP h' o' h1 h2 (BSet.congr h3 fun j => by rw [Bool.xor_false])
    · refine wpAny_pure (wpAny_pure ?_)
      refine h h' o' (sameBut_grows hg1 hs (Nat.le_refl _)) (by rw [size_eq hs]; exact hl1) hg (BSet.congr hB fun j => ?_)
      rw [fold_and, mem_dec hks, Bool.false_or, Bool.and_comm]

theorem tidy_ok {Q : Unit → Shared → Prop} (ho : s.heap.get? a = some o) (B : BSet w o S)
    (h : ∀ h' o', Heap.SameBut a s.heap h' → h'.get? a = some o' → BSet w o' S → Q () { s with heap := h' }) : wpAny (model prog w) A (setTidy a) Q E s := by
  obtain ⟨ex, bd, es, ep, t, hd, H⟩ := B.dup
  have hle := H.size_le bd
  unfold setTidy
  refine wpAny_bind (state_ok ho hd H ?_)
  dsimp only
  cases t.tooManyDummies with
  | true =>
    simp only [if_true]
    refine relay_ok ho hd H ex bd (by unfold SetTable.grown; split <;> omega) (by unfold SetTable.grown; split <;> omega) fun h' es' ep' t' a1 a2 a3 a4 a5 a6 => ?_
    exact h h' _ a1 a2 ⟨ex, bd, es', ep', t', rfl, a3⟩
  | false =>
    simp only [Bool.false_eq_true, if_false]
    exact wpAny_pure (h s.heap o (Heap.SameBut.refl _ _) ho B)

/-- taking away in place -/
theorem minusIn_ok {nm : String} {Q : Unit → Shared → Prop} (hab : b ≠ a) (hsz : ∀ es ep t eo po to, o.data = .set es ep t → ob.data = .set eo po to → ¬ eo.size / 8 > es.size) (hob : s.heap.get? b = some ob) (Bo : BSet w ob So) (ho : s.heap.get? a = some o) (B : BSet w o S)
    (h : ∀ h' o', Heap.SameBut a s.heap h' → h'.get? a = some o' → BSet w o' (fun j => S j && !So j) → Q () { s with heap := h' }) : wpAny (model prog w) A (Builtin.Frozenset.differenceUpdate nm a (.ref b)) Q E s := by
  obtain ⟨exo, bdo, eo, po, to, hdo, Ho⟩ := Bo.dup
  obtain ⟨ex, bd, es, ep, t, hd, H⟩ := B.dup
  unfold Builtin.Frozenset.differenceUpdate
  have hne : (Value.ref b == .ref a) = false := by simpa using hab
  rw [hne]
  simp only [Bool.false_eq_true, if_false]
  refine wpAny_bind (anySet_ok hob Bo ?_)
  simp only [if_true]
  refine wpAny_bind (wpAny_pure ?_)
  refine wpAny_bind (sizeOf_ok hob hdo Ho ?_)
  refine wpAny_bind (sizeOf_ok ho hd H ?_)
  rw [if_neg (hsz _ _ _ _ _ _ hd hdo)]
  refine wpAny_bind (epoch_ok hob hdo Ho ?_)
  refine wpAny_bind (wpAny_holding ?_)
  refine wpAny_bind (unseen_ok hob hdo Ho fun es' hp => ?_)
  rw [← Array.forIn_toList]
  refine wpAny_bind ?_
  refine loop_ok (So := So) (S := S) (c := a) (G := fun S₁ k j => S₁ j && !decide (j = k)) (fun h => h.get? b = some ob) ?_
    (fun h h' hI hs => (hs.2 b hab).trans hI) hob Ho bdo ho B es'.toList hp fun h' o' ks nd hks hs hg hB => ?_
  · intro k tk s₁ o₁ S₁ P hSk hk hI hr hB hP
    refine wpAny_bind (wpAny_holding (discard_ok hr hB fun h' o' h1 h2 h3 => ?_))
    refine wpAny_bind (unchanged_ok (s := { s₁ with heap := h' }) ((h1.2 b hab).trans hI) hdo Ho ?_)
    exact wpAny_pure ⟨rfl, hP h' o' h1 h2 h3⟩
  · refine wpAny_pure ?_
    refine tidy_ok (s := { s with heap := h' }) hg (BSet.congr hB fun j => by rw [fold_minus, mem_dec hks]) fun h2 o2 hs2 hg2 hB2 => ?_
    exact h h2 o2 (hs.trans hs2) hg2 hB2

theorem held_size {es' : Array (Int × Value)} {t' : SetTable} (H : Held w S es t) (H' : Held w S es' t') : es.size = es'.size := by
  have h1 : (es.toList.map keyOf).length ≤ (es'.toList.map keyOf).length := List.Nodup.length_le_of_subset H.2.1 fun k hk => (H'.2.2.1 k).mp ((H.2.2.1 k).mpr hk)
  have h2 : (es'.toList.map keyOf).length ≤ (es.toList.map keyOf).length := List.Nodup.length_le_of_subset H'.2.1 fun k hk => (H.2.2.1 k).mp ((H'.2.2.1 k).mpr hk)
  simp only [List.length_map, Array.length_toList] at h1 h2
  omega

set_option maxHeartbeats 1000000 in
theorem minus_ok {nm : String} {Q : Value → Shared → Prop} (hab : b ≠ a) (hob : s.heap.get? b = some ob) (Bo : BSet w ob So) (ho : s.heap.get? a = some o) (B : BSet w o S) (h : NewSet w s (fun j => S j && !So j) Q) :
    wpAny (model prog w) A (Builtin.Frozenset.difference nm a (.ref b)) Q E s := by
  obtain ⟨exo, bdo, eo, po, to, hdo, Ho⟩ := Bo.dup
  obtain ⟨ex, bd, es, ep, t, hd, H⟩ := B.dup
  have han : a ≠ s.heap.objs.size := Nat.ne_of_lt (Heap.lt_size ho)
  have hbn : b ≠ s.heap.objs.size := Nat.ne_of_lt (Heap.lt_size hob)
  unfold Builtin.Frozenset.difference
  refine wpAny_bind (anySet_ok hob Bo ?_)
  simp only [Bool.not_true, Bool.false_eq_true, if_false, if_true, Bool.false_and]
  refine wpAny_bind (wpAny_pure ?_)
  refine wpAny_bind (sizeOf_ok hob hdo Ho ?_)
  refine wpAny_bind (sizeOf_ok ho hd H ?_)
  by_cases hc : es.size / 4 > eo.size
  · rw [if_pos hc]
    refine wpAny_bind (wpAny_rule ?_)
    refine wpAny_bind (copyOf_ok ho B fun h1 o1 g1 l1 e1 B1 => ?_)
    refine wpAny_bind (wpAny_pure ?_)
    refine wpAny_bind (wpAny_holding (minusIn_ok (s := { s with heap := h1 }) hbn ?_ (g1 _ _ hob) Bo e1 B1 fun h' o' h2 h3 h4 => ?_))
    · intro es1 ep1 t1 eo1 po1 to1 hd1 hdo1
      obtain ⟨_, _, es2, ep2, t2, hd2, H2⟩ := B1.dup
      rw [hd1] at hd2
      cases hd2
      rw [hdo] at hdo1
      cases hdo1
      have := held_size H H2
      omega
    · exact wpAny_pure (h h' o' (sameBut_grows g1 h2 (Nat.le_refl _)) (by rw [size_eq h2]; exact l1) h3 h4)
  · rw [if_neg hc]
    refine wpAny_bind (baseOf_ok ho B ?_)
    refine wpAny_bind (new_ok fun B0 => ?_)
    refine wpAny_bind (wpAny_pure ?_)
    obtain ⟨hg1, hl1, hr1⟩ := behind_new s (x := { cls := .type "set", dict := none, data := .set #[] 0 (.fresh 0 0 (!byText w)) }) rfl
    have ho1 := hg1 _ _ ho
    have hob1 := hg1 _ _ hob
    generalize (s.heap.push { cls := .type "set", dict := none, data := .set #[] 0 (.fresh 0 0 (!byText w)) }) = H1 at *
    refine wpAny_bind (epoch_ok (s := { s with heap := H1 }) ho1 hd H ?_)
    refine wpAny_bind (wpAny_holding ?_)
    refine wpAny_bind (unseen_ok (s := { s with heap := H1 }) ho1 hd H fun es' hp => ?_)
    rw [← Array.forIn_toList]
    refine wpAny_bind ?_
    refine loop_ok (s := { s with heap := H1 }) (So := S) (S := fun _ => false) (c := s.heap.objs.size) (G := fun S₁ k j => S₁ j || (!So k && decide (j = k))) (fun h => h.get? a = some o ∧ h.get? b = some ob) ?_
      (fun h h' hI hs => ⟨(hs.2 a han).trans hI.1, (hs.2 b hbn).trans hI.2⟩) ⟨ho1, hob1⟩ H bd hr1 B0 es'.toList hp fun h' o' ks nd hks hs hg hB => ?_
    · intro k tk s₁ o₁ S₁ P hSk hk hI hr hB hP
      refine and_step (neg := true) (body := fun r => do let there ← pure r.isSome; if (!there) = true then (do let _ ← setAddHashed s.heap.objs.size (.int (k : Int) tk) (hashInt k); pure ()) else pure ()) hI.2 Bo hI.1 hd H han hk hr hB (fun r => by rw [Bool.xor_true]; rfl) fun h' o' h1 h2 h3 => hP h' o' h1 h2 (BSet.congr h3 fun j => by rw [Bool.xor_true])
    · refine wpAny_pure (wpAny_pure ?_)
      refine h h' o' (sameBut_grows hg1 hs (Nat.le_refl _)) (by rw [size_eq hs]; exact hl1) hg (BSet.congr hB fun j => ?_)
      rw [fold_and (fun j => !So j), mem_dec hks, Bool.false_or]

/-- the flip in place -/
theorem flipIn_ok {nm : String} {Q : Unit → Shared → Prop} (hab : b ≠ a) (hob : s.heap.get? b = some ob) (Bo : BSet w ob So) (ho : s.heap.get? a = some o) (B : BSet w o S)
    (h : ∀ h' o', Heap.SameBut a s.heap h' → h'.get? a = some o' → BSet w o' (fun j => S j ^^ So j) → Q () { s with heap := h' }) : wpAny (model prog w) A (Builtin.Frozenset.symmetricDifferenceUpdate nm a (.ref b)) Q E s := by
  obtain ⟨exo, bdo, eo, po, to, hdo, Ho⟩ := Bo.dup
  unfold Builtin.Frozenset.symmetricDifferenceUpdate
  have hne : (Value.ref b == .ref a) = false := by simpa using hab
  rw [hne]
  simp only [Bool.false_eq_true, if_false]
  refine wpAny_bind (wpAny_typeOf (Bo.typeIs hob) ?_)
  have hnd : (Value.type "set" == Value.type "dict") = false := by decide
  rw [hnd]
  simp only [Bool.false_eq_true, if_false]
  refine wpAny_bind (anySet_ok hob Bo ?_)
  simp only [if_true]
  refine wpAny_bind (wpAny_pure ?_)
  refine wpAny_bind (wpAny_pure ?_)
  refine wpAny_bind (epoch_ok hob hdo Ho ?_)
  refine wpAny_holding ?_
  refine wpAny_bind (unseen_ok hob hdo Ho fun es' hp => ?_)
  rw [← Array.forIn_toList]
  refine wpAny_bind ?_
  refine loop_ok (So := So) (S := S) (c := a) (G := fun S₁ k j => if j = k then !S₁ j else S₁ j) (fun h => h.get? b = some ob) ?_
    (fun h h' hI hs => (hs.2 b hab).trans hI) hob Ho bdo ho B es'.toList hp fun h' o' ks nd hks hs hg hB => ?_
  · intro k tk s₁ o₁ S₁ P hSk hk hI hr hB hP
    refine wpAny_bind (wpAny_holding ?_)
    refine wpAny_bind (discard_ok hr hB fun h' o' h1 h2 h3 => ?_)
    cases hs : S₁ k with
    | true =>
      simp only [Bool.not_true, Bool.false_eq_true, if_false]
      refine wpAny_pure ?_
      refine wpAny_bind (unchanged_ok (s := { s₁ with heap := h' }) ((h1.2 b hab).trans hI) hdo Ho ?_)
      refine wpAny_pure ⟨rfl, hP h' o' h1 h2 (BSet.congr h3 fun j => ?_)⟩
      by_cases e : j = k
      · subst e; simp [hs]
      · simp [e]
    | false =>
      simp only [Bool.not_false, if_true]
      refine wpAny_bind (addHashed_ok (s := { s₁ with heap := h' }) h2 h3 hk fun h2' o2 a1 a2 a3 => wpAny_pure ?_)
      refine wpAny_bind (unchanged_ok (s := { s₁ with heap := h2' }) ((a1.2 b hab).trans ((h1.2 b hab).trans hI)) hdo Ho ?_)
      refine wpAny_pure ⟨rfl, hP h2' o2 (h1.trans a1) a2 (BSet.congr a3 fun j => ?_)⟩
      by_cases e : j = k
      · subst e; simp [hs]
      · simp [e]
  · refine wpAny_pure (h h' o' hs hg (BSet.congr hB fun j => ?_))
    rw [fold_flip ks S j nd, mem_dec hks]

theorem flip_ok {Q : Value → Shared → Prop} {f : String → Addr → Value → Sem Value} {nm : String} (hf : f nm a (.ref b) = (do
      let result ← Builtin.Frozenset.newFrom nm (← Builtin.Frozenset.baseOf a) (.ref b)
      holding [result] (Builtin.Frozenset.symmetricDifferenceUpdate nm (← Builtin.Frozenset.addrOf result) (.ref a))
      return result)) (hob : s.heap.get? b = some ob) (Bo : BSet w ob So) (ho : s.heap.get? a = some o) (B : BSet w o S) (h : NewSet w s (fun j => S j ^^ So j) Q) :
    wpAny (model prog w) A (f nm a (.ref b)) Q E s := by
  rw [hf]
  have han : a ≠ s.heap.objs.size := Nat.ne_of_lt (Heap.lt_size ho)
  have hbn : b ≠ s.heap.objs.size := Nat.ne_of_lt (Heap.lt_size hob)
  refine wpAny_bind (baseOf_ok ho B ?_)
  unfold Builtin.Frozenset.newFrom
  refine wpAny_bind (wpAny_bind (new_ok fun B0 => ?_))
  obtain ⟨hg1, hl1, hr1⟩ := behind_new s (x := { cls := .type "set", dict := none, data := .set #[] 0 (.fresh 0 0 (!byText w)) }) rfl
  refine wpAny_bind (wpAny_pure ?_)
  refine wpAny_bind (wpAny_holding ?_)
  refine updateFrom_ok (s := { s with heap := _ }) hbn (hg1 _ _ hob) Bo hr1 B0 fun h2 o2 a1 a2 a3 => wpAny_pure ?_
  have hg2 := sameBut_grows hg1 a1 (Nat.le_refl _)
  refine wpAny_bind (wpAny_pure ?_)
  refine wpAny_bind (wpAny_holding ?_)
  refine flipIn_ok (s := { s with heap := h2 }) han (hg2 _ _ ho) B a2 a3 fun h' o' b1 b2 b3 => wpAny_pure ?_
  exact h h' o' (sameBut_grows hg2 b1 (Nat.le_refl _)) (by rw [size_eq b1, size_eq a1]; exact hl1) b2 (BSet.congr b3 fun j => by rw [Bool.false_or, Bool.xor_comm])
end
end Mine
end

-- part SetF
section
open PySem
namespace Mine.F
set_option maxRecDepth 100000
theorem entry_set_or : entryFor table "set.__or__" = some Builtin.«frozenset.__or__» := entryFor_alias (id' := "frozenset.__or__") (by rw [fastTable_eq_tree]; kernel_rfl) rfl (by decide +kernel) (by rw [fastTable_eq_tree]; kernel_rfl)
theorem entry_set_and : entryFor table "set.__and__" = some Builtin.«frozenset.__and__» := entryFor_alias (id' := "frozenset.__and__") (by rw [fastTable_eq_tree]; kernel_rfl) rfl (by decide +kernel) (by rw [fastTable_eq_tree]; kernel_rfl)
theorem entry_set_xor : entryFor table "set.__xor__" = some Builtin.«frozenset.__xor__» := entryFor_alias (id' := "frozenset.__xor__") (by rw [fastTable_eq_tree]; kernel_rfl) rfl (by decide +kernel) (by rw [fastTable_eq_tree]; kernel_rfl)
theorem entry_set_sub : entryFor table "set.__sub__" = some Builtin.«frozenset.__sub__» := entryFor_alias (id' := "frozenset.__sub__") (by rw [fastTable_eq_tree]; kernel_rfl) rfl (by decide +kernel) (by rw [fastTable_eq_tree]; kernel_rfl)
theorem entry_set_eq : entryFor table "set.__eq__" = some Builtin.«frozenset.__eq__» := entryFor_alias (id' := "frozenset.__eq__") (by rw [fastTable_eq_tree]; kernel_rfl) rfl (by decide +kernel) (by rw [fastTable_eq_tree]; kernel_rfl)
theorem entry_set_iter : entryFor table "set.__iter__" = some Builtin.«frozenset.__iter__» := entryFor_alias (id' := "frozenset.__iter__") (by rw [fastTable_eq_tree]; kernel_rfl) rfl (by decide +kernel) (by rw [fastTable_eq_tree]; kernel_rfl)
theorem owner_si : Manifest.owners.lookup (String.ofList ['r', 'o', 't', 'a', 'r', 'e', 't', 'i', '_', 't', 'e', 's'].reverse) = some Manifest.sig_set_iterator := by kernel_rfl
theorem slot_si_next : Slot "set_iterator" "__next__" "set_iterator.__next__" :=
  .of (owner := "set_iterator") (n := "__next__") (by rw [typeLookup_type, builtinLookup_eq_fast]; kernel_rfl) (by decide +kernel) (by decide +kernel) (by decide +kernel)
    (by first | exact .inl (by decide +kernel) | exact .inr (by decide +kernel)) (by rw [isSubtype_type]; kernel_rfl)
theorem entry_si_next : entryFor table "set_iterator.__next__" = some Builtin.«set_iterator.__next__» := entryFor_of_tree (by kernel_rfl)
theorem args_si_next (a : Value) : argsOk "set_iterator.__next__" ⟨[a], []⟩ := by
  unfold argsOk; rw [signature?_of (id := "set_iterator.__next__") (n := ['_', '_', 't', 'x', 'e', 'n', '_', '_']) (o := ['r', 'o', 't', 'a', 'r', 'e', 't', 'i', '_', 't', 'e', 's']) (by kernel_rfl) owner_si]; kernel_rfl
theorem slot_si_iter : Slot "set_iterator" "__iter__" "set_iterator.__iter__" :=
  .of (owner := "set_iterator") (n := "__iter__") (by rw [typeLookup_type, builtinLookup_eq_fast]; kernel_rfl) (by decide +kernel) (by decide +kernel) (by decide +kernel)
    (by first | exact .inl (by decide +kernel) | exact .inr (by decide +kernel)) (by rw [isSubtype_type]; kernel_rfl)
theorem entry_si_iter : entryFor table "set_iterator.__iter__" = some Builtin.«dict_keyiterator.__iter__» :=
  entryFor_alias (id' := "dict_keyiterator.__iter__") (by rw [fastTable_eq_tree]; kernel_rfl) (by first | rfl | decide +kernel | (unfold String.splitOn; simp +decide [String.splitOnAux])) (by decide +kernel) (by rw [fastTable_eq_tree]; kernel_rfl)
theorem args_si_iter (a : Value) : argsOk "set_iterator.__iter__" ⟨[a], []⟩ := by
  unfold argsOk; rw [signature?_of (id := "set_iterator.__iter__") (n := ['_', '_', 'r', 'e', 't', 'i', '_', '_']) (o := ['r', 'o', 't', 'a', 'r', 'e', 't', 'i', '_', 't', 'e', 's']) (by kernel_rfl) owner_si]; kernel_rfl
end Mine.F
end

-- part SetB
section
open PySem PySem.W PyProof.Rows PySem.Spec PySem.Calls
namespace Mine

section
variable {prog : Program} {w : World} {A : Around} {E : Value → Shared → Prop} {s : Shared} {a b : Addr} {o ob : Obj} {S So : Nat → Bool} {es : Array (Int × Value)} {ep : Nat} {t : SetTable}

theorem both_ok {Q : Bool → Shared → Prop} (hob : s.heap.get? b = some ob) (Bo : BSet w ob So) (ho : s.heap.get? a = some o) (B : BSet w o S) (h : Q true s) :
    wpAny (model prog w) A (Builtin.Frozenset.isAnySet (.ref a) <&&> Builtin.Frozenset.isAnySet (.ref b)) Q E s := by
  refine wpAny_bind (anySet_ok ho B ?_)
  exact anySet_ok hob Bo h

theorem or_sets {Q : Value → Shared → Prop} (hab : b ≠ a) (hob : s.heap.get? b = some ob) (Bo : BSet w ob So) (ho : s.heap.get? a = some o) (B : BSet w o S) (h : NewSet w s (fun j => S j || So j) Q) :
    wpAny (model prog w) A (binaryOp .BitOr (.ref a) (.ref b)) Q E s := by
  refine wpAny_binaryOp_same (op := .BitOr) (T := "set") (B.typeIs ho) (Bo.typeIs hob) PySem.F.fills_set_or PySem.F.slot_set_or
    (wpAny_call_entry PySem.F.slot_set_or (B.typeIs ho) Mine.F.entry_set_or ?_ (PySem.F.args_set_or_2 _ _))
  unfold Builtin.«frozenset.__or__»
  refine wpAny_bind (m := Builtin.Frozenset.slot1 _ _) (slot1_ok ?_)
  refine wpAny_bind (both_ok hob Bo ho B ?_)
  simp only [Bool.not_true, Bool.false_eq_true, if_false]
  refine wpAny_bind (wpAny_pure ?_)
  refine wpAny_bind (union_ok (nm := _) rfl hab hob Bo ho B fun h' o' g l e B' => wpAny_pure ⟨_, rfl, (fun x => nomatch x), h h' o' g l e B'⟩)
theorem and_sets {Q : Value → Shared → Prop} (hab : b ≠ a) (hob : s.heap.get? b = some ob) (Bo : BSet w ob So) (ho : s.heap.get? a = some o) (B : BSet w o S) (h : NewSet w s (fun j => S j && So j) Q) :
    wpAny (model prog w) A (binaryOp .BitAnd (.ref a) (.ref b)) Q E s := by
  refine wpAny_binaryOp_same (op := .BitAnd) (T := "set") (B.typeIs ho) (Bo.typeIs hob) PySem.F.fills_set_and PySem.F.slot_set_and
    (wpAny_call_entry PySem.F.slot_set_and (B.typeIs ho) Mine.F.entry_set_and ?_ (PySem.F.args_set_and_2 _ _))
  unfold Builtin.«frozenset.__and__»
  refine wpAny_bind (m := Builtin.Frozenset.slot1 _ _) (slot1_ok ?_)
  refine wpAny_bind (both_ok hob Bo ho B ?_)
  simp only [Bool.not_true, Bool.false_eq_true, if_false]
  refine wpAny_bind (wpAny_pure ?_)
  refine wpAny_bind (inter_ok hab hob Bo ho B fun h' o' g l e B' => wpAny_pure ⟨_, rfl, (fun x => nomatch x), h h' o' g l e B'⟩)
theorem sub_sets {Q : Value → Shared → Prop} (hab : b ≠ a) (hob : s.heap.get? b = some ob) (Bo : BSet w ob So) (ho : s.heap.get? a = some o) (B : BSet w o S) (h : NewSet w s (fun j => S j && !So j) Q) :
    wpAny (model prog w) A (binaryOp .Sub (.ref a) (.ref b)) Q E s := by
  refine wpAny_binaryOp_same (op := .Sub) (T := "set") (B.typeIs ho) (Bo.typeIs hob) PySem.F.fills_set_sub PySem.F.slot_set_sub
    (wpAny_call_entry PySem.F.slot_set_sub (B.typeIs ho) Mine.F.entry_set_sub ?_ (PySem.F.args_set_sub_2 _ _))
  unfold Builtin.«frozenset.__sub__»
  refine wpAny_bind (m := Builtin.Frozenset.slot1 _ _) (slot1_ok ?_)
  refine wpAny_bind (both_ok hob Bo ho B ?_)
  simp only [Bool.not_true, Bool.false_eq_true, if_false]
  refine wpAny_bind (wpAny_pure ?_)
  refine wpAny_bind (minus_ok hab hob Bo ho B fun h' o' g l e B' => wpAny_pure ⟨_, rfl, (fun x => nomatch x), h h' o' g l e B'⟩)
theorem xor_sets {Q : Value → Shared → Prop} (hab : b ≠ a) (hob : s.heap.get? b = some ob) (Bo : BSet w ob So) (ho : s.heap.get? a = some o) (B : BSet w o S) (h : NewSet w s (fun j => S j ^^ So j) Q) :
    wpAny (model prog w) A (binaryOp .BitXor (.ref a) (.ref b)) Q E s := by
  refine wpAny_binaryOp_same (op := .BitXor) (T := "set") (B.typeIs ho) (Bo.typeIs hob) PySem.F.fills_set_xor PySem.F.slot_set_xor
    (wpAny_call_entry PySem.F.slot_set_xor (B.typeIs ho) Mine.F.entry_set_xor ?_ (PySem.F.args_set_xor_2 _ _))
  unfold Builtin.«frozenset.__xor__»
  refine wpAny_bind (m := Builtin.Frozenset.slot1 _ _) (slot1_ok ?_)
  refine wpAny_bind (both_ok hob Bo ho B ?_)
  simp only [Bool.not_true, Bool.false_eq_true, if_false]
  refine wpAny_bind (wpAny_pure ?_)
  refine wpAny_bind (flip_ok (nm := _) rfl hob Bo ho B fun h' o' g l e B' => wpAny_pure ⟨_, rfl, (fun x => nomatch x), h h' o' g l e B'⟩)

theorem forIn_same {α β : Type} {f : α → β → Sem (ForInStep β)} (r0 : β) : ∀ (l : List α) {Q : β → Shared → Prop}, (∀ x ∈ l, ∀ P : ForInStep β → Shared → Prop, P (.yield r0) s → wpAny (model prog w) A (f x r0) P E s) → Q r0 s → wpAny (model prog w) A (forIn l r0 f) Q E s
  | [], Q, hf, h => by rw [List.forIn_nil]; exact wpAny_pure h
  | x :: l, Q, hf, h => by
    rw [List.forIn_cons]
    refine wpAny_bind (hf x (.head _) _ ?_)
    exact forIn_same r0 l (fun y hy => hf y (.tail _ hy)) h

theorem eq_sets {Q : Value → Shared → Prop} (hu : A.units < cLine) (hob : s.heap.get? b = some ob) (Bo : BSet w ob So) (ho : s.heap.get? a = some o) (B : BSet w o S) (he : ∀ k, S k = So k) (h : Q (.bool true) s) :
    wpAny (model prog w) A (compareOp .Eq (.ref a) (.ref b)) Q E s := by
  obtain ⟨exo, bdo, eo, po, to, hdo, Ho⟩ := Bo.dup
  obtain ⟨ex, bd, es, ep, t, hd, H⟩ := B.dup
  have hse : S = So := funext he
  subst hse
  have hsz := held_size H Ho
  refine cmp_ofEq ?_
  refine wpAny_richCompare_same_room (op := .Eq) (T := "set") (B.typeIs ho) (Bo.typeIs hob) PySem.F.slot_set_eq
    (wpAny_call_entry PySem.F.slot_set_eq (B.typeIs ho) Mine.F.entry_set_eq ?_ (PySem.F.args_set_eq_2 _ _)) hu
  unfold Builtin.«frozenset.__eq__»
  refine wpAny_bind (m := Builtin.Frozenset.slot1 _ _) (slot1_ok ?_)
  refine wpAny_bind (anySet_ok hob Bo ?_)
  simp only [Bool.not_true, Bool.false_eq_true, if_false]
  refine wpAny_bind (wpAny_pure ?_)
  refine wpAny_bind (wpAny_pure ?_)
  refine wpAny_bind (sizeOf_ok ho hd H ?_)
  refine wpAny_bind (sizeOf_ok hob hdo Ho ?_)
  have hne : (es.size != eo.size) = false := by rw [hsz]; simp
  rw [hne]
  simp only [Bool.false_eq_true, if_false]
  refine wpAny_bind (wpAny_bind (m := _ <&&> _) ?_)
  refine wpAny_bind (wpAny_isInstance (B.typeIs ho) PySem.F.sub_set_frozenset ?_)
  refine wpAny_pure ?_
  simp only [Bool.false_eq_true, if_false]
  unfold Builtin.Frozenset.subsetOf
  refine wpAny_bind (sizeOf_ok ho hd H ?_)
  refine wpAny_bind (sizeOf_ok hob hdo Ho ?_)
  rw [if_neg (by omega)]
  refine wpAny_bind (epoch_ok ho hd H ?_)
  unfold Builtin.Frozenset.walkUnseen
  refine wpAny_bind ?_
  refine wpAny_bind (entries_ok ho hd H ?_)
  refine wpAny_bind (entries_ok hob hdo Ho ?_)
  refine wpAny_bind (forIn_same _ _ (fun x hx P hP => ?_) ?_)
  · have hx' : IsEnt x := by
      rcases List.mem_append.mp hx with h1 | h1
      · exact H.1 x h1
      · exact Ho.1 x h1
    obtain ⟨k, tk, rfl⟩ := hx'
    refine wpAny_bind (m := Builtin.Frozenset.quietEq _) (wpAny_pure ?_)
    simp only [Bool.not_true, Bool.false_eq_true, if_false]
    exact wpAny_pure hP
  · dsimp only
    refine wpAny_pure ?_
    refine wpAny_bind (forIn_same _ _ (fun x hx P hP => ?_) ?_)
    · obtain ⟨k, tk, rfl⟩ := H.1 x hx
      have hk := (H.2.2.1 k).mpr (List.mem_map.mpr ⟨_, hx, keyOf_ent _ _ _⟩)
      dsimp only
      refine wpAny_bind (wpAny_holding (find_ok hob hdo Ho bdo fun r hr _ => ?_))
      rw [hk] at hr
      cases r with
      | none => cases hr
      | some i =>
        simp only [Option.isNone_some, Bool.false_eq_true, if_false]
        refine wpAny_bind (unchanged_ok ho hd H ?_)
        exact wpAny_pure hP
    · dsimp only
      refine wpAny_pure ?_
      exact wpAny_pure ⟨_, rfl, (fun x => nomatch x), h⟩
end
end Mine
end

-- part SetI
section
open PySem PySem.W PyProof.Rows PySem.Spec PySem.Calls
namespace Mine

theorem noBool_set : typeLookup (.type "set") "__bool__" = pure none := by rw [typeLookup_type, builtinLookup_eq_fast]; kernel_rfl

section
variable {prog : Program} {w : World} {A : Around} {E : Value → Shared → Prop} {s : Shared} {a : Addr} {o : Obj} {S : Nat → Bool} {es : Array (Int × Value)} {ep : Nat} {t : SetTable}

theorem held_len (H : Held w S es t) {ks : List Nat} (nd : ks.Nodup) (hm : ∀ k, k ∈ ks ↔ S k = true) : es.size = ks.length := by
  have h1 : (es.toList.map keyOf).length ≤ ks.length := List.Nodup.length_le_of_subset H.2.1 fun k hk => (hm k).mpr ((H.2.2.1 k).mpr hk)
  have h2 : ks.length ≤ (es.toList.map keyOf).length := List.Nodup.length_le_of_subset nd fun k hk => (H.2.2.1 k).mp ((hm k).mp hk)
  simp only [List.length_map, Array.length_toList] at h1 h2
  omega

theorem len_set {ks : List Nat} {Q : Value → Shared → Prop} (ho : s.heap.get? a = some o) (B : BSet w o S) (nd : ks.Nodup) (hm : ∀ k, k ∈ ks ↔ S k = true)
    (h : Q (.int ks.length (s.toks + 1)) { s with toks := s.toks + 1 + 1 }) : wpAny (model prog w) A (call (.builtin "len") [.ref a]) Q E s := by
  obtain ⟨ex, bd, es, ep, t, hd, H⟩ := B
  have hl := held_len H nd hm
  have hle := H.size_le bd
  refine call_len_set ho ex hd H.2.2.2.fits (by omega) ?_
  rw [hl]; exact h

theorem truthy_set {Q : Bool → Shared → Prop} (ho : s.heap.get? a = some o) (B : BSet w o S) (b : Bool) (hb : b = true ↔ ∃ k, S k = true)
    (h : Q b { s with toks := s.toks + 1 + 1 }) : wpAny (model prog w) A (truthy (.ref a)) Q E s := by
  obtain ⟨ex, bd, es, ep, t, hd, H⟩ := B
  have hle := H.size_le bd
  have hT : s.TypeIs (.ref a) "set" := ⟨o, ho, ex.1⟩
  have hne : ((es.size : Int) != 0) = b := by
    rw [Bool.eq_iff_iff, hb, bne_iff_ne]
    constructor
    · intro hn
      have hp : 0 < es.toList.length := by rw [Array.length_toList]; omega
      refine ⟨keyOf es.toList[0], (H.2.2.1 _).mpr (List.mem_map.mpr ⟨_, List.getElem_mem hp, rfl⟩)⟩
    · rintro ⟨k, hk⟩ h0
      have : es.size = 0 := by omega
      rw [H.of_empty this k] at hk
      cases hk
  have key : wpAny (model prog w) A (runValue (.builtin "len" ⟨[.ref a], []⟩)) (fun r s' => r = .int es.size (s.toks + 1) ∧ Q b s') E s := by
    refine wpAny_runValue (codeAny_builtin entry_len ?_)
    rw [Around.under_plainId plain_len _]
    exact wpAny_mono (wpAny_len_body_set (Q := fun r s' => r = .int es.size (s.toks + 1) ∧ Q b s') ho ex hd H.2.2.2.fits (by omega) ⟨rfl, h⟩)
      (fun fin s' h' => by obtain ⟨r, rfl, hq⟩ := h'; exact hq) fun _ _ e => e
  unfold truthy
  first
    | refine wpAny_bind (wpAny_callSpecial?_none (name := Str.ofString "__bool__") hT noBool_set ?_)
    | refine wpAny_bind (wpAny_pure (wpAny_bind (wpAny_callSpecial?_none (name := Str.ofString "__bool__") hT noBool_set ?_)))
  first
    | refine wpAny_bind (wpAny_specialOf (name := Str.ofString "__len__") hT PySem.F.slot_set_len.lookup ?_)
    | refine wpAny_bind (wpAny_pure (wpAny_bind (wpAny_specialOf (name := Str.ofString "__len__") hT PySem.F.slot_set_len.lookup ?_)))
  first
    | exact wpAny_bind (wpAny_mono key (fun r s' h' => by obtain ⟨rfl, hq⟩ := h'; exact wpAny_pure (hne ▸ hq)) fun _ _ e => e)
    | exact wpAny_bind (wpAny_pure (wpAny_bind (wpAny_mono key (fun r s' h' => by obtain ⟨rfl, hq⟩ := h'; exact wpAny_pure (hne ▸ hq)) fun _ _ e => e)))

/-- the order in which a set is walked -/
def ordOf (w : World) (a : Addr) (ep : Nat) (es : Array (Int × Value)) : Array (Int × Value) := if byText w then pickOrder (w.params.setOrder a ep) es else es
theorem ord_perm (w : World) (a : Addr) (ep : Nat) (es : Array (Int × Value)) : List.Perm (ordOf w a ep es).toList es.toList := by
  unfold ordOf
  split
  · exact pick_perm _ _
  · exact List.Perm.refl _
theorem ord_size (w : World) (a : Addr) (ep : Nat) (es : Array (Int × Value)) : (ordOf w a ep es).size = es.size := by
  have := (ord_perm w a ep es).length_eq
  simpa using this

abbrev siObj (slot i : Nat) (a : Addr) (n ep : Nat) : Obj := { cls := .type "set_iterator", dict := none, data := .fields #[rawInt slot, rawInt i, .ref a, rawInt n, rawInt ep], slots := #[] }
def SIter (w : World) (t : SetTable) (I a : Addr) (n ep : Nat) (i : Nat) (h : Heap) : Prop := ∃ slot : Nat, h.get? I = some (siObj slot i a n ep) ∧ (byText w = false → SetTable.below t.place slot = i)

theorem iter_set {Q : Value → Shared → Prop} (ho : s.heap.get? a = some o) (hd : o.data = .set es ep t) (H : Held w S es t) (ex : o.ExactSet)
    (h : SIter w t s.heap.objs.size a es.size ep 0 (s.heap.push (siObj 0 0 a es.size ep)) → Q (.ref s.heap.objs.size) { s with heap := s.heap.push (siObj 0 0 a es.size ep) }) :
    wpAny (model prog w) A (pyIter (.ref a)) Q E s := by
  have hT : s.TypeIs (.ref a) "set" := ⟨o, ho, ex.1⟩
  refine wpAny_pyIter_slot hT PySem.F.slot_set_iter (wpAny_call_entry PySem.F.slot_set_iter hT Mine.F.entry_set_iter ?_ (PySem.F.args_set_iter_1 _))
  unfold Builtin.«frozenset.__iter__» Builtin.Frozenset.slot0 slotArgs
  simp only [List.isEmpty_nil, Bool.not_true, Bool.false_eq_true, ↓reduceIte, bind_assoc, List.length_nil, bne_self_eq_false]
  unfold Builtin.Frozenset.addrOf
  refine wpAny_bind (wpAny_pure ?_)
  try dsimp only
  refine wpAny_bind (wpAny_pure ?_)
  refine wpAny_bind (sizeOf_ok ho hd H ?_)
  unfold setDrawn
  simp only [bind_assoc]
  refine wpAny_bind (state_ok ho hd H ?_)
  try dsimp only
  refine wpAny_bind (byText_ok ?_)
  refine wpAny_bind (wpAny_pure ?_)
  refine wpAny_ite ?_
  split
  · rename_i hdr
    have hdr' : (!byText w && (!t.plain && decide (es.size > 1))) = true := hdr
    rw [H.2.2.2.plain] at hdr'
    simp at hdr'
  refine wpAny_bind (wpAny_pure ?_)
  refine wpAny_bind (epoch_ok ho hd H ?_)
  refine wpAny_bind (wpAny_newObj_type (wpAny_pure ⟨_, rfl, "set_iterator", _, ⟨_, Heap.get?_push_size _ rfl, rfl⟩, Mine.F.slot_si_next.lookup, ?_⟩))
  exact h ⟨0, Heap.get?_push_size _ rfl, fun _ => below_zero _ H.2.2.2.up⟩

theorem si_type {I : Addr} {slot i n : Nat} (hI : s.heap.get? I = some (siObj slot i a n ep)) : s.TypeIs (.ref I) "set_iterator" := ⟨_, hI, rfl⟩

theorem next_item {I : Addr} {i : Nat} {k : Nat} {Q : Option Value → Shared → Prop} (hI : SIter w t I a es.size ep i s.heap) (ho : s.heap.get? a = some o) (hd : o.data = .set es ep t) (H : Held w S es t) (hk : ((ordOf w a ep es).toList.map keyOf)[i]? = some k)
    (h : ∀ h' tk, SIter w t I a es.size ep (i + 1) h' → Heap.SameBut I s.heap h' → Q (some (.int (k : Int) tk)) { s with heap := h' }) :
    wpAny (model prog w) A (pyNext (.ref I)) Q E s := by
  obtain ⟨slot, hI, hb⟩ := hI
  have hT := si_type hI
  have hi : i < es.size := by
    have := (List.getElem?_eq_some_iff.mp hk).1
    rw [List.length_map, Array.length_toList, ord_size] at this
    exact this
  have hent : ∃ tk, (ordOf w a ep es)[i]? = some (hashInt k, .int (k : Int) tk) := by
    rw [List.getElem?_map] at hk
    obtain ⟨e, he, hek⟩ := Option.map_eq_some_iff.mp hk
    obtain ⟨k', tk, rfl⟩ := H.1 e ((ord_perm w a ep es).mem_iff.mp (List.mem_of_getElem? he))
    rw [keyOf_ent] at hek
    subst hek
    rw [Array.getElem?_toList] at he
    exact ⟨tk, he⟩
  obtain ⟨tk, hent⟩ := hent
  unfold pyNext
  refine wpAny_bind (wpAny_attempt (wpAny_callSpecial?_slot (name := Str.ofString "__next__") hT Mine.F.slot_si_next
    (wpAny_call_entry Mine.F.slot_si_next hT Mine.F.entry_si_next ?_ (Mine.F.args_si_next _))))
  unfold Builtin.«set_iterator.__next__» slotArgs
  simp only [List.isEmpty_nil, Bool.not_true, Bool.false_eq_true, ↓reduceIte, bind_assoc, List.length_nil, bne_self_eq_false]
  refine wpAny_bind (wpAny_pure ?_)
  try dsimp only
  refine wpAny_bind (wpAny_fieldsOf hI rfl ?_)
  dsimp only [rawInt]
  refine wpAny_bind (entries_ok ho hd H ?_)
  simp only [bne_self_eq_false, Bool.false_eq_true, if_false]
  have hnext : ∀ {Q' : Option (Value × Nat) → Shared → Prop} {E' : Value → Shared → Prop}, (∀ slot' : Nat, (byText w = false → SetTable.below t.place slot' = i + 1) → Q' (some (.int (k : Int) tk, slot')) s) → wpAny (model prog w) A.in1 (setNext a slot i ep) Q' E' s := by
    intro Q' E' hQ
    unfold setNext
    refine wpAny_bind (state_ok ho hd H ?_)
    dsimp only
    refine wpAny_bind (byText_ok ?_)
    cases hbt : byText w with
    | true =>
      simp only [if_true]
      rw [hbt] at hb
      unfold ordOf at hent
      rw [hbt] at hent
      simp only [if_true] at hent
      simp only [bne_self_eq_false, Bool.false_eq_true, if_false]
      unfold setWalk
      simp only [bind_assoc]
      refine wpAny_bind (state_ok ho hd H ?_)
      dsimp only
      refine wpAny_bind (byText_ok ?_)
      rw [hbt]
      simp only [if_true]
      refine wpAny_bind (wpAny_bind (wpAny_askSetting ?_))
      refine wpAny_pure (wpAny_pure ?_)
      show Q' (Option.map _ ((pickOrder (w.params.setOrder a ep) es)[i]?)) s
      rw [hent]
      exact hQ slot fun h => by rw [hbt] at h; cases h
    | false =>
      simp only [Bool.false_eq_true, if_false]
      refine wpAny_ite ?_
      split
      · rename_i hdr
        have hdr' : (!t.plain && decide (es.size > 1)) = true := hdr
        rw [H.2.2.2.plain] at hdr'
        cases hdr'
      · refine wpAny_bind ?_
        have hled := H.2.2.2.led
        rw [hbt] at hled
        show wpAny _ _ (if (!t.led && !es.isEmpty) = true then unsupported "set:maker-not-led" else pure ()) _ _ _
        rw [hled]
        simp only [Bool.not_false, Bool.not_true, Bool.false_and, Bool.false_eq_true, if_false]
        refine wpAny_pure (wpAny_pure ?_)
        rw [hb hbt]
        unfold ordOf at hent
        rw [hbt] at hent
        simp only [Bool.false_eq_true, if_false] at hent
        have hpi : i < t.place.size := by rw [H.2.2.2.sz]; exact hi
        rw [hent, Array.getElem?_eq_getElem hpi]
        exact hQ _ fun _ => below_next _ H.2.2.2.up _ _ (Array.getElem?_eq_getElem hpi)
  simp only [Int.toNat_natCast]
  refine wpAny_bind (hnext fun slot' hs' => ?_)
  dsimp only
  refine wpAny_bind (wpAny_setField hI rfl (by simp) ?_)
  refine wpAny_bind (wpAny_setField (s := { s with heap := _ }) (Heap.get?_update_self _ hI rfl) rfl (by simp [Obj.mapFields, siObj]) (wpAny_pure ⟨_, rfl, wpAny_pure (h _ tk ⟨slot', ?_, hs'⟩ ((Heap.SameBut.update ..).trans (Heap.SameBut.update ..)))⟩))
  exact Heap.get?_update_self _ (Heap.get?_update_self _ hI rfl) rfl

theorem next_done {I : Addr} {Q : Option Value → Shared → Prop} (hh : A.handled = none) (hI : SIter w t I a es.size ep es.size s.heap) (ho : s.heap.get? a = some o) (hd : o.data = .set es ep t) (H : Held w S es t)
    (h : ∀ h', Heap.ExtBut I s.heap h' → Q none { s with heap := h' }) : wpAny (model prog w) A (pyNext (.ref I)) Q E s := by
  obtain ⟨slot, hI, hb⟩ := hI
  have hT := si_type hI
  unfold pyNext
  refine wpAny_bind (wpAny_attempt (wpAny_callSpecial?_slot (name := Str.ofString "__next__") hT Mine.F.slot_si_next
    (wpAny_call_entry Mine.F.slot_si_next hT Mine.F.entry_si_next ?_ (Mine.F.args_si_next _))))
  unfold Builtin.«set_iterator.__next__» slotArgs
  simp only [List.isEmpty_nil, Bool.not_true, Bool.false_eq_true, ↓reduceIte, bind_assoc, List.length_nil, bne_self_eq_false]
  refine wpAny_bind (wpAny_pure ?_)
  try dsimp only
  refine wpAny_bind (wpAny_fieldsOf hI rfl ?_)
  dsimp only [rawInt]
  refine wpAny_bind (entries_ok ho hd H ?_)
  simp only [bne_self_eq_false, Bool.false_eq_true, if_false]
  have hnext : ∀ {Q' : Option (Value × Nat) → Shared → Prop} {E' : Value → Shared → Prop}, Q' none s → wpAny (model prog w) A.in1 (setNext a slot es.size ep) Q' E' s := by
    intro Q' E' hQ
    unfold setNext
    refine wpAny_bind (state_ok ho hd H ?_)
    dsimp only
    refine wpAny_bind (byText_ok ?_)
    cases hbt : byText w with
    | true =>
      simp only [if_true]
      simp only [bne_self_eq_false, Bool.false_eq_true, if_false]
      refine wpAny_bind (walk_ok ho hd H fun es' hp => wpAny_pure ?_)
      have : es'[es.size]? = none := by
        have := hp.length_eq
        simp only [Array.length_toList] at this
        rw [← this]; simp
      rw [this]
      exact hQ
    | false =>
      simp only [Bool.false_eq_true, if_false]
      refine wpAny_ite ?_
      split
      · rename_i hdr
        have hdr' : (!t.plain && decide (es.size > 1)) = true := hdr
        rw [H.2.2.2.plain] at hdr'
        cases hdr'
      · refine wpAny_bind ?_
        have hled := H.2.2.2.led
        rw [hbt] at hled
        show wpAny _ _ (if (!t.led && !es.isEmpty) = true then unsupported "set:maker-not-led" else pure ()) _ _ _
        rw [hled]
        simp only [Bool.not_false, Bool.not_true, Bool.false_and, Bool.false_eq_true, if_false]
        refine wpAny_pure (wpAny_pure ?_)
        rw [hb hbt]
        have : es[es.size]? = none := by simp
        rw [this]
        exact hQ
  simp only [Int.toNat_natCast]
  refine wpAny_bind (hnext ?_)
  dsimp only
  refine wpAny_bind (wpAny_setField hI rfl (by simp) ?_)
  show wpAny _ _ (newExc (.type "StopIteration") [] >>= _) _ _ _
  refine wpAny_bind ?_
  simp only [newExc, newTuple]
  refine wpAny_bind (wpAny_newObj_type ?_ (by size_fits))
  refine wpAny_bind (m := firstArgMember _ _) (wpAny_of_eq (a := Value.none) (by first | rfl | (simp only [firstArgMember]; rfl)) ?_)
  refine wpAny_newObj_type ?_ (by size_fits)
  simp only [raiseNew]
  refine wpAny_bind (wpAny_handled ?_)
  first | rw [show A.in1.handled = none from hh] | rw [hh]
  refine wpAny_bind (wpAny_pure (wpAny_throw ?_))
  refine wpAny_bind (wpAny_isInstance (T := "StopIteration") (b := true) ⟨_, Heap.get?_push_size _ rfl, rfl⟩ isSubtype_stop ?_)
  exact wpAny_pure (h _ (((Heap.SameBut.update ..).extBut.push _).push _))

theorem iter_self {I : Addr} {i : Nat} {Q : Value → Shared → Prop} (hI : SIter w t I a es.size ep i s.heap) (h : Q (.ref I) s) : wpAny (model prog w) A (pyIter (.ref I)) Q E s := by
  obtain ⟨slot, hI, hb⟩ := hI
  have hT := si_type hI
  refine wpAny_pyIter_slot hT Mine.F.slot_si_iter (wpAny_call_entry Mine.F.slot_si_iter hT Mine.F.entry_si_iter ?_ (Mine.F.args_si_iter _))
  show wpAny _ _ (ret (.ref I)) _ _ s
  exact wpAny_pure ⟨_, rfl, "set_iterator", _, hT, Mine.F.slot_si_next.lookup, h⟩

theorem walks_set (hh : A.handled = none) (I a : Addr) (hne : a ≠ I) (hd : o.data = .set es ep t) (H : Held w S es t) :
    Walks prog w A I [I, a] [I] es.size (fun i v => ∃ (k : Nat) (tk : Tok), ((ordOf w a ep es).toList.map keyOf)[i]? = some k ∧ v = .int (k : Int) tk) (fun i h => SIter w t I a es.size ep i h ∧ h.get? a = some o) where
  sub := fun b hb => by simp at hb; simp [hb]
  frame := fun i h h' st hk => by
    obtain ⟨⟨slot, hI, hb⟩, ho⟩ := st
    exact ⟨⟨slot, hk I (by simp) _ hI, hb⟩, hk a (by simp) _ ho⟩
  item := fun i s Q E hi st hQ => by
    have hlt : i < ((ordOf w a ep es).toList.map keyOf).length := by rw [List.length_map, Array.length_toList, ord_size]; exact hi
    have hk := List.getElem?_eq_getElem hlt
    refine next_item st.1 st.2 hd H hk fun h' tk hS hs => ?_
    exact hQ _ h' s.toks ⟨_, tk, hk, rfl⟩ ⟨hS, (hs.2 a hne).trans st.2⟩ fun b x hb e => (hs.2 b (fun h => hb (by simp [h]))).trans e
  done := fun s Q E st hQ => next_done hh st.1 st.2 hd H fun h' he' => hQ h' s.toks fun b x hb e => he' b x (fun h => hb (by simp [h])) e
  self := fun i s Q E st hQ => iter_self st.1 hQ

/-- max over a set -/
theorem max_set {Q : Value → Shared → Prop} (hh : A.handled = none) (ho : s.heap.get? a = some o) (B : BSet w o S) {m : Nat} (hm : S m = true) (hmax : ∀ k, S k = true → k ≤ m)
    (h : ∀ h' tk tk', Grows s.heap h' → Q (.int (m : Int) tk') { s with heap := h', toks := tk }) : wpAny (model prog w) A (call (.builtin "max") [.ref a]) Q E s := by
  obtain ⟨ex, bd, es, ep, t, hd, H⟩ := B
  have han : a ≠ s.heap.objs.size := Nat.ne_of_lt (Heap.lt_size ho)
  have hmem : ∀ k, S k = true ↔ k ∈ (ordOf w a ep es).toList.map keyOf := fun k => (H.2.2.1 k).trans (((ord_perm w a ep es).map keyOf).mem_iff).symm
  have hlen : ((ordOf w a ep es).toList.map keyOf).length = es.size := by rw [List.length_map, Array.length_toList, ord_size]
  have hpos : 0 < es.size := by
    have := List.length_pos_of_mem ((hmem m).mp hm)
    omega
  refine call_max_walk (iter_set ho hd H ex fun hS => ?_)
  refine ⟨_, [s.heap.objs.size, a], [s.heap.objs.size], _, _, _, fun i j => decide ((((ordOf w a ep es).toList.map keyOf).getD i 0 : Int) > (((ordOf w a ep es).toList.map keyOf).getD j 0 : Int)), rfl,
    walks_set (A := A.in1) hh _ a han hd H, ⟨hS, Heap.get?_push_of_some _ ho⟩, ?_, hpos, CmpOf.ints_gt (fun i => (((ordOf w a ep es).toList.map keyOf).getD i 0 : Int)) ?_, ?_⟩
  · intro b hb
    show b < (s.heap.push _).objs.size
    rw [Heap.size_push]
    rcases List.mem_cons.mp hb with rfl | hb
    · exact Nat.lt_succ_self _
    · rw [List.mem_singleton.mp hb]; exact Nat.lt_succ_of_lt (Heap.lt_size ho)
  · rintro i v ⟨k, tk, hk, rfl⟩
    refine ⟨tk, ?_⟩
    rw [List.getD_eq_getElem?_getD, hk]; rfl
  · rintro v h' tk ⟨k, tk', hk, rfl⟩ hkeep
    have hb := argBest_gt (fun i => (((ordOf w a ep es).toList.map keyOf).getD i 0 : Int)) (es.size - 1)
    have hkm : k = m := by
      have h1 := hmax k ((hmem k).mpr (List.mem_of_getElem? hk))
      obtain ⟨j, hj, hjm⟩ := List.getElem_of_mem ((hmem m).mp hm)
      have h2 := hb.2 j (by omega)
      rw [List.getD_eq_getElem?_getD, List.getD_eq_getElem?_getD, List.getElem?_eq_getElem hj, hjm, hk] at h2
      simp only [Option.getD_some] at h2
      omega
    subst hkm
    refine h h' tk tk' fun b x e => hkeep b x (fun hb' => ?_) (Heap.get?_push_of_some _ e)
    rw [List.mem_singleton.mp hb'] at e
    exact Nat.lt_irrefl _ (Heap.lt_size e)
end
end Mine
end

-- part SetC
section
open PySem PySem.W PyProof.Rows PySem.Spec PySem.Calls
namespace Mine
section
variable {prog : Program} {w : World} {A : Around} {E : Value → Shared → Prop} {s : Shared} {a : Addr} {o : Obj} {S : Nat → Bool} {es : Array (Int × Value)} {ep : Nat} {t : SetTable}

abbrev freshSet (w : World) : Obj := { cls := .type "set", dict := none, data := .set #[] 0 (.fresh 0 0 (!byText w)) }
theorem bset_fresh (w : World) : BSet w (freshSet w) (fun _ => false) :=
  ⟨⟨rfl, rfl, rfl⟩, (fun k h => nomatch h), #[], 0, _, rfl, fun e he => by simp at he, by simp, fun k => by simp, tok_fresh (byText w)⟩

/-- the making of the object, by set.__new__ -/
theorem made_set {rest : List Value} {P : Value → Shared → Prop} (hchk : checkBuiltinCall "set.__new__" ⟨.type "set" :: rest, []⟩ = pure ())
    (h : P (.ref s.heap.objs.size) { s with heap := s.heap.push (freshSet w) }) :
    codeAny (model prog w) A (.call (.builtin "set.__new__") ⟨.type "set" :: rest, []⟩) (wants P E) s := by
  refine codeAny_of_tree ?_
  show wpAny _ A.in1 (do checkBuiltinCall "set.__new__" ⟨.type "set" :: rest, []⟩; again (.builtin "set.__new__" ⟨.type "set" :: rest, []⟩)) _ _ s
  refine wpAny_bind (wpAny_of_eq hchk (wpAny_pure ⟨plainId_quiet PySem.F.plain_set_new _, codeAny_builtin PySem.F.entry_set_new ?_⟩))
  rw [Around.under_plainId PySem.F.plain_set_new _]
  unfold Builtin.«set.__new__» Builtin.Frozenset.newClass
  have hsub := sub_set_self
  obtain ⟨hp, g, d, tk, os⟩ := s
  dsimp only
  wp_walk
  refine wpAny_askSetting (wpAny_pure ?_)
  dsimp only
  simp only [newObj]
  refine wpAny_bind (wpAny_alloc (wpAny_pure ?_))
  exact wpAny_pure h

set_option maxHeartbeats 2000000 in
set_option maxRecDepth 100000 in
theorem call_set_any {rest : List Value} {Q : Value → Shared → Prop} (hct : checkTypeCall "set" ⟨rest, []⟩ = pure ()) (hchk : checkBuiltinCall "set.__new__" ⟨.type "set" :: rest, []⟩ = pure ())
    (hini : ∀ (A' : Around) (E' : Value → Shared → Prop) (s₁ : Shared) (P : Unit → Shared → Prop), s₁.TypeIs (.ref s.heap.objs.size) "set" → P () s₁ → wpAny (model prog w) A' (checkBuiltinCall "set.__init__" ⟨.ref s.heap.objs.size :: rest, []⟩) P E' s₁)
    (h : wpAny (model prog w) A.in1.in1 (Builtin.«set.__init__» ⟨.ref s.heap.objs.size :: rest, []⟩) (fun fin s' => fin = .done (.ret .none) ∧ Q (.ref s.heap.objs.size) s') E { s with heap := s.heap.push (freshSet w) }) :
    wpAny (model prog w) A (call (.type "set") rest) Q E s := by
  obtain ⟨c, tl, hmro⟩ := PySem.F.called_set.mro
  have hmade := PySem.F.called_set.made
  have hsub := PySem.F.called_set.sub
  refine wpAny_call (codeAny_of_tree ?_)
  show wpAny _ _ (callAny (.type "set") _) _ _ _
  refine wpAny_pure ⟨Code.quiet_builtin _ (by decide +kernel), codeAny_builtin PySem.F.entry_type_call ?_⟩
  rw [Around.under_plain (weight_type_call_type "set" rest []) rfl]
  have h1 := PySem.F.called_set.notType
  have h2 := PySem.F.called_set.canCreate
  repeat (any_goals (first | assumption | wp_step))
  refine codeAny_mono (made_set (E := E) (P := fun obj s₁ => obj = .ref s.heap.objs.size ∧ s₁ = { s with heap := s.heap.push (freshSet w) }) hchk ⟨rfl, rfl⟩) fun r s₁ hr => ?_
  cases r with
  | error e => exact hr
  | ok fl =>
    cases fl with
    | ret obj =>
      obtain ⟨rfl, rfl⟩ := hr
      have hS : (s.heap.push (freshSet w)).get? s.heap.objs.size = some (freshSet w) := Heap.get?_push_size _ rfl
      have hT : Shared.TypeIs { s with heap := s.heap.push (freshSet w) } (.ref s.heap.objs.size) "set" := ⟨_, hS, rfl⟩
      have hli := PySem.F.called_set.init.lookup
      have hbi := PySem.F.called_set.init.bind (.ref s.heap.objs.size)
      repeat (any_goals (first | assumption | wp_step))
      refine codeAny_mono (codeAny_call_builtin (R := wants (fun r s₂ => r = .none ∧ Q (.ref s.heap.objs.size) s₂) E) PySem.F.called_set.init.plain PySem.F.entry_set_init (hini _ _ _ _ hT ?_)) fun r₂ s₂ hr₂ => ?_
      · refine wpAny_mono h (fun fin s' hq => ?_) fun _ _ e => e
        obtain ⟨rfl, hq⟩ := hq
        exact ⟨rfl, hq⟩
      · cases r₂ with
        | error e => exact hr₂
        | ok fl₂ =>
          cases fl₂ with
          | ret r =>
            obtain ⟨rfl, hq⟩ := hr₂
            repeat (any_goals (first | assumption | wp_step))
          | _ => exact hr₂.elim
    | _ => exact hr.elim

theorem used_no {Q : Bool → Shared → Prop} (hg : s.heap.get? a = some (freshSet w)) (h : Q false s) : wpAny (model prog w) A (setUsed a) Q E s := by
  obtain ⟨ex, bd, es, ep, t, hd, H⟩ := bset_fresh w
  unfold setUsed
  refine wpAny_bind (wpAny_setState_of hg rfl (by rfl) ?_)
  exact wpAny_pure h

theorem call_set0 {Q : Value → Shared → Prop} (h : Q (.ref s.heap.objs.size) { s with heap := s.heap.push (freshSet w) }) : wpAny (model prog w) A (call (.type "set") []) Q E s := by
  refine call_set_any PySem.F.typeCall_set_0 PySem.F.newCall_set_0 (fun A' E' s₁ P hT hP => check_set_init hT hP) ?_
  unfold Builtin.«set.__init__» noKeywords
  have hS : (s.heap.push (freshSet w)).get? s.heap.objs.size = some (freshSet w) := Heap.get?_push_size _ rfl
  wp_walk
  exact ⟨rfl, h⟩
end
end Mine
end

-- part SetD
section
open PySem PySem.W PyProof.Rows PySem.Spec PySem.Calls
namespace Mine
section
variable {prog : Program} {w : World} {A : Around} {E : Value → Shared → Prop} {s : Shared} {a : Addr} {o : Obj} {S : Nat → Bool}

theorem setAdd_ok {k : Nat} {tk : Tok} {Q : Bool → Shared → Prop} (ho : s.heap.get? a = some o) (B : BSet w o S) (hk : k < 1024)
    (h : ∀ h' o', Heap.SameBut a s.heap h' → h'.get? a = some o' → BSet w o' (fun j => S j || decide (j = k)) → Q (!S k) { s with heap := h', toks := s.toks + 1 }) :
    wpAny (model prog w) A (setAdd a (.int (k : Int) tk)) Q E s := by
  unfold setAdd
  refine wpAny_holding (wpAny_bind ((PySem.intKind prog w).pyHash (k := (k : Int)) (intKind_is prog w _ _) ?_))
  exact addHashed_ok (s := { s with toks := s.toks + 1 }) ho B hk h

theorem upd_loop {I : Addr} {fp wr : List Addr} {n : Nat} {P : Nat → Value → Prop} {St : Nat → Heap → Prop} {R : Result → Shared → Prop} {ks : List Nat} (hlen : ks.length = n) (hks : ∀ k ∈ ks, k < 1024)
    (hP : ∀ i v, P i v → ∃ (k : Nat) (tk : Tok), ks[i]? = some k ∧ v = .int (k : Int) tk) (W : Walks prog w A.in1 I fp wr n P St) (haf : a ∉ fp) :
    ∀ (m i : Nat) (s : Shared) (o : Obj), n - i = m → i ≤ n → St i s.heap → s.heap.get? a = some o → BSet w o (fun j => decide (j ∈ ks.take i)) →
      (∀ h' tk o', (∀ b x, b ∉ a :: wr → s.heap.get? b = some x → h'.get? b = some x) → h'.get? a = some o' → BSet w o' (fun j => decide (j ∈ ks)) → R (.ok (.ret .none)) { s with heap := h', toks := tk }) →
      codeAny (model prog w) A (.builtin "set.update.loop" ⟨[.ref a, .ref I], []⟩) R s := by
  have haw : a ∉ wr := fun h => haf (W.sub _ h)
  intro m
  induction m with
  | zero =>
    intro i s o hm hi st ho B hR
    have e : i = n := by omega
    subst e
    refine codeAny_builtin PyProof.Rows.F.entry_set_update_loop ?_
    rw [Around.under_plainId PyProof.Rows.F.plain_set_update_loop _]
    show wpAny _ A.in1 (pyNext (.ref I) >>= _) _ _ s
    refine wpAny_bind (W.done s _ _ st fun h' tk hk => ?_)
    show wpAny _ A.in1 (ret Value.none) _ _ _
    refine wpAny_pure (hR h' tk o (fun b x hb e => hk b x (fun h => hb (List.mem_cons_of_mem _ h)) e) (hk a o haw ho) (BSet.congr B fun j => by rw [← hlen, List.take_length]))
  | succ m ih =>
    intro i s o hm hi st ho B hR
    have hlt : i < n := by omega
    refine codeAny_builtin PyProof.Rows.F.entry_set_update_loop ?_
    rw [Around.under_plainId PyProof.Rows.F.plain_set_update_loop _]
    show wpAny _ A.in1 (pyNext (.ref I) >>= _) _ _ s
    refine wpAny_bind (W.item i s _ _ hlt st fun v h1 tk1 hv st1 hk1 => ?_)
    obtain ⟨k, tk, hki, rfl⟩ := hP i v hv
    show wpAny _ A.in1 (holding [Value.int (k : Int) tk] (setAdd a (.int (k : Int) tk)) >>= _) _ _ _
    refine wpAny_bind (wpAny_holding (setAdd_ok (s := { s with heap := h1, toks := tk1 }) (hk1 a o haw ho) B (hks k (List.mem_of_getElem? hki)) fun h2 o2 hs2 ho2 B2 => ?_))
    refine wpAny_pure ⟨plainId_quiet PyProof.Rows.F.plain_set_update_loop _, ih (i + 1) _ o2 (by omega) hlt (W.frame _ _ _ st1 fun b hb x e => (hs2.2 b (fun h => haf (h ▸ hb))).trans e) ho2 (BSet.congr B2 fun j => ?_) fun h' tk' o' hk ho' B' => ?_⟩
    · rw [List.take_add_one, hki]
      rw [Bool.eq_iff_iff]
      simp [List.mem_append]
    · refine hR h' tk' o' (fun b x hb e => hk b x hb ?_) ho' B'
      have hb1 : b ≠ a := fun h => hb (by rw [h]; exact List.mem_cons_self)
      exact (hs2.2 b hb1).trans (hk1 b x (fun h => hb (List.mem_cons_of_mem _ h)) e)

set_option maxHeartbeats 2000000 in
set_option maxRecDepth 100000 in
theorem call_set_ints {l : Addr} {vs : List Value} {ks : List Nat} {Q : Value → Shared → Prop} (hh : A.handled = none) (hl : s.heap.IsList l vs.toArray) (hi : IntsAre vs (ks.map fun k : Nat => (k : Int))) (hks : ∀ k ∈ ks, k < 1024)
    (h : ∀ h' tk o', Grows s.heap h' → s.heap.objs.size < h'.objs.size → h'.get? s.heap.objs.size = some o' → BSet w o' (fun j => decide (j ∈ ks)) → Q (.ref s.heap.objs.size) { s with heap := h', toks := tk }) :
    wpAny (model prog w) A (call (.type "set") [.ref l]) Q E s := by
  refine call_set_any (PySem.F.typeCall_set_1 _) (PySem.F.newCall_set_1 _) (fun A' E' s₁ P hT hP => check_set_init_1 hT hP) ?_
  have hS : (s.heap.push (freshSet w)).get? s.heap.objs.size = some (freshSet w) := Heap.get?_push_size _ rfl
  obtain ⟨ol, hol, hcl, nl, hdl⟩ := hl
  obtain ⟨ocls, odict, odata, oslots⟩ := ol
  simp only at hcl hdl
  subst hcl; subst hdl
  have hol' : (s.heap.push (freshSet w)).get? l = some { cls := .type "list", dict := odict, data := .seq vs.toArray nl, slots := oslots } := Heap.get?_push_of_some _ hol
  have hsls := PySem.F.sub_list_set
  have hslf := PySem.F.sub_list_frozenset
  have hne : (Value.type "list" == Value.type "dict") = false := by decide
  have hl1 : (s.heap.push (freshSet w)).IsList l vs.toArray := ⟨_, hol', rfl, nl, rfl⟩
  unfold Builtin.«set.__init__» noKeywords Builtin.Frozenset.updateFrom
  generalize hPI : pyIter = PI
  wp_walk
  subst hPI
  refine wpAny_pyIter_list hl1 ?_
  refine wpAny_bind (wpAny_runValue ?_)
  have hlS : l < s.heap.objs.size := Heap.lt_size hol
  have hneI : l ≠ (s.heap.push (freshSet w)).objs.size := by
    rw [Heap.size_push]; exact Nat.ne_of_lt (Nat.lt_succ_of_lt hlS)
  have haf : s.heap.objs.size ∉ [(s.heap.push (freshSet w)).objs.size, l] := by
    rw [Heap.size_push]; simp only [List.mem_cons, List.not_mem_nil, or_false, not_or]
    exact ⟨Nat.ne_of_lt (Nat.lt_succ_self _), Nat.ne_of_gt hlS⟩
  have hlen : ks.length = vs.toArray.size := by
    have := hi.length
    rw [List.length_map] at this
    rw [List.size_toArray, this]
  refine upd_loop (A := A.in1.in1) hlen hks (fun i v hv => ?_) (Walks.list (A := A.in1.in1.in1) (by simp [hh]) _ l hneI vs.toArray) haf vs.toArray.size 0 _ (freshSet w) (by omega) (Nat.zero_le _)
    ⟨⟨_, Heap.get?_push_size _ rfl, rfl, rfl⟩, hl1.push _⟩ (Heap.get?_push_of_some _ hS) (BSet.congr (bset_fresh w) fun j => by simp) fun h' tk o' hk ho' B' => ?_
  · have hv' : vs[i]? = some v := by simpa using hv
    obtain ⟨z, tk, e, hz⟩ := IntsAre.at hi i v hv'
    rw [List.getElem?_map] at hz
    obtain ⟨k, hk, rfl⟩ := Option.map_eq_some_iff.mp hz
    exact ⟨k, tk, hk, e⟩
  · show wpAny _ _ _ _ _ _
    refine wpAny_pure ?_
    show wpAny _ _ (ret Value.none) _ _ _
    refine wpAny_pure ⟨rfl, h h' tk o' (fun b x e => ?_) ?_ ho' B'⟩
    · have hb1 : b ≠ s.heap.objs.size := Nat.ne_of_lt (Heap.lt_size e)
      have hb2 : b ≠ (s.heap.push (freshSet w)).objs.size := by
        rw [Heap.size_push]; exact Nat.ne_of_lt (Nat.lt_succ_of_lt (Heap.lt_size e))
      exact hk b x (by simp only [List.mem_cons, List.not_mem_nil, or_false, not_or]; exact ⟨hb1, hb2⟩) (Heap.get?_push_of_some _ (Heap.get?_push_of_some _ e))
    · exact Heap.lt_size ho'
end
end Mine
end

-- part Base
section
open PySem PySem.W PyProof.Rows PySem.Spec PySem.Calls
namespace Mine

/-- the numbers of the bits that are set, rising -/
def bitList (X : Nat) : List Nat := (List.range (Builtin.Int.intBits (X : Int))).filter X.testBit
abbrev asInts (ks : List Nat) : List Int := ks.map fun k : Nat => (k : Int)

theorem intBits_lt {X n : Nat} (h : X < 2 ^ n) : Builtin.Int.intBits (X : Int) ≤ n := by
  rw [intBits_le_iff]; simpa using h
theorem lt_intBits (X : Nat) : X < 2 ^ Builtin.Int.intBits (X : Int) := by
  have := (intBits_le_iff (m := Builtin.Int.intBits (X : Int)) (x := (X : Int))).mp (Nat.le_refl _)
  simpa using this
theorem mem_bitList (X k : Nat) : k ∈ bitList X ↔ X.testBit k = true := by
  unfold bitList
  rw [List.mem_filter, List.mem_range]
  constructor
  · exact fun h => h.2
  · intro h
    refine ⟨?_, h⟩
    refine Nat.lt_of_not_le fun hle => ?_
    have h1 := Nat.lt_of_lt_of_le (lt_intBits X) (Nat.pow_le_pow_right (by decide) hle)
    rw [Nat.testBit_lt_two_pow h1] at h
    cases h
theorem nodup_bitList (X : Nat) : (bitList X).Nodup := List.Nodup.sublist List.filter_sublist List.nodup_range

theorem bitAnd_nat (x y : Nat) : Builtin.bitAnd (x : Int) (y : Int) = ((x &&& y : Nat) : Int) := by
  unfold Builtin.bitAnd
  simp
theorem bitNot_nat (x : Nat) : Builtin.bitNot (x : Int) = -(x : Int) - 1 := rfl
theorem bitOr_nat (x y : Nat) : Builtin.bitOr (x : Int) (y : Int) = ((x ||| y : Nat) : Int) := by
  unfold Builtin.bitOr
  have e : ∀ z : Nat, Builtin.bitNot (Builtin.bitNot (z : Int)) = (z : Int) := fun z => by unfold Builtin.bitNot; omega
  have n : ∀ z : Nat, ¬ (0 ≤ Builtin.bitNot (z : Int)) := fun z => by unfold Builtin.bitNot; omega
  unfold Builtin.bitAnd
  rw [decide_eq_false (n x), decide_eq_false (n y)]
  simp only [e, Int.toNat_natCast]
theorem mod_bit (z : Nat) : z % 2 = (z.testBit 0).toNat := by
  rw [Nat.testBit_zero]; rcases Nat.mod_two_eq_zero_or_one z with h | h <;> rw [h] <;> rfl
theorem or_split : ∀ (n x y : Nat), x ≤ n → x ||| y = (x ^^^ y) + (x &&& y)
  | 0, x, y, h => by
    have : x = 0 := by omega
    subst this
    simp
  | n + 1, x, y, h => by
    by_cases hx : x = 0
    · subst hx; simp
    · have ih := or_split n (x / 2) (y / 2) (by omega)
      have h1 := Nat.div_add_mod (x ||| y) 2
      have h2 := Nat.div_add_mod (x ^^^ y) 2
      have h3 := Nat.div_add_mod (x &&& y) 2
      rw [Nat.or_div_two] at h1
      rw [Nat.xor_div_two] at h2
      rw [Nat.and_div_two] at h3
      have m : (x ||| y) % 2 = (x ^^^ y) % 2 + (x &&& y) % 2 := by
        rw [mod_bit, mod_bit (x ^^^ y), mod_bit (x &&& y), Nat.testBit_or, Nat.testBit_xor, Nat.testBit_and]
        cases x.testBit 0 <;> cases y.testBit 0 <;> rfl
      omega
theorem bitXor_nat (x y : Nat) : Builtin.bitXor (x : Int) (y : Int) = ((x ^^^ y : Nat) : Int) := by
  unfold Builtin.bitXor
  rw [bitOr_nat, bitAnd_nat, or_split x x y (Nat.le_refl _)]
  omega
/-- y & ~x -/
theorem minus_split (x y : Nat) : (y ^^^ (y &&& x)) + (y &&& x) = y := by
  have h := or_split y y (y &&& x) (Nat.le_refl _)
  have e1 : y ||| (y &&& x) = y := by
    apply Nat.eq_of_testBit_eq
    intro i
    rw [Nat.testBit_or, Nat.testBit_and]
    cases y.testBit i <;> cases x.testBit i <;> rfl
  have e2 : y &&& (y &&& x) = y &&& x := by
    apply Nat.eq_of_testBit_eq
    intro i
    simp only [Nat.testBit_and]
    cases y.testBit i <;> cases x.testBit i <;> rfl
  rw [e1, e2] at h
  omega
theorem bitAnd_not_nat (x y : Nat) : Builtin.bitAnd (y : Int) (Builtin.bitNot (x : Int)) = ((y ^^^ (y &&& x) : Nat) : Int) := by
  have e : Builtin.bitNot (Builtin.bitNot (x : Int)) = (x : Int) := by unfold Builtin.bitNot; omega
  have n : ¬ (0 ≤ Builtin.bitNot (x : Int)) := by unfold Builtin.bitNot; omega
  have p : (0 : Int) ≤ (y : Int) := by omega
  unfold Builtin.bitAnd
  rw [decide_eq_false n, decide_eq_true p, e]
  simp only [Int.toNat_natCast]
  have := minus_split x y
  omega
theorem testBit_minus (x y i : Nat) : (y ^^^ (y &&& x)).testBit i = (y.testBit i && !x.testBit i) := by
  rw [Nat.testBit_xor, Nat.testBit_and]
  cases y.testBit i <;> cases x.testBit i <;> rfl
theorem fdiv_pow (X : Nat) (k : Nat) : (X : Int).fdiv (2 ^ k) = ((X >>> k : Nat) : Int) := by
  have e : (2 ^ k : Int) = ((2 ^ k : Nat) : Int) := by rw [Int.natCast_pow]; rfl
  rw [e, Int.fdiv_eq_ediv_of_nonneg _ (Int.natCast_nonneg _), Nat.shiftRight_eq_div_pow, Int.natCast_ediv]
theorem bit_test (X k : Nat) : Builtin.bitAnd ((X : Int).fdiv (2 ^ k)) 1 = if X.testBit k then 1 else 0 := by
  rw [fdiv_pow]
  have e : Builtin.bitAnd ((X >>> k : Nat) : Int) 1 = ((X >>> k &&& 1 : Nat) : Int) := bitAnd_nat _ 1
  rw [e]
  have h := Nat.testBit_eq_decide_div_mod_eq (x := X) (i := k)
  rw [h, Nat.and_one_is_mod, Nat.shiftRight_eq_div_pow]
  rcases Nat.mod_two_eq_zero_or_one (X / 2 ^ k) with h | h <;> rw [h] <;> rfl
end Mine
end

-- part Loops
section
open PySem PySem.W PyProof.Rows PySem.Spec PySem.Calls
namespace Mine

theorem stepV_own {h₀ : Heap} {L : Addr} {wr : List Addr} {own own' : List (Addr × Obj)} {Jn : (Str → Option Value) → List (Addr × Obj) → Prop} {s₁ s₂ : Shared} {Qr : Value → Shared → Prop} {Qb : Shared → Prop} {f : Flow}
    (hs : ∀ p ∈ own, p ∈ own') (h : LoopStepV h₀ L wr own' Jn s₁ Qr Qb f s₂) : LoopStepV h₀ L wr own Jn s₁ Qr Qb f s₂ := by
  have up : LoopStepU h₀ L wr own' Jn s₁ .next s₂ → LoopStepU h₀ L wr own Jn s₁ .next s₂ := by
    rintro ⟨e, h', tk, m₂, news₂, e2, F, N, ha, hJ⟩
    refine ⟨e, h', tk, m₂, news₂, e2, F, fun p hp => N p ?_, ha, hJ⟩
    rcases List.mem_append.mp hp with hp | hp
    · exact List.mem_append_left _ (hs p hp)
    · exact List.mem_append_right _ hp
  cases f with
  | ret v => exact h
  | brk => exact h
  | next => exact up h
  | cont => exact up h

section
variable {prog : Program} {w : World} {A : Around} {E : Value → Shared → Prop} {s : Shared} {env : Env} {h₀ : Heap} {x : Str} {body : List Stmt} {Q : Flow → Shared → Prop} {m : Str → Option Value} {news : List (Addr × Obj)}

theorem walks_exact (hh : A.handled = none) (I l : Addr) (hne : l ≠ I) (vs : List Value) (c : Nat) :
    Walks prog w A I [I, l] [I] vs.length (fun i v => vs[i]? = some v) (fun i h => h.IsListIter I l i ∧ h.get? l = some (listOf vs.toArray c)) := by
  have W := Walks.list (prog := prog) (w := w) hh I l hne vs.toArray
  have up : ∀ {h : Heap}, h.get? l = some (listOf vs.toArray c) → h.IsList l vs.toArray := fun e => ⟨_, e, rfl, c, rfl⟩
  exact {
    sub := W.sub
    frame := fun i h h' st hk => ⟨(W.frame i h h' ⟨st.1, up st.2⟩ hk).1, hk l (by simp) _ st.2⟩
    item := fun i s Q E hi st hQ => W.item i s Q E (by simpa using hi) ⟨st.1, up st.2⟩ fun v h' tk hv st' hk => hQ v h' tk (by simpa using hv) ⟨st'.1, hk l _ (by simpa using hne) st.2⟩ hk
    done := fun s Q E st hQ => W.done s Q E ⟨by simpa using st.1, up st.2⟩ hQ
    self := fun i s Q E st hQ => W.self i s Q E ⟨st.1, up st.2⟩ hQ }

/-- over a list of the ledger's -/
theorem for_list {l : Addr} {vs : List Value} {c : Nat} (J : Nat → (Str → Option Value) → List (Addr × Obj) → Prop) (hh : A.handled = none) (hl : (l, listOf vs.toArray c) ∈ news)
    (F : Fr h₀ env.locals s.heap m) (N : News h₀ env.locals s.heap news) (hj : J 0 m news)
    (turn : ∀ i v m₁ news₁ h tk (I : Addr) (oI : Obj), vs[i]? = some v → J i m₁ news₁ → (∀ p ∈ news₁, p.1 ≠ I) → l ≠ I → Fr h₀ env.locals h (fun y => if y = x then some v else m₁ y) → News h₀ env.locals h ((I, oI) :: (l, listOf vs.toArray c) :: news₁) →
      wpAny (model prog w) A (execs body env) (LoopStepV h₀ env.locals [I] [(I, oI), (l, listOf vs.toArray c)] (J (i + 1)) { s with heap := h, toks := tk } (fun v s' => Q (.ret v) s') fun s' => Q .next s') E { s with heap := h, toks := tk })
    (done : ∀ m₁ news₁ h tk, J vs.length m₁ news₁ → Fr h₀ env.locals h m₁ → News h₀ env.locals h news₁ → Q .next { s with heap := h, toks := tk }) :
    wpAny (model prog w) A (pyIter (.ref l)) (fun it s₂ => LoopAtV prog w A h₀ env x body Q E it s₂) E s := by
  have hls : s.heap.IsList l vs.toArray := ⟨_, (N _ hl).1, rfl, c, rfl⟩
  have hlt : l < s.heap.objs.size := Heap.lt_size (N _ hl).1
  have hne : l ≠ s.heap.objs.size := Nat.ne_of_lt hlt
  refine wpAny_pyIter_list hls ?_
  have W := walks_exact (prog := prog) (w := w) hh s.heap.objs.size l hne vs c
  refine ⟨_, _, _, vs.length, _, _, m, news, J, rfl, W, ?_, ?_, ?_, ⟨⟨_, Heap.get?_push_size _ rfl, rfl, rfl⟩, Heap.get?_push_of_some _ (N _ hl).1⟩, F.push _, (fun p hp => ⟨Heap.get?_push_of_some _ (N p hp).1, (N p hp).2⟩), hj, ?_, ?_⟩
  · intro hm
    rcases List.mem_cons.mp hm with e | hm
    · exact absurd F.ns.lt (e ▸ Nat.lt_irrefl _)
    · exact (N _ hl).2.1 (List.mem_singleton.mp hm).symm
  · intro b hb
    rw [List.mem_singleton.mp hb]
    exact next_is_new F
  · intro p hp hI
    exact absurd (Heap.lt_size (N p hp).1) ((List.mem_singleton.mp hI) ▸ Nat.lt_irrefl _)
  · rintro i v m₁ news₁ s₁ own ⟨hh', tk', rfl⟩ hin hP hJ hoff hown hget hall hst F₁ N₁
    obtain ⟨⟨oI, hoI, _⟩, hol⟩ := hst
    have hl0 : h₀.get? l = none := (N _ hl).2.2
    have hI0 : h₀.get? s.heap.objs.size = none := next_is_new F
    have hIo := hall s.heap.objs.size (by simp) hI0 oI hoI
    have hlo := hall l (by simp) hl0 _ hol
    refine wpAny_mono (turn i v m₁ news₁ hh' tk' s.heap.objs.size oI hP hJ (fun p hp e => hoff p hp (by rw [e]; exact List.mem_singleton.mpr rfl)) hne F₁ (fun p hp => ?_)) (fun f s₂ p => stepV_own (fun p hp => ?_) p) fun _ _ e => e
    · rcases List.mem_cons.mp hp with rfl | hp
      · exact N₁ _ (List.mem_append_left _ hIo)
      · rcases List.mem_cons.mp hp with rfl | hp
        · exact N₁ _ (List.mem_append_left _ hlo)
        · exact N₁ _ (List.mem_append_right _ hp)
    · have h1 := hown p hp
      have h2 := hget p hp
      obtain ⟨pa, po⟩ := p
      rcases List.mem_cons.mp h1 with e | h1
      · have e' : pa = s.heap.objs.size := e
        subst e'
        have : po = oI := Option.some.inj (h2.symm.trans hoI)
        subst this
        exact .head _
      · have e' : pa = l := List.mem_singleton.mp h1
        subst e'
        have : po = _ := Option.some.inj (h2.symm.trans hol)
        subst this
        exact .tail _ (.head _)
  · rintro h' tk m' news' F' N' _ hJ
    exact done m' news' h' tk hJ F' N'

/-- over a range by ones from nought -/
theorem for_range {r : Addr} {a₀ b₀ : Int} {t₀ u₀ v₀ : Tok} {n : Nat} (J : Nat → (Str → Option Value) → List (Addr × Obj) → Prop) (hh : A.handled = none) (hr : IsRange s.heap r a₀ b₀ 1 t₀ u₀ v₀) (hsmall : Builtin.Range.small a₀ b₀ 1 = true) (hn : Builtin.Range.rangeSize a₀ b₀ 1 = (n : Int))
    (F : Fr h₀ env.locals s.heap m) (N : News h₀ env.locals s.heap news) (hj : J 0 m news)
    (turn : ∀ (i : Nat) (t : Tok) m₁ news₁ h tk (I : Addr) (oI : Obj), i < n → J i m₁ news₁ → (∀ p ∈ news₁, p.1 ≠ I) → Fr h₀ env.locals h (fun y => if y = x then some (.int (a₀ + (i : Int)) t) else m₁ y) → News h₀ env.locals h ((I, oI) :: news₁) →
      wpAny (model prog w) A (execs body env) (LoopStepV h₀ env.locals [I] [(I, oI)] (J (i + 1)) { s with heap := h, toks := tk } (fun v s' => Q (.ret v) s') fun s' => Q .next s') E { s with heap := h, toks := tk })
    (done : ∀ m₁ news₁ h tk, J n m₁ news₁ → Fr h₀ env.locals h m₁ → News h₀ env.locals h news₁ → Q .next { s with heap := h, toks := tk }) :
    wpAny (model prog w) A (pyIter (.ref r)) (fun it s₂ => LoopAtV prog w A h₀ env x body Q E it s₂) E s := by
  refine wpAny_pyIter_range hr hsmall ?_
  have W := Walks.range (prog := prog) (w := w) hh s.heap.objs.size a₀ 1 n
  refine ⟨_, _, _, n, _, _, m, news, J, rfl, W, ?_, ?_, ?_, by show IsRangeIter _ _ _ _ _; rw [hn]; simpa using Heap.get?_push_size _ rfl, F.push _, (fun p hp => ⟨Heap.get?_push_of_some _ (N p hp).1, (N p hp).2⟩), hj, ?_, ?_⟩
  · intro hm
    exact absurd F.ns.lt ((List.mem_singleton.mp hm) ▸ Nat.lt_irrefl _)
  · intro b hb
    rw [List.mem_singleton.mp hb]
    exact next_is_new F
  · intro p hp hI
    exact absurd (Heap.lt_size (N p hp).1) ((List.mem_singleton.mp hI) ▸ Nat.lt_irrefl _)
  · rintro i v m₁ news₁ s₁ own ⟨hh', tk', rfl⟩ hin ⟨t, rfl⟩ hJ hoff hown hget hall hst F₁ N₁
    obtain ⟨oI, hoI⟩ : ∃ oI, hh'.get? s.heap.objs.size = some oI := ⟨_, hst⟩
    have hI0 : h₀.get? s.heap.objs.size = none := next_is_new F
    have hIo := hall s.heap.objs.size (by simp) hI0 oI hoI
    have e1 : a₀ + (i : Int) * 1 = a₀ + (i : Int) := by omega
    rw [e1] at F₁
    refine wpAny_mono (turn i t m₁ news₁ hh' tk' s.heap.objs.size oI hin hJ (fun p hp e => hoff p hp (by rw [e]; exact List.mem_singleton.mpr rfl)) F₁ (fun p hp => ?_)) (fun f s₂ p => stepV_own (fun p hp => ?_) p) fun _ _ e => e
    · rcases List.mem_cons.mp hp with rfl | hp
      · exact N₁ _ (List.mem_append_left _ hIo)
      · exact N₁ _ (List.mem_append_right _ hp)
    · have h1 := hown p hp
      have h2 := hget p hp
      obtain ⟨pa, po⟩ := p
      have e' : pa = s.heap.objs.size := List.mem_singleton.mp h1
      subst e'
      have : po = _ := Option.some.inj (h2.symm.trans hoI)
      subst this
      exact .head _
  · rintro h' tk m' news' F' N' _ hJ
    exact done m' news' h' tk hJ F' N'

/-- over a set of the ledger's: some order of its numbers -/
theorem for_set {b : Addr} {ob : Obj} {S : Nat → Bool} (J : List Nat → (Str → Option Value) → List (Addr × Obj) → Prop) (hh : A.handled = none) (hb : (b, ob) ∈ news) (Bs : BSet w ob S)
    (F : Fr h₀ env.locals s.heap m) (N : News h₀ env.locals s.heap news) (hj : J [] m news)
    (turn : ∀ (ks : List Nat) (k : Nat) (t : Tok) m₁ news₁ h tk (I : Addr) (oI : Obj), S k = true → J ks m₁ news₁ → (∀ p ∈ news₁, p.1 ≠ I) → b ≠ I → Fr h₀ env.locals h (fun y => if y = x then some (.int (k : Int) t) else m₁ y) → News h₀ env.locals h ((I, oI) :: (b, ob) :: news₁) →
      wpAny (model prog w) A (execs body env) (LoopStepV h₀ env.locals [I] [(I, oI), (b, ob)] (J (ks ++ [k])) { s with heap := h, toks := tk } (fun v s' => Q (.ret v) s') fun s' => Q .next s') E { s with heap := h, toks := tk })
    (done : ∀ (ks : List Nat) m₁ news₁ h tk, ks.Nodup → (∀ k, k ∈ ks ↔ S k = true) → J ks m₁ news₁ → Fr h₀ env.locals h m₁ → News h₀ env.locals h news₁ → Q .next { s with heap := h, toks := tk }) :
    wpAny (model prog w) A (pyIter (.ref b)) (fun it s₂ => LoopAtV prog w A h₀ env x body Q E it s₂) E s := by
  have hob := (N _ hb).1
  obtain ⟨ex, bd, es, ep, t, hd, H⟩ := Bs
  have hlt : b < s.heap.objs.size := Heap.lt_size hob
  have hne : b ≠ s.heap.objs.size := Nat.ne_of_lt hlt
  have hmem : ∀ k, S k = true ↔ k ∈ (ordOf w b ep es).toList.map keyOf := fun k => (H.2.2.1 k).trans (((ord_perm w b ep es).map keyOf).mem_iff).symm
  have hlen : ((ordOf w b ep es).toList.map keyOf).length = es.size := by rw [List.length_map, Array.length_toList, ord_size]
  have hnd : ((ordOf w b ep es).toList.map keyOf).Nodup := (((ord_perm w b ep es).map keyOf).nodup_iff).mpr H.2.1
  refine iter_set hob hd H ex fun hS => ?_
  have W := walks_set (prog := prog) (w := w) hh s.heap.objs.size b hne hd H
  refine ⟨_, _, _, es.size, _, _, m, news, fun i => J (((ordOf w b ep es).toList.map keyOf).take i), rfl, W, ?_, ?_, ?_, ⟨hS, Heap.get?_push_of_some _ hob⟩, F.push _, (fun p hp => ⟨Heap.get?_push_of_some _ (N p hp).1, (N p hp).2⟩), by simpa using hj, ?_, ?_⟩
  · intro hm
    rcases List.mem_cons.mp hm with e | hm
    · exact absurd F.ns.lt (e ▸ Nat.lt_irrefl _)
    · exact (N _ hb).2.1 (List.mem_singleton.mp hm).symm
  · intro b hb
    rw [List.mem_singleton.mp hb]
    exact next_is_new F
  · intro p hp hI
    exact absurd (Heap.lt_size (N p hp).1) ((List.mem_singleton.mp hI) ▸ Nat.lt_irrefl _)
  · rintro i v m₁ news₁ s₁ own ⟨hh', tk', rfl⟩ hin ⟨k, tkk, hki, rfl⟩ hJ hoff hown hget hall hst F₁ N₁
    obtain ⟨⟨slot, hoI', _⟩, hol⟩ := hst
    obtain ⟨oI, hoI⟩ : ∃ oI, hh'.get? s.heap.objs.size = some oI := ⟨_, hoI'⟩
    have hl0 : h₀.get? b = none := (N _ hb).2.2
    have hI0 : h₀.get? s.heap.objs.size = none := next_is_new F
    have hIo := hall s.heap.objs.size (by simp) hI0 oI hoI
    have hlo := hall b (by simp) hl0 _ hol
    have hs : (((ordOf w b ep es).toList.map keyOf).take (i + 1)) = (((ordOf w b ep es).toList.map keyOf).take i) ++ [k] := by
      rw [List.take_add_one, hki]; rfl
    dsimp only
    rw [hs]
    refine wpAny_mono (turn _ k tkk m₁ news₁ hh' tk' s.heap.objs.size oI ((hmem k).mpr (List.mem_of_getElem? hki)) hJ (fun p hp e => hoff p hp (by rw [e]; exact List.mem_singleton.mpr rfl)) hne F₁ (fun p hp => ?_)) (fun f s₂ p => stepV_own (fun p hp => ?_) p) fun _ _ e => e
    · rcases List.mem_cons.mp hp with rfl | hp
      · exact N₁ _ (List.mem_append_left _ hIo)
      · rcases List.mem_cons.mp hp with rfl | hp
        · exact N₁ _ (List.mem_append_left _ hlo)
        · exact N₁ _ (List.mem_append_right _ hp)
    · have h1 := hown p hp
      have h2 := hget p hp
      obtain ⟨pa, po⟩ := p
      rcases List.mem_cons.mp h1 with e | h1
      · have e' : pa = s.heap.objs.size := e
        subst e'
        have : po = _ := Option.some.inj (h2.symm.trans hoI)
        subst this
        exact .head _
      · have e' : pa = b := List.mem_singleton.mp h1
        subst e'
        have : po = _ := Option.some.inj (h2.symm.trans hol)
        subst this
        exact .tail _ (.head _)
  · rintro h' tk m' news' F' N' _ hJ
    have e : ((ordOf w b ep es).toList.map keyOf).take es.size = (ordOf w b ep es).toList.map keyOf := List.take_of_length_le (by omega)
    have hJ : J (((ordOf w b ep es).toList.map keyOf).take es.size) m' news' := hJ
    rw [e] at hJ
    exact done _ m' news' h' tk hnd (fun k => (hmem k).symm) hJ F' N'
end
end Mine
namespace Mine
theorem fr_name {h₀ h : Heap} {L : Addr} {m : Str → Option Value} {x : Str} {v : Value} (F : Fr h₀ L h m) (e : m x = some v) : Fr h₀ L h (fun y => if y = x then some v else m y) := by
  have : (fun y => if y = x then some v else m y) = m := by
    funext y
    by_cases h : y = x
    · rw [if_pos h, h, e]
    · rw [if_neg h]
  rw [this]; exact F
end Mine
namespace Mine
def Hid (p : Prop) : Prop := p
theorem Hid.out {p : Prop} (h : Hid p) : p := h
end Mine
end

-- part Loop2
section
open PySem PySem.W PyProof.Rows PySem.Spec PySem.Calls
namespace Mine
def Out (h₀ : Heap) (L : Addr) (s : Shared) (X : (Str → Option Value) → List (Addr × Obj) → Prop) (f : Flow) (s' : Shared) : Prop :=
  f = .next ∧ ∃ h tk m news, s' = { s with heap := h, toks := tk } ∧ Fr h₀ L h m ∧ News h₀ L h news ∧ X m news
theorem Out.intro {h₀ h : Heap} {L : Addr} {s : Shared} {X : (Str → Option Value) → List (Addr × Obj) → Prop} {m : Str → Option Value} {news : List (Addr × Obj)} {tk : Nat}
    (F : Fr h₀ L h m) (N : News h₀ L h news) (hX : X m news) : Out h₀ L s X .next { s with heap := h, toks := tk } := ⟨rfl, h, tk, m, news, rfl, F, N, hX⟩
theorem While_out {prog : Program} {w : World} {A : Around} {E : Value → Shared → Prop} {Q : Flow → Shared → Prop} {s : Shared} {env : Env} {h₀ : Heap} {L : Addr} {test : Expr} {body : List Stmt} {pos : Pos} {m : Str → Option Value} {news : List (Addr × Obj)}
    (J : Nat → (Str → Option Value) → List (Addr × Obj) → Prop) (X : (Str → Option Value) → List (Addr × Obj) → Prop) {n₀ : Nat}
    (F : Fr h₀ L s.heap m) (N : News h₀ L s.heap news) (hJ : J n₀ m news)
    (turn : ∀ n m₁ news₁ h₁ tk₁, Fr h₀ L h₁ m₁ → News h₀ L h₁ news₁ → J n m₁ news₁ →
      wpAny (model prog w) A (isTrue test env (eval test env)) (fun b s₂ =>
        if b = true then wpAny (model prog w) A (execs body env) (WhileStep h₀ L s J n) E s₂ else Out h₀ L s X .next s₂) E { s with heap := h₁, toks := tk₁ })
    (done : ∀ m' news' h tk, Fr h₀ L h m' → News h₀ L h news' → X m' news' → Q .next { s with heap := h, toks := tk })
    (hE : PassesOwn (model prog w) A env E := by passes_own) :
    wpAny (model prog w) A (exec (.While test body [] pos) env) Q E s :=
  wpAny_mono (While_inv J F N hJ turn hE) (fun f s' h => by
    obtain ⟨rfl, h, tk, m, news, rfl, F, N, hX⟩ := h
    exact done _ _ _ _ F N hX) fun _ _ e => e
theorem While_par {α : Type} {prog : Program} {w : World} {A : Around} {E : Value → Shared → Prop} {Q : Flow → Shared → Prop} {s : Shared} {env : Env} {h₀ : Heap} {L : Addr} {test : Expr} {body : List Stmt} {pos : Pos} {m : Str → Option Value} {news : List (Addr × Obj)}
    (J : α → Nat → (Str → Option Value) → List (Addr × Obj) → Prop) (X : α → (Str → Option Value) → List (Addr × Obj) → Prop) (p : α) {n₀ : Nat}
    (F : Fr h₀ L s.heap m) (N : News h₀ L s.heap news) (hJ : J p n₀ m news)
    (turn : ∀ n m₁ news₁ h₁ tk₁, Fr h₀ L h₁ m₁ → News h₀ L h₁ news₁ → J p n m₁ news₁ →
      wpAny (model prog w) A (isTrue test env (eval test env)) (fun b s₂ =>
        if b = true then wpAny (model prog w) A (execs body env) (WhileStep h₀ L s (J p) n) E s₂ else Out h₀ L s (X p) .next s₂) E { s with heap := h₁, toks := tk₁ })
    (done : ∀ m' news' h tk, Fr h₀ L h m' → News h₀ L h news' → X p m' news' → Q .next { s with heap := h, toks := tk })
    (hE : PassesOwn (model prog w) A env E := by passes_own) :
    wpAny (model prog w) A (exec (.While test body [] pos) env) Q E s := While_out (J p) (X p) F N hJ turn done hE
def Same (h₀ : Heap) (L : Addr) (s : Shared) (m : Str → Option Value) (news : List (Addr × Obj)) (P : Prop) (s' : Shared) : Prop :=
  ∃ h tk, s' = { s with heap := h, toks := tk } ∧ Fr h₀ L h m ∧ News h₀ L h news ∧ P
theorem Same.intro {h₀ h : Heap} {L : Addr} {s : Shared} {m : Str → Option Value} {news : List (Addr × Obj)} {P : Prop} {tk : Nat} (F : Fr h₀ L h m) (N : News h₀ L h news) (p : P) : Same h₀ L s m news P { s with heap := h, toks := tk } := ⟨h, tk, rfl, F, N, p⟩
theorem If_same {prog : Program} {w : World} {A : Around} {E : Value → Shared → Prop} {Q : Flow → Shared → Prop} {s : Shared} {env : Env} {h₀ : Heap} {L : Addr} {test : Expr} {body orelse : List Stmt} {pos : Pos} {m : Str → Option Value} {news : List (Addr × Obj)}
    (F : Fr h₀ L s.heap m) (N : News h₀ L s.heap news) (P : Prop)
    (look : wpAny (model prog w) A (isTrue test env (eval test env)) (fun b s₂ => if b = true then Same h₀ L s m news P s₂ else wpAny (model prog w) A (execs orelse env) Q E s₂) E s)
    (yes : ∀ h tk, Fr h₀ L h m → News h₀ L h news → P → wpAny (model prog w) A (execs body env) Q E { s with heap := h, toks := tk }) :
    wpAny (model prog w) A (exec (.If test body orelse pos) env) Q E s :=
  wpAny_If (wpAny_mono look (fun b s' h => by
    cases b with
    | true => obtain ⟨h, tk, rfl, F, N, p⟩ := h; exact yes h tk F N p
    | false => exact h) fun _ _ e => e)
end Mine
end

-- part Rules
section
open PySem PySem.W PyProof.Rows PySem.Spec PySem.Calls
namespace Mine
section
variable {prog : Program} {w : World} {A : Around} {E : Value → Shared → Prop} {s : Shared} {h₀ : Heap} {L a b : Addr} {m : Str → Option Value} {news : List (Addr × Obj)} {o ob : Obj} {S So : Nat → Bool} {g : Obj → List (Addr × Obj)}

theorem fr_grows {h h' : Heap} (F : Fr h₀ L h m) (g : Grows h h') : Fr h₀ L h' m := ⟨F.ns.keeps g, fun b o e => g _ _ (F.keep b o e), F.above⟩
theorem news_grows {h h' : Heap} (N : News h₀ L h news) (g : Grows h h') : News h₀ L h' news := fun p hp => ⟨g _ _ (N p hp).1, (N p hp).2⟩
theorem news_new {h h' : Heap} {o' : Obj} (F : Fr h₀ L h m) (N : News h₀ L h news) (g : Grows h h') (e : h'.get? h.objs.size = some o') : News h₀ L h' ((h.objs.size, o') :: news) := fun p hp => by
  rcases List.mem_cons.mp hp with rfl | hp
  · exact ⟨e, Nat.ne_of_gt F.ns.lt, Heap.get?_none_of_le (Nat.le_trans F.above (Nat.le_of_lt F.ns.lt))⟩
  · exact ⟨g _ _ (N p hp).1, (N p hp).2⟩

theorem bs_new {Q : Value → Shared → Prop} (F : Fr h₀ L s.heap m) (N : News h₀ L s.heap news)
    (h : ∀ D h', Fr h₀ L h' m → News h₀ L h' ((D, freshSet w) :: news) → (∀ p ∈ news, p.1 < D) → Q (.ref D) { s with heap := h' }) :
    wpAny (model prog w) A (call (.type "set") []) Q E s :=
  call_set0 (h _ _ (F.push _) (News.push F N _) fun p hp => Heap.lt_size (N p hp).1)
theorem bs_list {l : Addr} {vs : List Value} {c : Nat} {ks : List Nat} {Q : Value → Shared → Prop} (F : Fr h₀ L s.heap m) (N : News h₀ L s.heap news) (hh : A.handled = none) (hl : (l, listOf vs.toArray c) ∈ news) (hi : IntsAre vs (asInts ks)) (hks : ∀ k ∈ ks, k < 1024)
    (h : ∀ D ob h' tk, Fr h₀ L h' m → News h₀ L h' ((D, ob) :: news) → (∀ p ∈ news, p.1 < D) → BSet w ob (fun j => decide (j ∈ ks)) → Q (.ref D) { s with heap := h', toks := tk }) :
    wpAny (model prog w) A (call (.type "set") [.ref l]) Q E s :=
  call_set_ints hh ⟨_, (N _ hl).1, rfl, _, rfl⟩ hi hks fun h' tk o' g lt e Bs => h _ _ _ _ (fr_grows F g) (news_new F N g e) (fun p hp => Heap.lt_size (N p hp).1) Bs
theorem bset_obj (B : BSet w o S) : ∃ n, n ≤ 1024 ∧ o.SetObjOf (PySem.intKind prog w) (fun k => decide (0 ≤ k) && S k.toNat) n := by
  obtain ⟨ex, bd, es, ep, t, hd, H⟩ := B
  refine ⟨es.size, H.size_le bd, ex, es, ep, t, hd, H.elems, fun k => ?_, rfl, H.2.2.2.fits⟩
  rw [Bool.and_eq_true, decide_eq_true_eq]
  constructor
  · rintro ⟨h0, h1⟩
    obtain ⟨e, he, hk⟩ := (H.mem (prog := prog) k.toNat).mp h1
    rw [Int.toNat_of_nonneg h0] at hk
    exact ⟨e, he, hk⟩
  · rintro ⟨e, he, hk⟩
    obtain ⟨j, tk, rfl⟩ := H.1 e he
    have hj : (PySem.intKind prog w).is (j : Int) (Value.int (j : Int) tk) = true := intKind_is prog w _ tk
    have e1 := (PySem.intKind prog w).inj _ _ _ hk hj
    subst e1
    exact ⟨by omega, (H.mem (prog := prog) _).mpr ⟨_, he, by simpa using hj⟩⟩
theorem bs_addName {pl : Sem Bool} {Q : Value × List Value → Shared → Prop} (N : News h₀ L s.heap news) (hb : (b, ob) ∈ news) (B : BSet w ob S) (h : Q (.builtin "set.add", [.ref b]) s) :
    wpAny (model prog w) A (getMethod (.ref b) "add" pl) Q E s := by
  obtain ⟨n, hn, ho⟩ := bset_obj (prog := prog) B
  exact getMethod_set_add (ho.setOf (N _ hb).1 (by unfold scanBound; omega)) h
theorem bs_add {k : Nat} {z : Int} {tk : Tok} {Q : Value → Shared → Prop} (F : Fr h₀ L s.heap m) (N : News h₀ L s.heap news) (U : UpdF b ob news g) (B : BSet w ob S) (hz : z = (k : Int)) (hk : k < 1024)
    (h : ∀ h' ob', Fr h₀ L h' m → News h₀ L h' (g ob') → BSet w ob' (fun j => S j || decide (j = k)) → Q .none { s with heap := h', toks := s.toks + 1 }) :
    wpAny (model prog w) A (call (.builtin "set.add") [.ref b, .int z tk]) Q E s := by
  subst hz
  obtain ⟨pre, post, rfl, hg, e1, e2⟩ := U.split
  have hm := N (b, ob) (List.mem_append_right _ (.head _))
  refine wpAny_call_entry PySem.F.slot_set_add (B.typeIs hm.1) PySem.F.entry_set_add ?_ (PySem.F.args_set_add_2 _ _)
  unfold Builtin.«set.add» Builtin.Frozenset.oneOther
  simp only [List.isEmpty_nil, bind_assoc]
  unfold Builtin.Frozenset.addrOf
  refine wpAny_bind (wpAny_pure ?_)
  try dsimp only
  refine wpAny_bind (wpAny_pure ?_)
  try dsimp only
  refine wpAny_bind (setAdd_ok hm.1 B hk fun h' o' hs ho' B' => ?_)
  exact wpAny_pure ⟨_, rfl, h h' o' (F.change hs hm.2.1 hm.2.2) (hg o' ▸ N.setIn e1 e2 hs ho') B'⟩
theorem bs_in {z : Int} {tk : Tok} {Q : Value → Shared → Prop} (N : News h₀ L s.heap news) (hb : (b, ob) ∈ news) (B : BSet w ob S) (h : Q (.bool (decide (0 ≤ z) && S z.toNat)) { s with toks := s.toks + 1 }) :
    wpAny (model prog w) A (compareOp .In (.int z tk) (.ref b)) Q E s := by
  obtain ⟨n, hn, ho⟩ := bset_obj (prog := prog) B
  exact wpAny_inSet_of (intKind_is prog w _ _) rfl (ho.setOf (N _ hb).1 (by unfold scanBound; omega)) h
theorem bs_truthy {Q : Bool → Shared → Prop} (N : News h₀ L s.heap news) (hb : (b, ob) ∈ news) (B : BSet w ob S) (c : Bool) (hc : c = true ↔ ∃ k, S k = true)
    (h : Q c { s with toks := s.toks + 1 + 1 }) : wpAny (model prog w) A (truthy (.ref b)) Q E s := truthy_set (N _ hb).1 B c hc h
theorem bs_len {ks : List Nat} {Q : Value → Shared → Prop} (N : News h₀ L s.heap news) (hb : (b, ob) ∈ news) (B : BSet w ob S) (nd : ks.Nodup) (hm : ∀ k, k ∈ ks ↔ S k = true)
    (h : Q (.int ks.length (s.toks + 1)) { s with toks := s.toks + 1 + 1 }) : wpAny (model prog w) A (call (.builtin "len") [.ref b]) Q E s := len_set (N _ hb).1 B nd hm h
theorem bs_max {Q : Value → Shared → Prop} {mx : Nat} (hh : A.handled = none) (F : Fr h₀ L s.heap m) (N : News h₀ L s.heap news) (hb : (b, ob) ∈ news) (B : BSet w ob S) (hm : S mx = true) (hmax : ∀ k, S k = true → k ≤ mx)
    (h : ∀ h' tk tk', Fr h₀ L h' m → News h₀ L h' news → Q (.int (mx : Int) tk') { s with heap := h', toks := tk }) : wpAny (model prog w) A (call (.builtin "max") [.ref b]) Q E s :=
  max_set hh (N _ hb).1 B hm hmax fun h' tk tk' g => h h' tk tk' (fr_grows F g) (news_grows N g)
theorem bs_eq {Q : Value → Shared → Prop} (hu : A.units < cLine) (N : News h₀ L s.heap news) (ha : (a, o) ∈ news) (hb : (b, ob) ∈ news) (Ba : BSet w o S) (Bb : BSet w ob So) (he : ∀ k, S k = So k) (h : Q (.bool true) s) :
    wpAny (model prog w) A (compareOp .Eq (.ref a) (.ref b)) Q E s := eq_sets hu (N _ hb).1 Bb (N _ ha).1 Ba he h

section
variable {Q : Value → Shared → Prop} (F : Fr h₀ L s.heap m) (N : News h₀ L s.heap news) (ha : (a, o) ∈ news) (hb : (b, ob) ∈ news) (hab : b ≠ a) (Ba : BSet w o S) (Bb : BSet w ob So)
include F N ha hb hab Ba Bb
theorem bs_or (h : ∀ D od h', Fr h₀ L h' m → News h₀ L h' ((D, od) :: news) → (∀ p ∈ news, p.1 < D) → BSet w od (fun j => S j || So j) → Q (.ref D) { s with heap := h' }) :
    wpAny (model prog w) A (binaryOp .BitOr (.ref a) (.ref b)) Q E s :=
  or_sets hab (N _ hb).1 Bb (N _ ha).1 Ba fun h' o' g l e B' => h _ _ _ (fr_grows F g) (news_new F N g e) (fun p hp => Heap.lt_size (N p hp).1) B'
theorem bs_and (h : ∀ D od h', Fr h₀ L h' m → News h₀ L h' ((D, od) :: news) → (∀ p ∈ news, p.1 < D) → BSet w od (fun j => S j && So j) → Q (.ref D) { s with heap := h' }) :
    wpAny (model prog w) A (binaryOp .BitAnd (.ref a) (.ref b)) Q E s :=
  and_sets hab (N _ hb).1 Bb (N _ ha).1 Ba fun h' o' g l e B' => h _ _ _ (fr_grows F g) (news_new F N g e) (fun p hp => Heap.lt_size (N p hp).1) B'
theorem bs_xor (h : ∀ D od h', Fr h₀ L h' m → News h₀ L h' ((D, od) :: news) → (∀ p ∈ news, p.1 < D) → BSet w od (fun j => S j ^^ So j) → Q (.ref D) { s with heap := h' }) :
    wpAny (model prog w) A (binaryOp .BitXor (.ref a) (.ref b)) Q E s :=
  xor_sets hab (N _ hb).1 Bb (N _ ha).1 Ba fun h' o' g l e B' => h _ _ _ (fr_grows F g) (news_new F N g e) (fun p hp => Heap.lt_size (N p hp).1) B'
theorem bs_sub (h : ∀ D od h', Fr h₀ L h' m → News h₀ L h' ((D, od) :: news) → (∀ p ∈ news, p.1 < D) → BSet w od (fun j => S j && !So j) → Q (.ref D) { s with heap := h' }) :
    wpAny (model prog w) A (binaryOp .Sub (.ref a) (.ref b)) Q E s :=
  sub_sets hab (N _ hb).1 Bb (N _ ha).1 Ba fun h' o' g l e B' => h _ _ _ (fr_grows F g) (news_new F N g e) (fun p hp => Heap.lt_size (N p hp).1) B'
end

theorem updF_to : ∀ {news : List (Addr × Obj)} {g : Obj → List (Addr × Obj)} (U : UpdF b ob news g) (o' : Obj), Upd b ob o' news (g o')
  | _, _, .head h, o' => .head h
  | _, _, .tail h r, o' => .tail h (updF_to r o')
theorem ext_ok {D : Addr} {its : Array Value} {n nb : Nat} {bs : List Value} {Q : Value → Shared → Prop} (F : Fr h₀ L s.heap m) (N : News h₀ L s.heap news) (hb : (b, listOf bs.toArray nb) ∈ news) (U : UpdF D (listOf its n) news g) (hsz : its.size + bs.length ≤ 1000)
    (h : ∀ h' c, Fr h₀ L h' m → News h₀ L h' (g (listOf (its.toList ++ bs).toArray c)) → Q .none { s with heap := h' }) :
    wpAny (model prog w) A (call (.builtin "list.extend") [.ref D, .ref b]) Q E s := by
  have hs : its.size + bs.toArray.size ≤ sizeLine := by
    have e : bs.toArray.size = bs.length := by simp
    rw [sizeLine_eq]; omega
  have hz : its.toList.length ≤ sizeLine := by rw [Array.length_toList]; omega
  by_cases hne : bs = []
  · subst hne
    refine kxn_extend F N hb rfl (updF_to U _) (extend_door hs) hz (Nat.le_trans hs (Nat.le_succ _)) fun h' F' N' => h h' n F' ?_
    simpa using N'
  · refine kl_extend F N hb (by simp) (by simpa using hne) (updF_to U _) (extend_door hs) hz (Nat.le_trans hs (Nat.le_succ _)) fun h' F' N' => h h' (n + 1) F' N'

theorem ints_get {vs : List Value} {ns : List Int} (hb : IntsAre vs ns) : ∀ {q : Nat}, q < ns.length → ∃ t, vs[q]? = some (.int (ns.getD q 0) t) := by
  induction hb with
  | nil => intro q h; simp at h
  | cons n t _ ih =>
    intro q h
    cases q with
    | zero => exact ⟨t, rfl⟩
    | succ q => exact ih (by simpa using h)
theorem ints_set {vs : List Value} {ns : List Int} (hb : IntsAre vs ns) (y : Int) (u : Tok) : ∀ q : Nat, IntsAre (vs.set q (.int y u)) (ns.set q y) := by
  induction hb with
  | nil => intro q; exact .nil
  | cons n t h ih =>
    intro q
    cases q with
    | zero => exact .cons _ _ h
    | succ q => exact .cons _ _ (ih q)
theorem lget {D : Addr} {vs : List Value} {V : List Nat} {n q : Nat} {u : Tok} {Q : Value → Shared → Prop} (N : News h₀ L s.heap news) (hm : (D, listOf vs.toArray n) ∈ news) (hb : IntsAre vs (asInts V)) (hq : q < V.length) (hfit : q < 2 ^ 63) (h : ∀ t, Q (.int ((V.getD q 0 : Nat) : Int) t) s) :
    wpAny (model prog w) A (getItem (.ref D) (.int ((q : Nat) : Int) u)) Q E s := by
  obtain ⟨t, ht⟩ := ints_get hb (q := q) (by rw [List.length_map]; exact hq)
  have e : (asInts V).getD q 0 = ((V.getD q 0 : Nat) : Int) := by
    unfold asInts
    rw [List.getD_eq_getElem?_getD, List.getD_eq_getElem?_getD, List.getElem?_map]
    cases V[q]? <;> rfl
  rw [e] at ht
  exact wpAny_getItem_list (PySem.IsL.isList (n := n) (N _ hm).1) (by omega) (by omega) (by simpa using ht) (h t)
theorem setL_at : ∀ {l : List Value} {k : Nat} {v : Value}, k < l.length → ki_setL l k v = some (l.set k v)
  | [], k, _, h => by simp at h
  | _ :: _, 0, _, _ => rfl
  | x :: r, k + 1, v, h => by
    unfold ki_setL
    rw [setL_at (l := r) (by simpa using h)]
    rfl
theorem lset {D : Addr} {vs : List Value} {n q : Nat} {t : Tok} {v : Value} {Q : Unit → Shared → Prop} (F : Fr h₀ L s.heap m) (N : News h₀ L s.heap news) (U : UpdF D (listOf vs.toArray n) news g) (hq : q < vs.length) (hfit : q < 2 ^ 63)
    (h : ∀ h', Fr h₀ L h' m → News h₀ L h' (g (listOf (vs.set q v).toArray n)) → Q () { s with heap := h' }) : wpAny (model prog w) A (setItem (.ref D) (.int ((q : Nat) : Int) t) v) Q E s := by
  refine ki_set F N (by omega) (by omega) (q := vs.set q v) ?_ (updF_to U _) h
  rw [Int.toNat_natCast]
  show ki_setL vs q v = some (vs.set q v)
  exact setL_at hq
end
end Mine
end

-- part Bts
section
open PySem PySem.W PyProof.Rows PySem.Spec PySem.Calls
namespace Mine
theorem ib_no_bytes : typeLookup (.type "int") "__bytes__" = pure none := by rw [typeLookup_type, builtinLookup_eq_fast]; kernel_rfl
theorem ib_index : typeLookup (.type "int") "__index__" = pure (some (.builtin "int.__index__")) := by rw [typeLookup_type, builtinLookup_eq_fast]; kernel_rfl
section
variable {prog : Program} {w : World} {A : Around} {E : Value → Shared → Prop} {s : Shared}
theorem bytes12_new {tk : Tok} {Q : Value → Shared → Prop} (hQ : ∀ t k, Q (.bytes (Array.replicate 12 0) t) { s with toks := k }) :
    codeAny (model prog w) A (.call (.builtin "bytes.__new__") ⟨[.type "bytes", .int 12 tk], []⟩) (wants Q E) s := by
  refine codeAny_of_tree ?_
  show wpAny _ A.in1 (do checkBuiltinCall "bytes.__new__" ⟨[.type "bytes", .int 12 tk], []⟩; again (.builtin "bytes.__new__" ⟨[.type "bytes", .int 12 tk], []⟩)) _ _ s
  refine wpAny_bind (wpAny_of_eq (F.bm_newCall _) (wpAny_pure ⟨plainId_quiet F.bm_plain _, codeAny_builtin F.bm_entry ?_⟩))
  rw [Around.under_plainId F.bm_plain _]
  have hT : s.TypeIs (.int 12 tk) "int" := PySem.typeIs_int _ _ _
  unfold Builtin.«bytes.__new__»
  refine wpAny_bind (wpAny_of_eq (a := true) rfl ?_)
  refine bm_if_false rfl ?_
  refine wpAny_bind (wpAny_of_eq F.bm_sub ?_)
  refine bm_if_false rfl ?_
  refine wpAny_bind (wpAny_of_eq (F.bm_bind _) ?_)
  refine wpAny_bind (wpAny_of_eq (a := ()) rfl ?_)
  refine wpAny_bind (wpAny_of_eq (a := ()) rfl ?_)
  refine bm_if_false rfl ?_
  refine wpAny_bind (wpAny_specialOf hT ib_no_bytes ?_)
  refine wpAny_bind (wpAny_bind (wpAny_pure (wpAny_pure ?_)))
  refine bm_if_false rfl ?_
  refine wpAny_bind (wpAny_specialOf hT ib_index ?_)
  refine bm_if_false rfl ?_
  refine wpAny_bind (wpAny_of_eq (a := Except.ok (12 : Int)) rfl ?_)
  dsimp only
  refine bm_if_false (by decide) ?_
  rw [if_neg (by decide), if_neg (by decide)]
  refine bm_if_false (by unfold Builtin.Bytes.tooLong; first | decide | (rw [sizeLine_eq]; decide)) ?_
  refine wpAny_bind (wpAny_rule ?_)
  refine wpAny_bind (wpAny_mkBytes ?_ (by rw [Array.size_replicate, sizeLine_eq]; decide))
  show wpAny _ _ (if (Value.type "bytes" == Value.type "bytes") = true then _ else _) _ _ _
  refine bm_if_true (by decide) ?_
  first
    | exact wpAny_pure (hQ _ _)
    | exact wpAny_bind (wpAny_pure (wpAny_pure (hQ _ _)))
theorem call_bytes12 {tk : Tok} {Q : Value → Shared → Prop} (hQ : ∀ t k, Q (.bytes (Array.replicate 12 0) t) { s with toks := k }) : wpAny (model prog w) A (call (.type "bytes") [.int 12 tk]) Q E s := by
  refine callType_codes (Q₁ := fun obj s₁ => s₁.TypeIs obj "bytes" ∧ Q obj s₁) F.bm_called (F.bm_typeCall _) F.entry_object_init
    (bytes12_new fun t k => ⟨PySem.W.typeIs_bytes _ _ _, hQ t k⟩) fun obj s₁ h₁ => ?_
  exact ⟨h₁.1, F.args_object_init_2 obj _, object_init_meets F.bm_called.init.lookup F.bm_called.made (by decide) prog w A.in1 _ s₁ ⟨h₁.1, rfl, h₁.2⟩⟩

theorem ib_noadd : typeLookup (.type "bytes") (dunderI "add") = pure none := by rw [typeLookup_type, builtinLookup_eq_fast]; kernel_rfl
theorem iadd_bytes {b c : Array UInt8} {t u : Tok} {Q : Value → Shared → Prop} (hsz : b.size + c.size ≤ 16777216) (h : ∀ t' k, Q (.bytes (b ++ c) t') { s with toks := k }) : wpAny (model prog w) A (inplaceOp .Add (.bytes b t) (.bytes c u)) Q E s := by
  refine iconcat_gives (typeIs_bytes s b t) (typeIs_bytes s c u) ib_noadd KBy.noFill_bytes_add KBy.seq_bytes_add PySem.W.FB.slot_bytes_add PySem.W.FB.entry_bytes_add (PySem.W.FB.args_bytes_add_2 _ _) (KBy.gives_bytes_add (KBy.tooLong_not hsz)) ?_
  by_cases hb : b.isEmpty = true
  · rw [if_pos hb]
    have e : b = #[] := Array.isEmpty_iff.1 hb
    have h' := h u s.toks
    rw [e, Array.empty_append] at h'
    exact h'
  · rw [if_neg hb]
    by_cases hc : c.isEmpty = true
    · rw [if_pos hc]
      have e : c = #[] := Array.isEmpty_iff.1 hc
      have h' := h t s.toks
      rw [e, Array.append_empty] at h'
      exact h'
    · rw [if_neg hc]
      exact ⟨by rw [Array.size_append, sizeLine_eq]; exact hsz, h s.toks (s.toks + 1)⟩
theorem bInts_nil : KBw.bInts #[] = ([] : List Int) := rfl
theorem iadd_ints {b c : Array UInt8} {t u : Tok} {ks ls : List Int} {Q : Value → Shared → Prop} (hb : KBw.bInts b = ks) (hc : KBw.bInts c = ls) (hsz : ks.length + ls.length ≤ 16777216)
    (h : ∀ t' k, KBw.bInts (b ++ c) = ks ++ ls → Q (.bytes (b ++ c) t') { s with toks := k }) : wpAny (model prog w) A (inplaceOp .Add (.bytes b t) (.bytes c u)) Q E s :=
  iadd_bytes (by rw [← KBw.ints_length b, ← KBw.ints_length c, hb, hc]; exact hsz) fun t' k => h t' k (KBw.ints_app hb hc)
end
end Mine
end

-- part Enc
section
open PySem PySem.W PyProof.Rows PySem.Spec PySem.Calls
namespace Mine
def isLit (x : Nat) : Bool := x != 0 && x != 2 ^ 64 - 1
def hdrOf (l r x : Nat) : Nat := ((l <<< 33) ||| (r <<< 1)) ||| (if x = 2 ^ 64 - 1 then 1 else 0)
def runOf (x : Nat) (W : List Nat) : Nat := if isLit x then 0 else (W.takeWhile (· == x)).length
def afterRun (x : Nat) (W : List Nat) : List Nat := if isLit x then W else W.dropWhile (· == x)
def encGo : Nat → List Nat → List Nat
  | 0, _ => []
  | _ + 1, [] => []
  | f + 1, x :: W => hdrOf ((afterRun x (x :: W)).takeWhile isLit).length (runOf x (x :: W)) x :: ((afterRun x (x :: W)).takeWhile isLit ++ encGo f ((afterRun x (x :: W)).dropWhile isLit))
def encW (W : List Nat) : List Nat := encGo W.length W

theorem after_len (x : Nat) (W : List Nat) : ((afterRun x (x :: W)).dropWhile isLit).length ≤ W.length := by
  unfold afterRun
  split
  · rename_i h
    rw [List.dropWhile_cons_of_pos h]
    exact (List.dropWhile_sublist isLit).length_le
  · rw [List.dropWhile_cons_of_pos (by simp)]
    exact Nat.le_trans (List.dropWhile_sublist isLit).length_le (List.dropWhile_sublist _).length_le
theorem encGo_fuel : ∀ (f g : Nat) (W : List Nat), W.length ≤ f → W.length ≤ g → encGo f W = encGo g W
  | 0, 0, _, _, _ => rfl
  | 0, g + 1, W, h, _ => by
    have : W = [] := List.length_eq_zero_iff.mp (by omega)
    subst this; rfl
  | f + 1, 0, W, _, h => by
    have : W = [] := List.length_eq_zero_iff.mp (by omega)
    subst this; rfl
  | f + 1, g + 1, [], _, _ => rfl
  | f + 1, g + 1, x :: W, h1, h2 => by
    unfold encGo
    have := after_len x W
    rw [List.length_cons] at h1 h2
    rw [encGo_fuel f g _ (by omega) (by omega)]
theorem encW_nil : encW [] = [] := rfl
theorem encW_cons (x : Nat) (W : List Nat) : encW (x :: W) = hdrOf ((afterRun x (x :: W)).takeWhile isLit).length (runOf x (x :: W)) x :: ((afterRun x (x :: W)).takeWhile isLit ++ encW ((afterRun x (x :: W)).dropWhile isLit)) := by
  have h := after_len x W
  show encGo (W.length + 1) (x :: W) = _
  rw [encGo]
  congr 2
  exact encGo_fuel _ _ _ h (Nat.le_refl _)

/-- takeWhile by its marks -/
theorem take_marks {p : Nat → Bool} : ∀ {W : List Nat} {r : Nat}, r ≤ W.length → (∀ j < r, p (W.getD j 0) = true) → (r = W.length ∨ p (W.getD r 0) = false) → W.takeWhile p = W.take r ∧ W.dropWhile p = W.drop r
  | [], r, h, _, _ => by simp at h; subst h; exact ⟨rfl, rfl⟩
  | x :: W, 0, _, _, h => by
    rcases h with h | h
    · cases h
    · have : p x = false := h
      simp [this]
  | x :: W, r + 1, h1, h2, h3 => by
    have hx : p x = true := h2 0 (by omega)
    obtain ⟨a, b⟩ := take_marks (p := p) (W := W) (r := r) (by simpa using h1) (fun j hj => h2 (j + 1) (by omega)) (h3.imp (fun h => by simpa using h) fun h => h)
    rw [List.takeWhile_cons_of_pos hx, List.dropWhile_cons_of_pos hx, a, b]
    exact ⟨rfl, rfl⟩

/-- one chunk, as the loops find it: a run of r words x from k, then l literal words -/
theorem enc_chunk {W : List Nat} {k r l : Nat} {x : Nat} (hk : k < W.length) (hx : W.getD k 0 = x) (hr0 : isLit x = true → r = 0) (hr : k + r ≤ W.length) (hrun : ∀ j < r, W.getD (k + j) 0 = x) (hend : isLit x = false → k + r = W.length ∨ W.getD (k + r) 0 ≠ x)
    (hl : k + r + l ≤ W.length) (hlit : ∀ j < l, isLit (W.getD (k + r + j) 0) = true) (hlend : k + r + l = W.length ∨ isLit (W.getD (k + r + l) 0) = false) :
    encW (W.drop k) = hdrOf l r x :: ((W.drop (k + r)).take l ++ encW (W.drop (k + r + l))) := by
  have e0 : W.drop k = x :: W.drop (k + 1) := by
    rw [List.drop_eq_getElem_cons hk]
    congr 1
    rw [← hx, List.getD_eq_getElem?_getD, List.getElem?_eq_getElem hk]; rfl
  have g : ∀ a j, (W.drop a).getD j 0 = W.getD (a + j) 0 := fun a j => by rw [List.getD_eq_getElem?_getD, List.getD_eq_getElem?_getD, List.getElem?_drop]
  have e1 : afterRun x (W.drop k) = W.drop (k + r) ∧ runOf x (W.drop k) = r := by
    unfold afterRun runOf
    cases hx' : isLit x with
    | true => rw [hr0 hx']; exact ⟨rfl, rfl⟩
    | false =>
      have := take_marks (p := (· == x)) (W := W.drop k) (r := r) (by rw [List.length_drop]; omega) (fun j hj => by rw [g, hrun j hj]; simp) ((hend hx').imp (fun h => by rw [List.length_drop]; omega) fun h => by show ((W.drop k).getD r 0 == x) = false; rw [g]; exact beq_eq_false_iff_ne.mpr h)
      simp only [Bool.false_eq_true, if_false]
      rw [this.1, this.2, List.drop_drop, List.length_take, List.length_drop]
      exact ⟨rfl, by omega⟩
  have e2 := take_marks (p := isLit) (W := W.drop (k + r)) (r := l) (by rw [List.length_drop]; omega) (fun j hj => by rw [g]; exact hlit j hj) (hlend.imp (fun h => by rw [List.length_drop]; omega) fun h => by rw [g]; exact h)
  have := encW_cons x (W.drop (k + 1))
  rw [← e0, e1.1, e1.2, e2.1, e2.2, List.drop_drop, List.length_take, List.length_drop] at this
  rw [this, show min l (W.length - (k + r)) = l by omega]
end Mine
end

-- part Enc2
section
open PySem PySem.W PyProof.Rows PySem.Spec PySem.Calls
namespace Mine
theorem split_len (p : Nat → Bool) (A : List Nat) : (A.takeWhile p).length + (A.dropWhile p).length = A.length := by
  rw [← List.length_append, List.takeWhile_append_dropWhile]
theorem encGo_len : ∀ (f : Nat) (W : List Nat), (encGo f W).length ≤ 2 * W.length
  | 0, _ => Nat.zero_le _
  | _ + 1, [] => Nat.zero_le _
  | f + 1, x :: W => by
    unfold encGo
    rw [List.length_cons, List.length_append, List.length_cons]
    have h := encGo_len f ((afterRun x (x :: W)).dropWhile isLit)
    have hs := split_len isLit (afterRun x (x :: W))
    cases hx : isLit x with
    | true =>
      have e : afterRun x (x :: W) = x :: W := by unfold afterRun; rw [if_pos hx]
      rw [e] at h hs ⊢
      rw [List.takeWhile_cons_of_pos hx, List.dropWhile_cons_of_pos hx] at hs ⊢
      rw [List.dropWhile_cons_of_pos hx] at h
      simp only [List.length_cons] at hs ⊢
      omega
    | false =>
      have e : afterRun x (x :: W) = W.dropWhile (· == x) := by
        unfold afterRun; rw [if_neg (by rw [hx]; decide), List.dropWhile_cons_of_pos (by simp)]
      rw [e] at h hs ⊢
      have := (List.dropWhile_sublist (l := W) (· == x)).length_le
      omega
theorem encW_len (W : List Nat) : (encW W).length ≤ 2 * W.length := encGo_len _ _
theorem hdr_lt {l r x : Nat} (hl : l ≤ 1000) (hr : r ≤ 1000) : hdrOf l r x < 2 ^ 64 := by
  unfold hdrOf
  refine Nat.or_lt_two_pow (Nat.or_lt_two_pow ?_ ?_) ?_
  · rw [Nat.shiftLeft_eq]; omega
  · rw [Nat.shiftLeft_eq]; omega
  · split <;> decide
theorem encGo_lt : ∀ (f : Nat) (W : List Nat), W.length ≤ 1000 → (∀ x ∈ W, x < 2 ^ 64) → ∀ c ∈ encGo f W, c < 2 ^ 64
  | 0, _, _, _, c, h => nomatch h
  | _ + 1, [], _, _, c, h => nomatch h
  | f + 1, x :: W, hl, hw, c, h => by
    have hsub : (afterRun x (x :: W)).Sublist (x :: W) := by
      unfold afterRun; split
      · exact List.Sublist.refl _
      · exact List.dropWhile_sublist _
    have hsub2 := (List.dropWhile_sublist (l := afterRun x (x :: W)) isLit).trans hsub
    have hsub3 := (List.takeWhile_sublist (l := afterRun x (x :: W)) isLit).trans hsub
    unfold encGo at h
    rcases List.mem_cons.mp h with rfl | h
    · refine hdr_lt (Nat.le_trans hsub3.length_le hl) ?_
      unfold runOf
      split
      · exact Nat.zero_le _
      · exact Nat.le_trans (List.takeWhile_sublist _).length_le hl
    · rcases List.mem_append.mp h with h | h
      · exact hw c (hsub3.subset h)
      · exact encGo_lt f _ (Nat.le_trans hsub2.length_le hl) (fun y hy => hw y (hsub2.subset hy)) c h
theorem encW_lt {W : List Nat} (hl : W.length ≤ 1000) (hw : ∀ x ∈ W, x < 2 ^ 64) : ∀ c ∈ encW W, c < 2 ^ 64 := encGo_lt _ _ hl hw
end Mine
end

-- part Oct
section
open PySem PySem.W PyProof.Rows PySem.Spec PySem.Calls
namespace Mine
abbrev bl (X : Nat) : Nat := Builtin.Int.intBits (X : Int)
def wcount (X : Nat) : Nat := (bl X + 63) / 64
def wordsX (X : Nat) : List Nat := (List.range (wcount X)).map fun j => (X >>> (64 * j)) % 2 ^ 64
def be (k : Nat) (x : Int) : List Int := (KTBy.little k x).reverse
def octI (X : Nat) : List Int := be 4 (bl X : Nat) ++ (be 4 ((encW (wordsX X)).length : Nat) ++ ((encW (wordsX X)).flatMap (fun c => be 8 ((c : Nat) : Int)) ++ be 4 0))
theorem be_len (k : Nat) (x : Int) : (be k x).length = k := by unfold be; rw [List.length_reverse, KTBy.little_length]
theorem flat8_len : ∀ C : List Nat, (C.flatMap (fun c => be 8 ((c : Nat) : Int))).length = 8 * C.length
  | [] => rfl
  | c :: C => by rw [List.flatMap_cons, List.length_append, be_len, flat8_len C, List.length_cons]; omega
theorem octI_len (X : Nat) : (octI X).length = 12 + 8 * (encW (wordsX X)).length := by
  unfold octI
  rw [List.length_append, List.length_append, List.length_append, be_len, be_len, be_len, flat8_len]; omega
theorem value_little : ∀ (k : Nat) (x : Int), 0 ≤ x → x < 256 ^ k → (KTBy.little k x).foldr (fun k a => a * 256 + k) 0 = x
  | 0, x, h0, h1 => by
    rw [Int.pow_zero] at h1
    show (0 : Int) = x
    omega
  | k + 1, x, h0, h1 => by
    show (KTBy.little k (x / 256)).foldr (fun k a => a * 256 + k) 0 * 256 + x % 256 = x
    rw [value_little k (x / 256) (by omega) ?_]
    · omega
    · rw [Int.pow_succ] at h1
      exact Int.ediv_lt_of_lt_mul (by decide) h1
theorem value_be {k : Nat} {x : Int} (h0 : 0 ≤ x) (h1 : x < 256 ^ k) : KFB.value (be k x) = x := by
  unfold KFB.value be
  rw [List.foldl_reverse]
  exact value_little k x h0 h1
theorem bl_le384 {X : Nat} (hX : X < 2 ^ 384) : bl X ≤ 384 := intBits_lt hX
theorem wordsX_len (X : Nat) : (wordsX X).length = wcount X := by unfold wordsX; rw [List.length_map, List.length_range]
theorem wordsX_lt (X : Nat) : ∀ x ∈ wordsX X, x < 2 ^ 64 := fun x hx => by
  unfold wordsX at hx
  rw [List.mem_map] at hx
  obtain ⟨j, _, rfl⟩ := hx
  exact Nat.mod_lt _ (by decide)
theorem wcount_le {X : Nat} (hX : X < 2 ^ 384) : wcount X ≤ 6 := by have := bl_le384 hX; unfold wcount; omega
theorem encX_len {X : Nat} (hX : X < 2 ^ 384) : (encW (wordsX X)).length ≤ 12 := by
  have h1 := encW_len (wordsX X)
  rw [wordsX_len] at h1
  have := wcount_le hX
  omega
theorem encX_lt {X : Nat} (hX : X < 2 ^ 384) : ∀ c ∈ encW (wordsX X), c < 2 ^ 64 := encW_lt (by rw [wordsX_len]; have := wcount_le hX; omega) (wordsX_lt X)
theorem oct_a (X : Nat) : (octI X).take 4 = be 4 (bl X : Nat) := by
  unfold octI
  rw [List.take_append_of_le_length (by rw [be_len]; exact Nat.le_refl _), List.take_of_length_le (by rw [be_len]; exact Nat.le_refl _)]
theorem oct_b (X : Nat) : ((octI X).drop 4).take 4 = be 4 ((encW (wordsX X)).length : Nat) := by
  unfold octI
  rw [List.drop_append_of_le_length (by rw [be_len]; exact Nat.le_refl _), List.drop_of_length_le (by rw [be_len]; exact Nat.le_refl _), List.nil_append,
    List.take_append_of_le_length (by rw [be_len]; exact Nat.le_refl _), List.take_of_length_le (by rw [be_len]; exact Nat.le_refl _)]
theorem flat_cut : ∀ (C : List Nat) (k : Nat) (c : Nat) (r : List Int), C[k]? = some c → ((C.flatMap (fun c => be 8 ((c : Nat) : Int)) ++ r).drop (8 * k)).take 8 = be 8 ((c : Nat) : Int)
  | c :: C, 0, c', r, h => by
    have : c = c' := Option.some.inj h
    subst this
    rw [List.flatMap_cons, Nat.mul_zero, List.drop_zero, List.append_assoc, List.take_append_of_le_length (by rw [be_len]; exact Nat.le_refl _), List.take_of_length_le (by rw [be_len]; exact Nat.le_refl _)]
  | c :: C, k + 1, c', r, h => by
    have e : 8 * (k + 1) = (be 8 ((c : Nat) : Int)).length + 8 * k := by rw [be_len]; omega
    rw [List.flatMap_cons, List.append_assoc, e, List.drop_length_add_append]
    exact flat_cut C k c' r h
theorem oct_c {X k c : Nat} (h : (encW (wordsX X))[k]? = some c) : ((octI X).drop (8 + 8 * k)).take 8 = be 8 ((c : Nat) : Int) := by
  unfold octI
  have e : 8 + 8 * k = (be 4 ((bl X : Nat) : Int)).length + ((be 4 (((encW (wordsX X)).length : Nat) : Int)).length + 8 * k) := by rw [be_len, be_len]; omega
  rw [e, List.drop_length_add_append, List.drop_length_add_append]
  exact flat_cut _ k c _ h
end Mine
end

-- part Rd
section
open PySem PySem.W PyProof.Rows PySem.Spec PySem.Calls
namespace Mine
theorem wordsX_get {X k : Nat} (hk : k < wcount X) : (wordsX X).getD k 0 = (X >>> (64 * k)) % 2 ^ 64 := by
  unfold wordsX
  rw [List.getD_eq_getElem?_getD, List.getElem?_map, List.getElem?_range hk]; rfl
theorem word_bit {X k i : Nat} (hk : k < wcount X) : ((wordsX X).getD k 0).testBit i = (decide (i < 64) && X.testBit (64 * k + i)) := by
  rw [wordsX_get hk, Nat.testBit_mod_two_pow, Nat.testBit_shiftRight]
/-- the low words, one more -/
theorem low_lit {X k : Nat} (hk : k < wcount X) : X % 2 ^ (64 * (k + 1)) = X % 2 ^ (64 * k) ||| ((wordsX X).getD k 0) <<< (64 * k) := by
  refine Nat.eq_of_testBit_eq fun i => ?_
  rw [Nat.testBit_mod_two_pow, Nat.testBit_or, Nat.testBit_mod_two_pow, Nat.testBit_shiftLeft, word_bit hk]
  by_cases h1 : i < 64 * k
  · have h2 : i < 64 * (k + 1) := by omega
    have h3 : ¬ i ≥ 64 * k := by omega
    simp [h1, h2, h3]
  · by_cases h2 : i < 64 * (k + 1)
    · have h3 : i ≥ 64 * k := by omega
      have h4 : i - 64 * k < 64 := by omega
      have h5 : 64 * k + (i - 64 * k) = i := by omega
      simp [h1, h2, h3, h4, h5]
    · have h4 : ¬ i - 64 * k < 64 := by omega
      simp [h1, h2, h4]
theorem low_zero {X k r : Nat} (hk : k + r ≤ wcount X) (h : ∀ j < r, (wordsX X).getD (k + j) 0 = 0) : X % 2 ^ (64 * (k + r)) = X % 2 ^ (64 * k) := by
  induction r with
  | zero => rfl
  | succ r ih =>
    rw [show k + (r + 1) = k + r + 1 from rfl, low_lit (by omega), h r (by omega), Nat.zero_shiftLeft, Nat.or_zero]
    exact ih (by omega) fun j hj => h j (by omega)
theorem low_ones {X k r : Nat} (hk : k + r ≤ wcount X) (h : ∀ j < r, (wordsX X).getD (k + j) 0 = 2 ^ 64 - 1) : X % 2 ^ (64 * (k + r)) = X % 2 ^ (64 * k) ||| (2 ^ (64 * r) - 1) <<< (64 * k) := by
  refine Nat.eq_of_testBit_eq fun i => ?_
  rw [Nat.testBit_mod_two_pow, Nat.testBit_or, Nat.testBit_mod_two_pow, Nat.testBit_shiftLeft, Nat.testBit_two_pow_sub_one]
  by_cases h1 : i < 64 * k
  · have h2 : i < 64 * (k + r) := by omega
    have h3 : ¬ i ≥ 64 * k := by omega
    simp [h1, h2, h3]
  · by_cases h2 : i < 64 * (k + r)
    · have h3 : i ≥ 64 * k := by omega
      have h4 : i - 64 * k < 64 * r := by omega
      have hj : (i - 64 * k) / 64 < r := by omega
      have hb := word_bit (X := X) (k := k + (i - 64 * k) / 64) (i := i % 64) (by omega)
      rw [h _ hj, Nat.testBit_two_pow_sub_one] at hb
      have h5 : 64 * (k + (i - 64 * k) / 64) + i % 64 = i := by omega
      have h6 : i % 64 < 64 := by omega
      rw [h5] at hb
      have hX : X.testBit i = true := by simpa [h6] using hb.symm
      simp [h1, h2, h3, h4, hX]
    · have h4 : ¬ i - 64 * k < 64 * r := by omega
      simp [h1, h2, h4]
theorem low_all (X : Nat) : X % 2 ^ (64 * wcount X) = X := by
  refine Nat.mod_eq_of_lt (Nat.lt_of_lt_of_le (lt_intBits X) (Nat.pow_le_pow_right (by decide) ?_))
  show bl X ≤ 64 * wcount X
  unfold wcount; omega
end Mine
end

-- part Hdr
section
open PySem PySem.W PyProof.Rows PySem.Spec PySem.Calls
namespace Mine
def bitOf (x : Nat) : Nat := if x = 2 ^ 64 - 1 then 1 else 0
theorem bitOf_lt (x : Nat) : bitOf x < 2 := by unfold bitOf; split <;> decide
theorem hdr_eq {l r x : Nat} (hr : r < 2 ^ 32) : hdrOf l r x = 2 ^ 33 * l + 2 * r + bitOf x := by
  have hb := bitOf_lt x
  have e1 : l <<< 33 ||| r <<< 1 = l <<< 33 + r <<< 1 := (Nat.shiftLeft_add_eq_or_of_lt (by rw [Nat.shiftLeft_eq]; omega) l).symm
  have e2 : l <<< 33 + r <<< 1 = (2 ^ 32 * l + r) <<< 1 := by rw [Nat.shiftLeft_eq, Nat.shiftLeft_eq, Nat.shiftLeft_eq]; omega
  show (l <<< 33 ||| r <<< 1) ||| bitOf x = _
  rw [e1, e2, ← Nat.shiftLeft_add_eq_or_of_lt (by omega), Nat.shiftLeft_eq]
  omega
theorem hdr_lits {l r x : Nat} (hr : r < 2 ^ 32) : hdrOf l r x / 2 ^ 33 = l := by have := bitOf_lt x; rw [hdr_eq hr]; omega
theorem hdr_run {l r x : Nat} (hr : r < 2 ^ 32) : hdrOf l r x / 2 % 2 ^ 32 = r := by have := bitOf_lt x; rw [hdr_eq hr]; omega
theorem hdr_bit {l r x : Nat} (hr : r < 2 ^ 32) : hdrOf l r x % 2 = bitOf x := by have := bitOf_lt x; rw [hdr_eq hr]; omega
/-- the next chunk of the words behind k, read off the encoding -/
theorem chunk_of {W : List Nat} {k : Nat} (hk : k < W.length) : ∃ r l, encW (W.drop k) = hdrOf l r (W.getD k 0) :: ((W.drop (k + r)).take l ++ encW (W.drop (k + r + l))) ∧
    k + r + l ≤ W.length ∧ (∀ j < r, W.getD (k + j) 0 = W.getD k 0) ∧ (∀ j < l, isLit (W.getD (k + r + j) 0) = true) ∧ (k + r + l = W.length ∨ isLit (W.getD (k + r + l) 0) = false) ∧
    (isLit (W.getD k 0) = true → r = 0) ∧ (isLit (W.getD k 0) = false → 0 < r) ∧ 0 < r + l := by
  have hrun : ∃ r, (isLit (W.getD k 0) = true → r = 0) ∧ k + r ≤ W.length ∧ (∀ j < r, W.getD (k + j) 0 = W.getD k 0) ∧ (isLit (W.getD k 0) = false → k + r = W.length ∨ W.getD (k + r) 0 ≠ W.getD k 0) ∧ (isLit (W.getD k 0) = false → 0 < r) := by
    cases h : isLit (W.getD k 0) with
    | true => exact ⟨0, fun _ => rfl, by omega, fun j hj => absurd hj (Nat.not_lt_zero j), (fun h => nomatch h), fun h => nomatch h⟩
    | false =>
      have : ∀ n, ∃ r, r ≤ n ∧ k + r ≤ W.length ∧ (∀ j < r, W.getD (k + j) 0 = W.getD k 0) ∧ (r = n ∨ k + r = W.length ∨ W.getD (k + r) 0 ≠ W.getD k 0) := by
        intro n
        induction n with
        | zero => exact ⟨0, Nat.le_refl _, by omega, fun j hj => absurd hj (Nat.not_lt_zero j), .inl rfl⟩
        | succ n ih =>
          obtain ⟨r, h1, h2, h3, h4⟩ := ih
          by_cases hs : r = n ∧ k + r < W.length ∧ W.getD (k + r) 0 = W.getD k 0
          · obtain ⟨rfl, h5, h6⟩ := hs
            refine ⟨r + 1, by omega, by omega, fun j hj => ?_, .inl rfl⟩
            rcases Nat.lt_succ_iff_lt_or_eq.mp hj with h | rfl
            · exact h3 j h
            · exact h6
          · refine ⟨r, by omega, h2, h3, ?_⟩
            rcases h4 with h4 | h4
            · by_cases h5 : k + r < W.length
              · exact .inr (.inr fun h6 => hs ⟨h4, h5, h6⟩)
              · exact .inr (.inl (by omega))
            · exact .inr h4
      obtain ⟨r, h1, h2, h3, h4⟩ := this (W.length + 1)
      have h4' : k + r = W.length ∨ W.getD (k + r) 0 ≠ W.getD k 0 := by
        rcases h4 with h4 | h4
        · omega
        · exact h4
      refine ⟨r, (fun h => nomatch h), h2, h3, fun _ => h4', fun _ => Nat.pos_of_ne_zero ?_⟩
      rintro rfl
      rcases h4' with h | h
      · omega
      · exact h rfl
  obtain ⟨r, r1, r2, r3, r4, r5⟩ := hrun
  have hlit : ∀ n, ∃ l, l ≤ n ∧ k + r + l ≤ W.length ∧ (∀ j < l, isLit (W.getD (k + r + j) 0) = true) ∧ (l = n ∨ k + r + l = W.length ∨ isLit (W.getD (k + r + l) 0) = false) := by
    intro n
    induction n with
    | zero => exact ⟨0, Nat.le_refl _, by omega, fun j hj => absurd hj (Nat.not_lt_zero j), .inl rfl⟩
    | succ n ih =>
      obtain ⟨l, h1, h2, h3, h4⟩ := ih
      by_cases hs : l = n ∧ k + r + l < W.length ∧ isLit (W.getD (k + r + l) 0) = true
      · obtain ⟨rfl, h5, h6⟩ := hs
        refine ⟨l + 1, by omega, by omega, fun j hj => ?_, .inl rfl⟩
        rcases Nat.lt_succ_iff_lt_or_eq.mp hj with h | rfl
        · exact h3 j h
        · exact h6
      · refine ⟨l, by omega, h2, h3, ?_⟩
        rcases h4 with h4 | h4
        · by_cases h5 : k + r + l < W.length
          · refine .inr (.inr ?_)
            cases h6 : isLit (W.getD (k + r + l) 0) with
            | true => exact absurd ⟨h4, h5, h6⟩ hs
            | false => rfl
          · exact .inr (.inl (by omega))
        · exact .inr h4
  obtain ⟨l, l1, l2, l3, l4⟩ := hlit (W.length + 1)
  have l4' : k + r + l = W.length ∨ isLit (W.getD (k + r + l) 0) = false := by
    rcases l4 with h | h
    · omega
    · exact h
  refine ⟨r, l, enc_chunk hk rfl r1 r2 r3 r4 l2 l3 l4', l2, r3, l3, l4', r1, r5, ?_⟩
  cases h : isLit (W.getD k 0) with
  | false => have := r5 h; omega
  | true =>
    have h0 := r1 h
    subst h0
    refine Nat.pos_of_ne_zero fun h1 => ?_
    have hl0 : l = 0 := by omega
    subst hl0
    rcases l4' with h2 | h2
    · omega
    · simp only [Nat.add_zero] at h2; rw [h] at h2; cases h2
end Mine
end

-- part F1
section
open PySem PySem.W PyProof.Rows PySem.Spec PySem.Calls
namespace Mine
theorem fill_frag : (fun (_ : OpenLaw) (_ : Params → Frag) => True) PySem.Challenge.rw_iy0007_01 hd.heap_1 := by k_fill; trivial


theorem off1_all {D : Addr} : ∀ {l : List (Addr × Obj)}, LCg.Off1 D l → ∀ p ∈ l, p.1 ≠ D
  | [], _, _, h => nomatch h
  | _ :: _, x, p, h => by
    rcases List.mem_cons.mp h with rfl | h
    · exact x.1
    · exact off1_all x.2 p h

section
variable {prog : Program} {w : World} {mean : ExcName → Option Value} {mg mb : Str → Option Value} {dp un : Nat} {gd : Option (List Code)} {cn : Str} {cs : Scope} {a : Addr} {ccd : Value} {cl : List (Str × Addr)} {outer : List Env} {A₀ : Around} {base h₀ : Heap} {L : Addr} {m : Str → Option Value} {s : Shared} {Q E : Value → Shared → Prop} {news : List (Addr × Obj)}
  (B : Below A₀ base outer h₀) (F : Fr h₀ L s.heap m) (KI : (hd.heap_1 w.params).In h₀) (N : News h₀ L s.heap news) (T : Top hd.view_1 (looseW hd.view_1 [Str.ofString "BytesIO"]) mean mg mb h₀) (hk : cs.kind = .function)
include B F KI N T hk

def bitsG (X : Nat) (l : List Int) (k : Int) : List Int := if X.testBit k.toNat then l ++ [k] else l
omit B F KI N T hk in
theorem bitsG_all (X n : Nat) : (rangeKs 0 n).foldl (bitsG X) [] = asInts ((List.range n).filter X.testBit) := by
  have h : ∀ (l : List Nat) (acc : List Int), (l.map fun k : Nat => (k : Int)).foldl (bitsG X) acc = acc ++ asInts (l.filter X.testBit) := by
    intro l
    induction l with
    | nil => intro acc; simp
    | cons k l ih =>
      intro acc
      rw [List.map_cons, List.foldl_cons, ih]
      unfold bitsG
      rw [Int.toNat_natCast, List.filter_cons]
      split <;> simp [asInts]
  have e : rangeKs 0 n = (List.range n).map fun k : Nat => (k : Int) := by
    unfold rangeKs
    refine List.map_congr_left fun k _ => ?_
    omega
  rw [e, h]; simp

local macro_rules | `(tactic| walk_at "eval ListComp") => `(tactic| (k_here; k_dflt (refine LCt.ListComp_T (F₀ := by k_asm) (by with_unfolding_all rfl) (by decide) (by rfl) (by decide) (by rfl) ?_)))
set_option maxRecDepth 100000 in
set_option maxHeartbeats 8000000 in
theorem bits_ok {X : Nat} {tk : Tok} (hdp : dp + 1 < recursionLimit) (hu : un + 8 < cLine) (hX : X < 2 ^ 384)
    (ret : ∀ (l : Addr) (vs : List Value) (n : Nat) (h' : Heap) (tk' : Nat), Fr h₀ L h' m → News h₀ L h' ((l, listOf vs.toArray n) :: news) → (∀ p ∈ news, p.1 ≠ l) → IntsAre vs (asInts (bitList X)) → Q (.ref l) { s with heap := h', toks := tk' }) :
    wpAny (model prog w) (ktrTop dp un gd cn cs L a ccd cl outer) (call (.ref 161) [.int X tk]) Q E s := by
  refine wpAny_call ?_
  (k_dflt (first | (refine' code_def ?k1 ?k2 ?k3 ?k4 ?k5 ?kA ?kF ?kK ?k6 ?k7 ?k8 ?k9 ?kB ?_ ?c2 ?c3 ?c4 ?c5; (case kA => exact rfl); (case kF => exact rfl); (case kK => first | exact rfl | assumption); (case k1 => k_asm); (case k2 => k_asm); (case k3 => k_asm); (case k4 => k_asm); (case k5 => k_asm); (case k6 => k_is); (case k7 => k_is); (case k8 => first | k_room | ktr_room); (case k9 => first | exact BindsTo.of_eq rfl | exact binds_K (by k_in) rfl (by k_is) rfl rfl rfl | fail "k_enter: no rule for these arguments"); (case c5 => decide); (case kB => exact locs rfl); (case c2 => exact rfl); (case c3 => exact rfl); (case c4 => exact rfl); k_whole; intro g' L' h' FG' F' N' B' X' T'; (try dsimp only); (try k_lift B'); (try k_fold)) | (refine' code_defC ?k1 ?k2 ?k3 ?k4 ?k5 ?kA ?kF ?kK ?k6 ?k7 ?k8 ?k9 ?kB ?kD ?_ ?c2 ?c3 ?c4; (case kA => exact rfl); (case kF => exact rfl); (case kK => first | exact rfl | assumption); (case k1 => k_asm); (case k2 => k_asm); (case k3 => k_asm); (case k4 => k_asm); (case k5 => k_asm); (case k6 => k_is); (case k7 => k_is); (case k8 => first | k_room | ktr_room); (case k9 => first | exact BindsTo.of_eq rfl | exact binds_K (by k_in) rfl (by k_is) rfl rfl rfl | fail "k_enter: no rule for these arguments"); (case kB => exact rfl); (case kD => decide +kernel); (case c2 => exact rfl); (case c3 => exact rfl); (case c4 => exact rfl); k_whole; intro g' L' h' tk' cells' FG' F' N' Y' B' X' T' l1; (try k_lt l1); k_cells Y'; (try simp only [List.cons_append, List.nil_append] at N'); (try dsimp only); (try k_lift B'); (try k_fold))))
  k_steps
  have hlen : Builtin.Int.intBits (X : Int) ≤ 384 := intBits_lt hX
  refine LCt.CompSrcT.range (by rfl) (by k_asm) (by k_asm) (by assumption) (small_one (by decide) (by decide) (by omega) (by omega)) (rangeSize_nat _ _) (by rw [PySem.sizeLine_eq]; omega) ?_
  intro g'
  refine kci_range (bitsG X) (fun k' t' I' oI' C' oC' D' m' ys' l' h' tk' E' hlo' hhi' hI' hC' hx' F' N' off' ne' mk => ?_) ?_ (fun l k => by unfold bitsG; split <;> simp)
  · k_steps
    · rename_i hb
      refine LCg.CompEnd.intro (by k_asm) (by k_asm) _ (fun p hp => hp) off' trivial ?_
      refine kci_el (a := k') ?_ rfl rfl
      obtain ⟨k, rfl⟩ := Int.eq_ofNat_of_zero_le hlo'
      rw [Int.toNat_natCast, bit_test] at hb
      unfold bitsG
      rw [Int.toNat_natCast]
      cases hX' : X.testBit k with
      | true => simp
      | false => rw [hX'] at hb; exact absurd rfl hb
    · rename_i hb
      refine LCg.CompEnd.intro (by k_asm) (by k_asm) _ (fun p hp => hp) off' trivial ?_
      refine kci_no ?_ rfl
      obtain ⟨k, rfl⟩ := Int.eq_ofNat_of_zero_le hlo'
      rw [Int.toNat_natCast, bit_test] at hb
      unfold bitsG
      rw [Int.toNat_natCast]
      cases hX' : X.testBit k with
      | false => simp
      | true => rw [hX'] at hb; exact absurd hb (by decide)
  · intro ys hy hl
    have e : (((Builtin.Int.intBits (X : Int) : Nat) : Int) - 0).toNat = Builtin.Int.intBits (X : Int) := by omega
    rw [e, bitsG_all] at hy
    k_steps
    rename_i o1 kF kN kT kX
    exact ret _ _ _ _ _ kF (fun p hp => kN p (by rcases List.mem_cons.mp hp with rfl | hp; exact .head _; exact .tail _ (.tail _ hp))) (fun p hp => off1_all o1.2 p hp) hy
end
end Mine
end

section
open PySem PySem.W PyProof.Rows PySem.Spec PySem.Calls
namespace Mine
namespace D_H
theorem fill_frag : (fun (_ : OpenLaw) (_ : Params → Frag) => True) PySem.Challenge.rw_iy0007_01 hd.heap_1 := by k_fill; trivial
end D_H


local macro_rules | `(tactic| walk_at "call type:set nil nil") => `(tactic| (k_here; k_dflt (refine bs_new (by k_asm) (by k_asm) ?_); intro d' h' F' N' l1; (try k_lt l1)))
local macro_rules | `(tactic| walk_at "getMethod ref") => `(tactic| (k_here; (with_reducible show wpAny _ _ (getMethod (Value.ref _) (Str.ofString "add") _) _ _ _); k_dflt (refine' bs_addName ?bN ?bM ?bB ?_; (case bN => k_asm); (case bM => (repeat (first | assumption | exact List.Mem.head _ | refine' List.Mem.tail _ ?_))); (case bB => (first | assumption | exact bset_fresh _)))))
local macro_rules | `(tactic| walk_at "call builtin:set.add") => `(tactic| (k_here; (with_reducible show wpAny _ _ (call (Value.builtin "set.add") _) _ _ _); (show wpAny _ _ (call (Value.builtin "set.add") [Value.ref _, Value.int _ _]) _ _ _); k_dflt (refine' bs_add ?bF ?bN ?bU ?bB ?bz ?bk ?_; (case bF => k_asm); (case bN => k_asm); (case bU => k_updF); (case bB => (first | assumption | exact bset_fresh _)); (case bz => rfl); (case bk => first | assumption | omega)); intro h' o' F' N' bsX'; (try dsimp only at N')))
local macro_rules | `(tactic| walk_at "compareOp In int ref") => `(tactic| (k_here; k_dflt (refine' bs_in ?bN ?bM ?bB ?_; (case bN => k_asm); (case bM => (repeat (first | assumption | exact List.Mem.head _ | refine' List.Mem.tail _ ?_))); (case bB => (first | assumption | exact bset_fresh _))); (try dsimp only)))
local macro_rules | `(tactic| omega) => `(tactic| first | with_reducible assumption | decide | ((with_reducible show @Ne Nat _ _); with_reducible first | exact Mine.neS (by assumption) | exact Mine.neL (by assumption) | exact Mine.neS (Mine.neL (by assumption)) | exact Mine.nl1 (by assumption) | exact Mine.nl2 (by assumption) | exact Mine.nl3 (by assumption) | exact Mine.nl4 (by assumption) | exact Mine.nl5 (by assumption) | exact Mine.nl6 (by assumption) | exact Mine.nl7 (by assumption) | exact Mine.nl8 (by assumption) | exact Mine.neS (Mine.nl1 (by assumption)) | exact Mine.neS (Mine.nl2 (by assumption)) | exact Mine.neS (Mine.nl3 (by assumption)) | exact Mine.neS (Mine.nl4 (by assumption))) | ((with_reducible show @LT.lt Int _ _ _); with_reducible first | exact Mine.zcong (by assumption) (by assumption) | exact Mine.zcongY (by assumption) (by assumption) | exact Mine.zlt (by assumption) (by assumption) | exact Mine.i63 (by assumption) rfl | exact Mine.zY63 (by assumption) (by assumption) (by assumption) rfl | exact Mine.i32 (by assumption) rfl) | ((with_reducible show @LE.le Int _ _ _); with_reducible first | exact Mine.z0 _ | exact Mine.z0s _ | exact Mine.zeq0 (by assumption)) | ((with_reducible show @LT.lt Nat _ _ _); with_reducible first | exact Mine.rA1 (by assumption) rfl | exact Mine.rB1 (by assumption) rfl | exact Mine.rC1 (by assumption) rfl | exact Mine.rA2 (by assumption) rfl | exact Mine.rB2 (by assumption) rfl | exact Mine.rC2 (by assumption) rfl | exact Mine.rA0 (by assumption) | exact Mine.rB0 (by assumption) | exact Mine.rC0 (by assumption) | exact Mine.nAbsK (by assumption) rfl) | ((with_reducible show @LE.le Nat _ _ _); with_reducible first | exact Mine.le62 (by assumption) rfl | exact Mine.le62e (by assumption) (by assumption) rfl) | omega (config := {}))
local macro_rules | `(tactic| k_all) => `(tactic| assumption)
local macro_rules | `(tactic| walk_at "inplaceOp Add bytes bytes") => `(tactic| (k_here; k_dflt (refine' iadd_ints ?bsb ?bsc ?bss ?_; (case bsb => first | with_reducible exact bInts_nil | with_reducible assumption); (case bsc => first | with_reducible exact bInts_nil | with_reducible assumption); (case bss => first | omega | ((try simp only [List.length_append, List.length_cons, List.length_nil]); omega))); intro t' k' bsI'))
local macro_rules | `(tactic| walk_at "call builtin:len") => `(tactic| (k_here; (with_reducible show wpAny _ _ (call (Value.builtin "len") _) _ _ _); (show wpAny _ _ (call (Value.builtin "len") [Value.ref _]) _ _ _); k_dflt (refine' kst_len ?k1 ?k2 rfl ?k4 ?_; (case k1 => k_asm); (case k2 => k_memK); (case k4 => first | omega | ((simp only [List.length_append, List.length_cons, List.length_nil]); omega)); k_whole)))
local macro_rules | `(tactic| walk_at "my for") => `(tactic| (k_here; (rename Fr _ _ _ _ => lF'); (with_unfolding_all refine' For_invVF lF' ?k1 ?k2 ?_; (case k1 => exact rfl); (case k2 => exact rfl); k_whole)))
local macro_rules | `(tactic| walk_at "exec For Name Name cons nil") => `(tactic| walk_at "my for")
local macro_rules | `(tactic| walk_at "exec For Name Call cons nil") => `(tactic| walk_at "my for")
local macro_rules | `(tactic| walk_at "exec For Name Attribute cons nil") => `(tactic| walk_at "my for")


section
variable {prog : Program} {w : World} {mean : ExcName → Option Value} {mg mb : Str → Option Value} {dp un : Nat} {gd : Option (List Code)} {cn : Str} {cs : Scope} {a : Addr} {ccd : Value} {cl : List (Str × Addr)} {outer : List Env} {A₀ : Around} {base h₀ : Heap} {L : Addr} {m : Str → Option Value} {s : Shared} {Q E : Value → Shared → Prop} {news : List (Addr × Obj)}
  (B : Below A₀ base outer h₀) (F : Fr h₀ L s.heap m) (KI : (hd.heap_1 w.params).In h₀) (N : News h₀ L s.heap news) (T : Top hd.view_1 (looseW hd.view_1 [Str.ofString "BytesIO"]) mean mg mb h₀) (hk : cs.kind = .function)
include B F KI N T hk

namespace D_F2
def wordG (n : Int) : List Nat := if n % 4 = 0 then List.replicate (1 + n / 4 % 2).toNat 0 else if n % 4 = 1 then List.replicate (1 + n / 4 % 2).toNat (2 ^ 64 - 1) else [(n / 4 % 2 ^ 64).toNat]
def wordsOf (ns : List Int) : List Nat := ns.flatMap wordG
def numTo (W : List Nat) (k : Nat) : Nat := (List.range k).foldl (fun acc j => acc ||| (W.getD j 0) <<< (64 * j)) 0
def numOf (W : List Nat) : Nat := numTo W W.length
omit B F KI N T hk in
theorem wordG_lt (n : Int) : ∀ x ∈ wordG n, x < 2 ^ 64 := by
  intro x hx
  unfold wordG at hx
  split at hx
  · rw [List.mem_replicate] at hx; omega
  · split at hx
    · rw [List.mem_replicate] at hx; omega
    · rw [List.mem_singleton] at hx
      have h1 := Int.emod_lt_of_pos (n / 4) (show (0 : Int) < 2 ^ 64 by decide)
      have h2 := Int.emod_nonneg (n / 4) (show (2 ^ 64 : Int) ≠ 0 by decide)
      omega
omit B F KI N T hk in
theorem wordsOf_lt (ns : List Int) : ∀ x ∈ wordsOf ns, x < 2 ^ 64 := by
  intro x hx
  unfold wordsOf at hx
  rw [List.mem_flatMap] at hx
  obtain ⟨n, _, h⟩ := hx
  exact wordG_lt n x h
omit B F KI N T hk in
theorem getD_ints (W : List Nat) (k : Nat) : (asInts W).getD k 0 = ((W.getD k 0 : Nat) : Int) := by
  unfold asInts
  rw [List.getD_eq_getElem?_getD, List.getD_eq_getElem?_getD, List.getElem?_map]
  cases W[k]? <;> rfl
omit B F KI N T hk in
theorem getD_lt {W : List Nat} {b : Nat} (h : ∀ x ∈ W, x < b) (hb : 0 < b) (k : Nat) : W.getD k 0 < b := by
  rw [List.getD_eq_getElem?_getD]
  cases e : W[k]? with
  | none => exact hb
  | some x => exact h x (List.mem_of_getElem? e)
omit B F KI N T hk in
theorem shl_cast (x n : Nat) : (x : Int) * 2 ^ n = ((x <<< n : Nat) : Int) := by
  rw [Nat.shiftLeft_eq, Int.natCast_mul, Int.natCast_pow]; rfl
omit B F KI N T hk in
theorem numTo_succ (W : List Nat) (k : Nat) : numTo W (k + 1) = numTo W k ||| (W.getD k 0) <<< (64 * k) := by
  unfold numTo
  rw [List.range_succ, List.foldl_append]
  rfl
def NJ (news0 : List (Addr × Obj)) (lw : Addr) (W : List Nat) (k : Nat) (m : Str → Option Value) (news : List (Addr × Obj)) : Prop :=
  news = news0 ∧ ∃ t, m "words" = some (.ref lw) ∧ m "number" = some (.int (numTo W k : Nat) t)
def WJ (news0 : List (Addr × Obj)) (ns : List Int) (i : Nat) (m : Str → Option Value) (news : List (Addr × Obj)) : Prop :=
  ∃ lw ws cw, m "words" = some (.ref lw) ∧ news = (lw, listOf ws.toArray cw) :: news0 ∧ IntsAre ws (asInts (wordsOf (ns.take i)))
omit B F KI N T hk in
theorem wordG_len (n : Int) : (wordG n).length ≤ 2 := by
  have h1 : n / 4 % 2 < 2 := Int.emod_lt_of_pos _ (by decide)
  unfold wordG
  split
  · rw [List.length_replicate]; omega
  · split
    · rw [List.length_replicate]; omega
    · simp
omit B F KI N T hk in
theorem wordsOf_len : ∀ ns : List Int, (wordsOf ns).length ≤ 2 * ns.length
  | [] => Nat.le_refl _
  | n :: ns => by
    have h1 := wordG_len n
    have h2 := wordsOf_len ns
    unfold wordsOf at *
    rw [List.flatMap_cons, List.length_append, List.length_cons]; omega
omit B F KI N T hk in
theorem wordsOf_take {ns : List Int} {i : Nat} {n : Int} (h : ns[i]? = some n) : wordsOf (ns.take (i + 1)) = wordsOf (ns.take i) ++ wordG n := by
  unfold wordsOf
  rw [List.take_add_one, h]
  simp
omit B F KI N T hk in
theorem flat_rep {α : Type} (k : Nat) (x : α) : (List.replicate k [x]).flatten = List.replicate k x := by
  induction k with
  | zero => rfl
  | succ k ih => rw [List.replicate_succ, List.flatten_cons, ih]; rfl
omit B F KI N T hk in
theorem fm4 (n : Int) : n.fmod 4 = n % 4 ∧ n.fdiv 4 = n / 4 ∧ ∀ k : Int, k.fmod 2 = k % 2 :=
  ⟨Int.fmod_eq_emod_of_nonneg _ (by decide), Int.fdiv_eq_ediv_of_nonneg _ (by decide), fun k => Int.fmod_eq_emod_of_nonneg _ (by decide)⟩
omit B F KI N T hk in
theorem wordG_0 {n : Int} (h : n.fmod 4 = 0) : (List.replicate (1 + (n.fdiv 4).fmod 2).toNat [(0 : Int)]).flatten = asInts (wordG n) := by
  obtain ⟨h1, h2, h3⟩ := fm4 n
  rw [h1] at h
  rw [h2, h3, flat_rep]
  unfold wordG
  rw [if_pos h]
  simp [asInts]
omit B F KI N T hk in
theorem wordG_1 {n FF : Int} (hF : FF = 18446744073709551615) (h : n.fmod 4 = 1) : (List.replicate (1 + (n.fdiv 4).fmod 2).toNat [FF]).flatten = asInts (wordG n) := by
  obtain ⟨h1, h2, h3⟩ := fm4 n
  rw [h1] at h
  rw [h2, h3, flat_rep]
  unfold wordG
  rw [if_neg (by omega), if_pos h]
  subst hF
  simp [asInts]
omit B F KI N T hk in
theorem wordG_2 {n GG : Int} (hG : GG = 18446744073709551616) (h0 : n.fmod 4 ≠ 0) (h : n.fmod 4 ≠ 1) : [(n.fdiv 4).fmod GG] = asInts (wordG n) := by
  obtain ⟨h1, h2, h3⟩ := fm4 n
  rw [h1] at h h0
  subst hG
  rw [h2, Int.fmod_eq_emod_of_nonneg _ (by decide)]
  unfold wordG
  rw [if_neg h0, if_neg h]
  have : (2 : Int) ^ 64 = 18446744073709551616 := by decide
  rw [this]
  have h4 := Int.emod_nonneg (n / 4) (show (18446744073709551616 : Int) ≠ 0 by decide)
  simp only [asInts, List.map_cons, List.map_nil]
  rw [Int.toNat_of_nonneg h4]
omit B F KI N T hk in
theorem words_turn {h₀ : Heap} {L I l D : Addr} {oI ol : Obj} {ws' : List Value} {m₂ : Str → Option Value} {news0 nx : List (Addr × Obj)} {ns : List Int} {i : Nat} {n : Int} {add : List Int} {s₁ : Shared} {h' : Heap} {tk : Nat} {Qr : Value → Shared → Prop} {Qb : Shared → Prop}
    (F : Fr h₀ L h' m₂) (N : News h₀ L h' nx) (hi : IntsAre ws' (asInts (wordsOf (ns.take i)) ++ add)) (hm : m₂ "words" = some (.ref D)) (hs : ∀ p ∈ (I, oI) :: (l, ol) :: (D, listOf ws'.toArray 0) :: news0, p ∈ nx) (hD : @LT.lt Nat _ I D) (off : ∀ p ∈ news0, p.1 ≠ I) (hn : ns[i]? = some n) (ha : add = asInts (wordG n)) :
    LoopStepV h₀ L [I] [(I, oI), (l, ol)] (WJ news0 ns (i + 1)) s₁ Qr Qb .next { s₁ with heap := h', toks := tk } := by
  refine LoopStepV.next (LoopStepU.intro (news₂ := (D, listOf ws'.toArray 0) :: news0) F (fun p hp => N p (hs p hp)) (fun p hp => ?_) ⟨D, ws', 0, hm, rfl, ?_⟩)
  · rw [List.mem_singleton]
    rcases List.mem_cons.mp hp with rfl | hp
    · exact (Nat.ne_of_lt hD).symm
    · exact off p hp
  · rw [wordsOf_take hn, asInts, List.map_append]
    rw [ha] at hi
    exact hi
set_option maxRecDepth 100000 in
set_option maxHeartbeats 8000000 in
theorem words_ok {l : Addr} {vs : List Value} {c : Nat} {ns : List Int} (hl : (l, listOf vs.toArray c) ∈ news) (hi : IntsAre vs ns) (hn : ns.length ≤ 3) (hdp : dp + 1 < recursionLimit) (hu : un + 8 < cLine)
    (ret : ∀ (t : Tok) (h' : Heap) (tk' : Nat), Fr h₀ L h' m → News h₀ L h' news → Q (.int (numOf (wordsOf ns) : Nat) t) { s with heap := h', toks := tk' }) :
    wpAny (model prog w) (ktrTop dp un gd cn cs L a ccd cl outer) (call (.ref 156) [.ref l]) Q E s := by
  refine wpAny_call ?_
  (k_dflt (first | (refine' code_def ?k1 ?k2 ?k3 ?k4 ?k5 ?kA ?kF ?kK ?k6 ?k7 ?k8 ?k9 ?kB ?_ ?c2 ?c3 ?c4 ?c5; (case kA => exact rfl); (case kF => exact rfl); (case kK => first | exact rfl | assumption); (case k1 => k_asm); (case k2 => k_asm); (case k3 => k_asm); (case k4 => k_asm); (case k5 => k_asm); (case k6 => k_is); (case k7 => k_is); (case k8 => first | k_room | ktr_room); (case k9 => first | exact BindsTo.of_eq rfl | exact binds_K (by k_in) rfl (by k_is) rfl rfl rfl | fail "k_enter: no rule for these arguments"); (case c5 => decide); (case kB => exact locs rfl); (case c2 => exact rfl); (case c3 => exact rfl); (case c4 => exact rfl); k_whole; intro g' L' h' FG' F' N' B' X' T'; (try dsimp only); (try k_lift B'); (try k_fold)) | (refine' code_defC ?k1 ?k2 ?k3 ?k4 ?k5 ?kA ?kF ?kK ?k6 ?k7 ?k8 ?k9 ?kB ?kD ?_ ?c2 ?c3 ?c4; (case kA => exact rfl); (case kF => exact rfl); (case kK => first | exact rfl | assumption); (case k1 => k_asm); (case k2 => k_asm); (case k3 => k_asm); (case k4 => k_asm); (case k5 => k_asm); (case k6 => k_is); (case k7 => k_is); (case k8 => first | k_room | ktr_room); (case k9 => first | exact BindsTo.of_eq rfl | exact binds_K (by k_in) rfl (by k_is) rfl rfl rfl | fail "k_enter: no rule for these arguments"); (case kB => exact rfl); (case kD => decide +kernel); (case c2 => exact rfl); (case c3 => exact rfl); (case c4 => exact rfl); k_whole; intro g' L' h' tk' cells' FG' F' N' Y' B' X' T' l1; (try k_lt l1); k_cells Y'; (try simp only [List.cons_append, List.nil_append] at N'); (try dsimp only); (try k_lift B'); (try k_fold))))
  (repeat' ((fail_if_success (with_reducible show wpAny _ _ (pyIter _) _ _ _)); (fail_if_success (with_reducible show LoopStepV _ _ _ _ _ _ _ _ _ _)); (fail_if_success (with_reducible show wpAny _ _ (exec (Stmt.While _ _ _ _) _) _ _ _)); first | (k_unfold; (try dsimp only)) | (with_reducible refine wpAny_execs_nil ?_; (try dsimp only)) | (k_end; wrow_close) | (walk1; (try dsimp only)) | (dsimp only; walk1) | (dsimp only [List.cons_append, List.nil_append]; walk1) | (leave1; walk_say "STEP leave1"; try dsimp only) | fail "no step"))
  refine for_list (WJ news ns) (by rfl) (.tail _ hl) (by k_asm) (by k_asm) ⟨_, [], 0, rfl, rfl, .nil⟩ ?_ ?_
  · rintro i v m₁ news₁ h tk I oI hv ⟨lw, ws, cw, e1, rfl, hws⟩ off hlI F₁ N₁
    obtain ⟨n, t, rfl, hn'⟩ := IntsAre.at hi i v hv
    have F₂ := fr_name (x := "words") F₁ e1
    clear F₁
    have hi' := (List.getElem?_eq_some_iff.mp hn').1
    have hlen : (wordsOf (List.take i ns)).length ≤ 2 * i := by have h2 := wordsOf_len (ns.take i); simp at h2; omega
    have hwl : ws.length ≤ 8 := by have := hws.length; have h2 := wordsOf_len (ns.take i); simp at this h2; omega
    obtain ⟨FF, hFF⟩ : ∃ z : Int, Hid (z = 18446744073709551615) := ⟨_, rfl⟩
    obtain ⟨GG, hGG⟩ : ∃ z : Int, Hid (z = 18446744073709551616) := ⟨_, rfl⟩
    try dsimp only
    (repeat' ((fail_if_success (with_reducible show LoopStepV _ _ _ _ _ _ _ _ _ _)); (fail_if_success (with_reducible show wpAny _ _ (newList [Value.int _ _]) _ _ _)); first | (k_unfold; (try dsimp only)) | (with_reducible refine wpAny_execs_nil ?_; (try dsimp only)) | (k_end; wrow_close) | walk1 | (dsimp only; walk1) | (dsimp only [List.cons_append, List.nil_append]; walk1) | (leave1; walk_say "STEP leave1"; try dsimp only) | fail "no step"))
    all_goals (try rw [show ((2 : Int) ^ Int.toNat 64 - 1) = FF from by rw [hFF.out]; decide])
    all_goals (try rw [show ((2 : Int) ^ Int.toNat 64) = GG from by rw [hGG.out]; decide])
    all_goals (try dsimp only)
    all_goals (repeat' ((fail_if_success (with_reducible show wpAny _ _ (pyIter _) _ _ _)); (fail_if_success (with_reducible show LoopStepV _ _ _ _ _ _ _ _ _ _)); (fail_if_success (with_reducible show wpAny _ _ (exec (Stmt.While _ _ _ _) _) _ _ _)); first | (k_unfold; (try dsimp only)) | (with_reducible refine wpAny_execs_nil ?_; (try dsimp only)) | (k_end; wrow_close) | (walk1; (try dsimp only)) | (dsimp only; walk1) | (dsimp only [List.cons_append, List.nil_append]; walk1) | (leave1; walk_say "STEP leave1"; try dsimp only) | fail "no step"))
    · rename _ = (0 : Int) => h0
      rename News _ _ _ _ => N9
      exact words_turn (by k_asm) N9 (by k_asm) rfl (fun p hp => by simp only [List.mem_cons] at hp ⊢; rcases hp with h | h | h | h <;> simp [h]) (by omega) (fun p hp => off p (.tail _ hp)) hn' (wordG_0 h0)
    · rename _ = (1 : Int) => h1
      rename News _ _ _ _ => N9
      exact words_turn (by k_asm) N9 (by k_asm) rfl (fun p hp => by simp only [List.mem_cons] at hp ⊢; rcases hp with h | h | h | h <;> simp [h]) (by omega) (fun p hp => off p (.tail _ hp)) hn' (wordG_1 hFF.out h1)
    · rename _ ≠ (1 : Int) => h1
      rename _ ≠ (0 : Int) => h0
      rename News _ _ _ _ => N9
      exact words_turn (by k_asm) N9 (by k_asm) rfl (fun p hp => by simp only [List.mem_cons] at hp ⊢; rcases hp with h | h | h | h <;> simp [h]) (by omega) (fun p hp => off p (.tail _ hp)) hn' (wordG_2 hGG.out h0 h1)
  · rintro m₁ news₁ h tk ⟨lw, ws, cw, e1, rfl, hws⟩ F₁ N₁
    have F₂ := fr_name (x := "words") F₁ e1
    clear F₁
    have e0 : vs.length = ns.length := hi.length
    rw [e0, List.take_length] at hws
    have hlen := wordsOf_len ns
    have hwH : Hid (ws.length = (wordsOf ns).length) := by have := hws.length; rw [List.length_map] at this; exact this
    have hwl : ws.length ≤ 8 := by have := hws.length; simp at this; omega
    try dsimp only
    (repeat' ((fail_if_success (with_reducible show wpAny _ _ (pyIter _) _ _ _)); (fail_if_success (with_reducible show LoopStepV _ _ _ _ _ _ _ _ _ _)); (fail_if_success (with_reducible show wpAny _ _ (exec (Stmt.While _ _ _ _) _) _ _ _)); first | (k_unfold; (try dsimp only)) | (with_reducible refine wpAny_execs_nil ?_; (try dsimp only)) | (k_end; wrow_close) | (walk1; (try dsimp only)) | (dsimp only; walk1) | (dsimp only [List.cons_append, List.nil_append]; walk1) | (leave1; walk_say "STEP leave1"; try dsimp only) | fail "no step"))
    rename IsRange _ _ _ _ _ _ _ _ => hR
    refine for_range (n := ws.length) (NJ ((lw, listOf ws.toArray cw) :: news) lw (wordsOf ns)) (by rfl) hR (small_one (by decide) (by decide) (by omega) (by omega)) (by rw [rangeSize_nat]; omega) (by k_asm) (by k_asm) ⟨rfl, _, rfl, rfl⟩ ?_ ?_
    · rintro k t m₂ news₂ h2 tk2 I2 oI2 hk2 ⟨rfl, t2, e3, e4⟩ off2 F₃ N₃
      have F₄ := fr_name (x := "words") (fr_name (x := "number") F₃ e4) (by with_unfolding_all exact e3)
      clear F₃
      have hk8 : k < 8 := by omega
      generalize hacc : numTo (wordsOf ns) k = acc at F₄
      try dsimp only
      repeat' ((fail_if_success (with_reducible show wpAny _ _ (binaryOp Operator.LShift _ _) _ _ _)); first | (k_unfold; (try dsimp only)) | walk1 | (dsimp only; walk1) | (dsimp only [List.cons_append, List.nil_append]; walk1))
      refine lshift_int_small (by omega) (by omega) (by rw [getD_ints]; have := getD_lt (wordsOf_lt ns) (by decide) (0 + (k : Int)).toNat; omega) ?_
      try dsimp only
      (repeat' ((fail_if_success (with_reducible show wpAny _ _ (pyIter _) _ _ _)); (fail_if_success (with_reducible show LoopStepV _ _ _ _ _ _ _ _ _ _)); (fail_if_success (with_reducible show wpAny _ _ (exec (Stmt.While _ _ _ _) _) _ _ _)); first | (k_unfold; (try dsimp only)) | (with_reducible refine wpAny_execs_nil ?_; (try dsimp only)) | (k_end; wrow_close) | (walk1; (try dsimp only)) | (dsimp only; walk1) | (dsimp only [List.cons_append, List.nil_append]; walk1) | (leave1; walk_say "STEP leave1"; try dsimp only) | fail "no step"))
      rename News _ _ _ _ => N9
      have e5 : (0 + (k : Int)).toNat = k := by omega
      have e6 : (64 * (0 + (k : Int))).toNat = 64 * k := by omega
      have key : ∀ tt, some (Value.int (Builtin.bitOr (acc : Int) ((asInts (wordsOf ns)).getD (0 + (k : Int)).toNat 0 * 2 ^ (64 * (0 + (k : Int))).toNat)) tt) = some (Value.int (numTo (wordsOf ns) (k + 1) : Nat) tt) := by
        intro tt
        rw [e5, e6, getD_ints, shl_cast, bitOr_nat, numTo_succ, hacc]
      exact LoopStepV.next (LoopStepU.intro (news₂ := (lw, listOf ws.toArray cw) :: news) (by k_asm) N9 (fun p hp => by rw [List.mem_singleton]; exact off2 p hp) ⟨rfl, _, rfl, key _⟩)
    · rintro m₂ news₂ h2 tk2 ⟨rfl, t2, e3, e4⟩ F₃ N₃
      have F₄ := fr_name (x := "number") F₃ e4
      clear F₃
      have e5 : numTo (wordsOf ns) ws.length = numOf (wordsOf ns) := by
        rw [hwH.out]; rfl
      rw [e5] at F₄
      generalize hacc : numOf (wordsOf ns) = acc at F₄ ret
      try dsimp only
      (repeat' ((fail_if_success (with_reducible show wpAny _ _ (pyIter _) _ _ _)); (fail_if_success (with_reducible show LoopStepV _ _ _ _ _ _ _ _ _ _)); (fail_if_success (with_reducible show wpAny _ _ (exec (Stmt.While _ _ _ _) _) _ _ _)); first | (k_unfold; (try dsimp only)) | (with_reducible refine wpAny_execs_nil ?_; (try dsimp only)) | (k_end; wrow_close) | (walk1; (try dsimp only)) | (dsimp only; walk1) | (dsimp only [List.cons_append, List.nil_append]; walk1) | (leave1; walk_say "STEP leave1"; try dsimp only) | fail "no step"))
      rename Fr h₀ _ _ _ => F9
      rename News h₀ _ _ _ => N9
      exact ret _ _ _ F9 fun p hp => N9 p (.tail _ hp)
end D_F2
namespace D_F3
abbrev bmDict (w : World) (b : Addr) (n : Int) (t t1 t2 : Tok) : Obj := dictOf [⟨PyData.keyHash w.params "bits", .str "bits" t1, .ref b⟩, ⟨PyData.keyHash w.params "bit_count", .str "bit_count" t2, .int n t⟩] 2
set_option maxRecDepth 100000 in
set_option maxHeartbeats 8000000 in
theorem new0_ok (hdp : dp + 1 < recursionLimit) (hu : un + 8 < cLine)
    (ret : ∀ (h' : Heap) (tk' : Nat) x dx b t t1 t2, Fr h₀ L h' m → News h₀ L h' ((b, freshSet w) :: (x, instObj 145 dx) :: (dx, bmDict w b 0 t t1 t2) :: news) → (∀ p ∈ news, p.1 < dx) → dx < x → x < b → Q (.ref x) { s with heap := h', toks := tk' }) :
    wpAny (model prog w) (ktrTop dp un gd cn cs L a ccd cl outer) (call (.ref 145) []) Q E s := by
  ((k_here; k_dflt ((refine' call_cls ?k1 ?k2 ?k3 ?k4 ?k5 ?k6 ?_; (case k1 => k_asm); (case k2 => k_asm); (case k3 => k_asm); (case k4 => k_is); (case k5 => k_is); (case k6 => k_is); k_whole; intro x' d' h' F' N' l1 l2; (try k_lt l1); (try k_lt2 l2); (try k_sweep)); (k_dflt (first | (refine' code_def ?k1 ?k2 ?k3 ?k4 ?k5 ?kA ?kF ?kK ?k6 ?k7 ?k8 ?k9 ?kB ?_ ?c2 ?c3 ?c4 ?c5; (case kA => exact rfl); (case kF => exact rfl); (case kK => first | exact rfl | assumption); (case k1 => k_asm); (case k2 => k_asm); (case k3 => k_asm); (case k4 => k_asm); (case k5 => k_asm); (case k6 => k_is); (case k7 => k_is); (case k8 => first | k_room | ktr_room); (case k9 => first | exact BindsTo.of_eq rfl | exact binds_K (by k_in) rfl (by k_is) rfl rfl rfl | fail "k_enter: no rule for these arguments"); (case c5 => decide); (case kB => exact locs rfl); (case c2 => exact rfl); (case c3 => exact rfl); (case c4 => exact rfl); k_whole; intro g' L' h' FG' F' N' B' X' T'; (try dsimp only); (try k_lift B'); (try k_fold)) | (refine' code_defC ?k1 ?k2 ?k3 ?k4 ?k5 ?kA ?kF ?kK ?k6 ?k7 ?k8 ?k9 ?kB ?kD ?_ ?c2 ?c3 ?c4; (case kA => exact rfl); (case kF => exact rfl); (case kK => first | exact rfl | assumption); (case k1 => k_asm); (case k2 => k_asm); (case k3 => k_asm); (case k4 => k_asm); (case k5 => k_asm); (case k6 => k_is); (case k7 => k_is); (case k8 => first | k_room | ktr_room); (case k9 => first | exact BindsTo.of_eq rfl | exact binds_K (by k_in) rfl (by k_is) rfl rfl rfl | fail "k_enter: no rule for these arguments"); (case kB => exact rfl); (case kD => decide +kernel); (case c2 => exact rfl); (case c3 => exact rfl); (case c4 => exact rfl); k_whole; intro g' L' h' tk' cells' FG' F' N' Y' B' X' T' l1; (try k_lt l1); k_cells Y'; (try simp only [List.cons_append, List.nil_append] at N'); (try dsimp only); (try k_lift B'); (try k_fold)))))))
  (repeat' ((fail_if_success (with_reducible show wpAny _ _ (pyIter _) _ _ _)); (fail_if_success (with_reducible show LoopStepV _ _ _ _ _ _ _ _ _ _)); (fail_if_success (with_reducible show wpAny _ _ (exec (Stmt.While _ _ _ _) _) _ _ _)); first | (k_unfold; (try dsimp only)) | (with_reducible refine wpAny_execs_nil ?_; (try dsimp only)) | (k_end; wrow_close) | walk1 | (dsimp only; walk1) | (dsimp only [List.cons_append, List.nil_append]; walk1) | (leave1; walk_say "STEP leave1"; try dsimp only) | fail "no step"))
  rename Fr h₀ _ _ _ => F9
  rename News h₀ _ _ _ => N9
  exact ret _ _ _ _ _ _ _ _ F9 N9 (by assumption) (by assumption) (And.left (by assumption))

omit B F KI N T hk in
theorem reord1 {h : Heap} {p1 p2 q1 q2 q3 : Addr × Obj} {r : List (Addr × Obj)} (N : News h₀ L h (p1 :: p2 :: q1 :: q2 :: q3 :: r)) : News h₀ L h (q1 :: q2 :: q3 :: p1 :: r) :=
  fun p hp => N p (by simp only [List.mem_cons] at hp ⊢; rcases hp with h | h | h | h | h <;> simp [h])
omit B F KI N T hk in
theorem reord2 {h : Heap} {p1 q1 q2 q3 : Addr × Obj} {r : List (Addr × Obj)} (N : News h₀ L h (p1 :: q1 :: q2 :: q3 :: r)) : News h₀ L h (q1 :: q2 :: q3 :: p1 :: r) :=
  fun p hp => N p (by simp only [List.mem_cons] at hp ⊢; rcases hp with h | h | h | h | h <;> simp [h])
def cnt (ks : List Nat) : Nat := ks.foldl (fun a k => max a (k + 1)) 0
def MJ (w : World) (x dx b : Addr) (ks : List Nat) (news0 : List (Addr × Obj)) (i : Nat) (m : Str → Option Value) (news : List (Addr × Obj)) : Prop :=
  ∃ ob n t t1 t2, m "made" = some (.ref x) ∧ news = (b, ob) :: (x, instObj 145 dx) :: (dx, bmDict w b n t t1 t2) :: news0 ∧ BSet w ob (fun j => decide (j ∈ ks.take i)) ∧ n = (cnt (ks.take i) : Int)
omit B F KI N T hk in
theorem bits_len (X : Nat) : (bitList X).length ≤ Builtin.Int.intBits (X : Int) := by
  have := List.length_filter_le X.testBit (List.range (Builtin.Int.intBits (X : Int)))
  rw [List.length_range] at this
  exact this
omit B F KI N T hk in
theorem cnt_snoc (ks : List Nat) (k : Nat) : cnt (ks ++ [k]) = max (cnt ks) (k + 1) := by
  unfold cnt; rw [List.foldl_append]; rfl
omit B F KI N T hk in
theorem take_snoc {ks : List Nat} {i k : Nat} (h : ks[i]? = some k) : ks.take (i + 1) = ks.take i ++ [k] := by
  rw [List.take_add_one, h]; rfl
omit B F KI N T hk in
theorem cnt_ge : ∀ (ks : List Nat) (a : Nat), a ≤ ks.foldl (fun a k => max a (k + 1)) a ∧ (∀ k ∈ ks, k + 1 ≤ ks.foldl (fun a k => max a (k + 1)) a) ∧ (ks.foldl (fun a k => max a (k + 1)) a = a ∨ ∃ k ∈ ks, ks.foldl (fun a k => max a (k + 1)) a = k + 1)
  | [], a => ⟨Nat.le_refl _, (fun _ h => nomatch h), .inl rfl⟩
  | k :: ks, a => by
    obtain ⟨h1, h2, h3⟩ := cnt_ge ks (max a (k + 1))
    rw [List.foldl_cons]
    refine ⟨by omega, fun j hj => ?_, ?_⟩
    · rcases List.mem_cons.mp hj with rfl | hj
      · omega
      · exact h2 j hj
    · rcases h3 with h3 | ⟨j, hj, h3⟩
      · rcases Nat.le_total a (k + 1) with h | h
        · exact .inr ⟨k, .head _, by rw [h3]; omega⟩
        · exact .inl (by rw [h3]; omega)
      · exact .inr ⟨j, .tail _ hj, h3⟩
omit B F KI N T hk in
theorem cnt_bits {X : Nat} {ks : List Nat} (h : ∀ k, k ∈ ks ↔ X.testBit k = true) : cnt ks = Builtin.Int.intBits (X : Int) := by
  obtain ⟨_, h2, h3⟩ := cnt_ge ks 0
  refine Nat.le_antisymm ?_ ?_
  · show cnt ks ≤ _
    rcases h3 with h3 | ⟨k, hk, h3⟩
    · show ks.foldl _ 0 ≤ _
      rw [h3]; exact Nat.zero_le _
    · show ks.foldl _ 0 ≤ _
      rw [h3]
      have := (mem_bitList X k).mpr ((h k).mp hk)
      unfold bitList at this
      rw [List.mem_filter, List.mem_range] at this
      exact this.1
  · rw [intBits_le_iff]
    have : X < 2 ^ cnt ks := by
      refine Nat.lt_of_not_le fun hle => ?_
      obtain ⟨k, hk, hb⟩ := Nat.exists_ge_and_testBit_of_ge_two_pow hle
      have := h2 k ((h k).mpr hb)
      unfold cnt at hk
      omega
    simpa using this
omit B F KI N T hk in
theorem made_turn {h₀ : Heap} {L I l x dx b : Addr} {oI ol ob ob' : Obj} {m₂ : Str → Option Value} {news0 : List (Addr × Obj)} {ks : List Nat} {i k : Nat} {n n' : Int} {t t1 t2 t3 : Tok} {s₁ : Shared} {h' : Heap} {tk : Nat} {Qr : Value → Shared → Prop} {Qb : Shared → Prop}
    (F : Fr h₀ L h' m₂) (N : News h₀ L h' ((I, oI) :: (l, ol) :: (b, ob') :: (x, instObj 145 dx) :: (dx, bmDict w b n' t t1 t2) :: news0)) (hm : m₂ "made" = some (.ref x)) (off : ∀ p ∈ (b, ob) :: (x, instObj 145 dx) :: (dx, bmDict w b n t3 t1 t2) :: news0, p.1 ≠ I) (hk : ks[i]? = some k)
    (Bs : BSet w ob' (fun j => decide (j ∈ ks.take i) || decide (j = k))) (hn : n' = (max (cnt (ks.take i)) (k + 1) : Nat)) :
    LoopStepV h₀ L [I] [(I, oI), (l, ol)] (MJ w x dx b ks news0 (i + 1)) s₁ Qr Qb .next { s₁ with heap := h', toks := tk } := by
  refine LoopStepV.next (LoopStepU.intro (news₂ := (b, ob') :: (x, instObj 145 dx) :: (dx, bmDict w b n' t t1 t2) :: news0) F N (fun p hp => ?_) ⟨ob', n', t, t1, t2, hm, rfl, ?_, ?_⟩)
  · rw [List.mem_singleton]
    rcases List.mem_cons.mp hp with rfl | hp
    · exact off (b, ob) (.head _)
    · rcases List.mem_cons.mp hp with rfl | hp
      · exact off (x, instObj 145 dx) (.tail _ (.head _))
      · rcases List.mem_cons.mp hp with rfl | hp
        · exact off (dx, bmDict w b n t3 t1 t2) (.tail _ (.tail _ (.head _)))
        · exact off p (.tail _ (.tail _ (.tail _ hp)))
  · refine BSet.congr Bs fun j => ?_
    rw [take_snoc hk, Bool.eq_iff_iff]; simp [List.mem_append]
  · rw [take_snoc hk, cnt_snoc, hn]
abbrev Bm (w : World) (x dx b : Addr) (ob : Obj) (S : Nat → Bool) (n : Int) (t t1 t2 : Tok) (news : List (Addr × Obj)) : Prop :=
  (x, instObj 145 dx) ∈ news ∧ (dx, bmDict w b n t t1 t2) ∈ news ∧ (b, ob) ∈ news ∧ BSet w ob S
set_option maxRecDepth 100000 in
set_option maxHeartbeats 8000000 in
theorem made_ok {X : Nat} {tk : Tok} {down : Bool} (hX : X < 2 ^ 384) (hdp : dp + 2 < recursionLimit) (hu : un + 16 < cLine)
    (ret : ∀ (h' : Heap) (tk' : Nat) x dx b ob n t t1 t2, Fr h₀ L h' m → News h₀ L h' ((x, instObj 145 dx) :: (dx, bmDict w b n t t1 t2) :: (b, ob) :: news) → BSet w ob (fun j => X.testBit j) → n = Builtin.Int.intBits (X : Int) → (∀ p ∈ news, p.1 < dx) → dx < x → x < b → Q (.ref x) { s with heap := h', toks := tk' }) :
    wpAny (model prog w) (ktrTop dp un gd cn cs L a ccd cl outer) (call (.ref 168) [.int X tk, .bool down]) Q E s := by
  refine wpAny_call ?_
  (k_dflt (first | (refine' code_def ?k1 ?k2 ?k3 ?k4 ?k5 ?kA ?kF ?kK ?k6 ?k7 ?k8 ?k9 ?kB ?_ ?c2 ?c3 ?c4 ?c5; (case kA => exact rfl); (case kF => exact rfl); (case kK => first | exact rfl | assumption); (case k1 => k_asm); (case k2 => k_asm); (case k3 => k_asm); (case k4 => k_asm); (case k5 => k_asm); (case k6 => k_is); (case k7 => k_is); (case k8 => first | k_room | ktr_room); (case k9 => first | exact BindsTo.of_eq rfl | exact binds_K (by k_in) rfl (by k_is) rfl rfl rfl | fail "k_enter: no rule for these arguments"); (case c5 => decide); (case kB => exact locs rfl); (case c2 => exact rfl); (case c3 => exact rfl); (case c4 => exact rfl); k_whole; intro g' L' h' FG' F' N' B' X' T'; (try dsimp only); (try k_lift B'); (try k_fold)) | (refine' code_defC ?k1 ?k2 ?k3 ?k4 ?k5 ?kA ?kF ?kK ?k6 ?k7 ?k8 ?k9 ?kB ?kD ?_ ?c2 ?c3 ?c4; (case kA => exact rfl); (case kF => exact rfl); (case kK => first | exact rfl | assumption); (case k1 => k_asm); (case k2 => k_asm); (case k3 => k_asm); (case k4 => k_asm); (case k5 => k_asm); (case k6 => k_is); (case k7 => k_is); (case k8 => first | k_room | ktr_room); (case k9 => first | exact BindsTo.of_eq rfl | exact binds_K (by k_in) rfl (by k_is) rfl rfl rfl | fail "k_enter: no rule for these arguments"); (case kB => exact rfl); (case kD => decide +kernel); (case c2 => exact rfl); (case c3 => exact rfl); (case c4 => exact rfl); k_whole; intro g' L' h' tk' cells' FG' F' N' Y' B' X' T' l1; (try k_lt l1); k_cells Y'; (try simp only [List.cons_append, List.nil_append] at N'); (try dsimp only); (try k_lift B'); (try k_fold))))
  (repeat' ((fail_if_success (with_reducible show wpAny _ _ (pyIter _) _ _ _)); (fail_if_success (with_reducible show LoopStepV _ _ _ _ _ _ _ _ _ _)); (fail_if_success (with_reducible show wpAny _ _ (exec (Stmt.While _ _ _ _) _) _ _ _)); first | (k_unfold; (try dsimp only)) | (with_reducible refine wpAny_execs_nil ?_; (try dsimp only)) | (k_end; wrow_close) | walk1 | (dsimp only; walk1) | (dsimp only [List.cons_append, List.nil_append]; walk1) | (leave1; walk_say "STEP leave1"; try dsimp only) | fail "no step"))
  with_unfolding_all refine new0_ok (by k_asm) (by k_asm) (by k_asm) (by k_asm) (by k_asm) rfl (by (((try dsimp only [units_in1, units_deeper, Around.mark_units, units_caller, depth_under_make, depth_under_kw, units_under_make, depth_in1, depth_deeper, depth_caller]); (try dsimp only [ktrTop]); first | with_reducible exact Mine.rB1 (by assumption) rfl | with_reducible exact Mine.rC1 (by assumption) rfl | with_reducible exact Mine.rB2 (by assumption) rfl | with_reducible exact Mine.rC2 (by assumption) rfl | with_reducible exact Mine.rB0 (by assumption) | with_reducible exact Mine.rC0 (by assumption) | exact Mine.rm1 (by assumption) rfl | exact Mine.rm2 (by assumption) rfl | exact Mine.rm3 (by assumption) rfl | exact Mine.rm0 (by assumption) | (have hcL9 := cLine_is; omega (config := {}))))) (by (((try dsimp only [units_in1, units_deeper, Around.mark_units, units_caller, depth_under_make, depth_under_kw, units_under_make, depth_in1, depth_deeper, depth_caller]); (try dsimp only [ktrTop]); first | with_reducible exact Mine.rB1 (by assumption) rfl | with_reducible exact Mine.rC1 (by assumption) rfl | with_reducible exact Mine.rB2 (by assumption) rfl | with_reducible exact Mine.rC2 (by assumption) rfl | with_reducible exact Mine.rB0 (by assumption) | with_reducible exact Mine.rC0 (by assumption) | exact Mine.rm1 (by assumption) rfl | exact Mine.rm2 (by assumption) rfl | exact Mine.rm3 (by assumption) rfl | exact Mine.rm0 (by assumption) | (have hcL9 := cLine_is; omega (config := {}))))) ?_
  intro h1 tk1 x dx b t t1 t2 F1 N1 l1 l2 l3
  replace l2 := ltN l2
  replace l3 := ltN l3
  try dsimp only
  (repeat' ((fail_if_success (with_reducible show wpAny _ _ (pyIter _) _ _ _)); (fail_if_success (with_reducible show LoopStepV _ _ _ _ _ _ _ _ _ _)); (fail_if_success (with_reducible show wpAny _ _ (exec (Stmt.While _ _ _ _) _) _ _ _)); first | (k_unfold; (try dsimp only)) | (with_reducible refine wpAny_execs_nil ?_; (try dsimp only)) | (k_end; wrow_close) | walk1 | (dsimp only; walk1) | (dsimp only [List.cons_append, List.nil_append]; walk1) | (leave1; walk_say "STEP leave1"; try dsimp only) | fail "no step"))
  with_unfolding_all refine bits_ok (by k_asm) (by k_asm) (by k_asm) (by k_asm) (by k_asm) rfl (by (((try dsimp only [units_in1, units_deeper, Around.mark_units, units_caller, depth_under_make, depth_under_kw, units_under_make, depth_in1, depth_deeper, depth_caller]); (try dsimp only [ktrTop]); first | with_reducible exact Mine.rB1 (by assumption) rfl | with_reducible exact Mine.rC1 (by assumption) rfl | with_reducible exact Mine.rB2 (by assumption) rfl | with_reducible exact Mine.rC2 (by assumption) rfl | with_reducible exact Mine.rB0 (by assumption) | with_reducible exact Mine.rC0 (by assumption) | exact Mine.rm1 (by assumption) rfl | exact Mine.rm2 (by assumption) rfl | exact Mine.rm3 (by assumption) rfl | exact Mine.rm0 (by assumption) | (have hcL9 := cLine_is; omega (config := {}))))) (by (((try dsimp only [units_in1, units_deeper, Around.mark_units, units_caller, depth_under_make, depth_under_kw, units_under_make, depth_in1, depth_deeper, depth_caller]); (try dsimp only [ktrTop]); first | with_reducible exact Mine.rB1 (by assumption) rfl | with_reducible exact Mine.rC1 (by assumption) rfl | with_reducible exact Mine.rB2 (by assumption) rfl | with_reducible exact Mine.rC2 (by assumption) rfl | with_reducible exact Mine.rB0 (by assumption) | with_reducible exact Mine.rC0 (by assumption) | exact Mine.rm1 (by assumption) rfl | exact Mine.rm2 (by assumption) rfl | exact Mine.rm3 (by assumption) rfl | exact Mine.rm0 (by assumption) | (have hcL9 := cLine_is; omega (config := {}))))) hX ?_
  intro l vs c h2 tk2 F2 N2 off2 hvs
  have o1 := off2 _ (.head _)
  have o2 := off2 _ (.tail _ (.head _))
  have o3 := off2 _ (.tail _ (.tail _ (.head _)))
  have hlen : vs.length ≤ 384 := by
    have := hvs.length; rw [List.length_map] at this
    have h1 := bits_len X
    have h2 := intBits_lt hX
    omega
  replace o1 := neN o1; replace o2 := neN o2; replace o3 := neN o3
  try dsimp only at o1 o2 o3
  try dsimp only
  (repeat' ((fail_if_success (with_reducible show wpAny _ _ (pyIter _) _ _ _)); (fail_if_success (with_reducible show LoopStepV _ _ _ _ _ _ _ _ _ _)); (fail_if_success (with_reducible show wpAny _ _ (exec (Stmt.While _ _ _ _) _) _ _ _)); first | (k_unfold; (try dsimp only)) | (with_reducible refine wpAny_execs_nil ?_; (try dsimp only)) | (k_end; wrow_close) | walk1 | (dsimp only; walk1) | (dsimp only [List.cons_append, List.nil_append]; walk1) | (leave1; walk_say "STEP leave1"; try dsimp only) | fail "no step"))
  · rename IntsAre _ (asInts (bitList X)).reverse => hr
    rw [← List.map_reverse] at hr
    have hks : ∀ k, k ∈ (bitList X).reverse ↔ X.testBit k = true := fun k => by rw [List.mem_reverse]; exact mem_bitList X k
    rename News _ _ _ _ => NN
    refine for_list (MJ w x dx b (bitList X).reverse ((_, _) :: news)) (by rfl) (.tail _ (.tail _ (.tail _ (.head _)))) (by k_asm) (reord1 NN) ⟨_, _, _, _, _, rfl, rfl, BSet.congr (bset_fresh _) (fun j => by simp), rfl⟩ ?_ ?_
    · rintro i v m₁ news₁ h tk I oI hv ⟨ob, n, t, t1, t2, e1, rfl, Bs, hn⟩ off hlI F₁ N₁
      obtain ⟨z, t9, rfl, hz⟩ := IntsAre.at hr i v hv
      rw [List.getElem?_map, Option.map_eq_some_iff] at hz
      obtain ⟨k, hk', rfl⟩ := hz
      have hkX := (hks k).mp (List.mem_of_getElem? hk')
      have hk1 : k < 384 := Nat.lt_of_not_le fun hle => by rw [Nat.testBit_lt_two_pow (Nat.lt_of_lt_of_le hX (Nat.pow_le_pow_right (by decide) hle))] at hkX; cases hkX
      have F₂ := fr_name (x := "made") F₁ e1
      clear F₁
      have nb : ∀ p ∈ news, p.1 ≠ b := fun p hp => Nat.ne_of_lt (Nat.lt_trans (l1 p hp) (Nat.lt_trans l2 l3))
      have nd : ∀ p ∈ news, p.1 ≠ dx := fun p hp => Nat.ne_of_lt (l1 p hp)
      have f1 := off _ (.head _)
      have f2 := off _ (.tail _ (.head _))
      have f3 := off _ (.tail _ (.tail _ (.head _)))
      have f4 := off _ (.tail _ (.tail _ (.tail _ (.head _))))
      replace f1 := neN f1; replace f2 := neN f2; replace f3 := neN f3; replace f4 := neN f4; replace hlI := neN hlI
      try dsimp only at f1 f2 f3 f4
      try dsimp only
      (repeat' ((fail_if_success (with_reducible show wpAny _ _ (pyIter _) _ _ _)); (fail_if_success (with_reducible show LoopStepV _ _ _ _ _ _ _ _ _ _)); (fail_if_success (with_reducible show wpAny _ _ (exec (Stmt.While _ _ _ _) _) _ _ _)); first | (k_unfold; (try dsimp only)) | (with_reducible refine wpAny_execs_nil ?_; (try dsimp only)) | (k_end; wrow_close) | walk1 | (dsimp only; walk1) | (dsimp only [List.cons_append, List.nil_append]; walk1) | (leave1; walk_say "STEP leave1"; try dsimp only) | fail "no step"))
      ((refine wpAny_call ?_; (k_dflt (first | (refine' code_def ?k1 ?k2 ?k3 ?k4 ?k5 ?kA ?kF ?kK ?k6 ?k7 ?k8 ?k9 ?kB ?_ ?c2 ?c3 ?c4 ?c5; (case kA => exact rfl); (case kF => exact rfl); (case kK => first | exact rfl | assumption); (case k1 => k_asm); (case k2 => k_asm); (case k3 => k_asm); (case k4 => k_asm); (case k5 => k_asm); (case k6 => k_is); (case k7 => k_is); (case k8 => first | k_room | ktr_room); (case k9 => first | exact BindsTo.of_eq rfl | exact binds_K (by k_in) rfl (by k_is) rfl rfl rfl | fail "k_enter: no rule for these arguments"); (case c5 => decide); (case kB => exact locs rfl); (case c2 => exact rfl); (case c3 => exact rfl); (case c4 => exact rfl); k_whole; intro g' L' h' FG' F' N' B' X' T'; (try dsimp only); (try k_lift B'); (try k_fold)) | (refine' code_defC ?k1 ?k2 ?k3 ?k4 ?k5 ?kA ?kF ?kK ?k6 ?k7 ?k8 ?k9 ?kB ?kD ?_ ?c2 ?c3 ?c4; (case kA => exact rfl); (case kF => exact rfl); (case kK => first | exact rfl | assumption); (case k1 => k_asm); (case k2 => k_asm); (case k3 => k_asm); (case k4 => k_asm); (case k5 => k_asm); (case k6 => k_is); (case k7 => k_is); (case k8 => first | k_room | ktr_room); (case k9 => first | exact BindsTo.of_eq rfl | exact binds_K (by k_in) rfl (by k_is) rfl rfl rfl | fail "k_enter: no rule for these arguments"); (case kB => exact rfl); (case kD => decide +kernel); (case c2 => exact rfl); (case c3 => exact rfl); (case c4 => exact rfl); k_whole; intro g' L' h' tk' cells' FG' F' N' Y' B' X' T' l1; (try k_lt l1); k_cells Y'; (try simp only [List.cons_append, List.nil_append] at N'); (try dsimp only); (try k_lift B'); (try k_fold))))))
      (repeat' ((fail_if_success (with_reducible show wpAny _ _ (pyIter _) _ _ _)); (fail_if_success (with_reducible show LoopStepV _ _ _ _ _ _ _ _ _ _)); (fail_if_success (with_reducible show wpAny _ _ (exec (Stmt.While _ _ _ _) _) _ _ _)); first | (k_unfold; (try dsimp only)) | (with_reducible refine wpAny_execs_nil ?_; (try dsimp only)) | (k_end; wrow_close) | walk1 | (dsimp only; walk1) | (dsimp only [List.cons_append, List.nil_append]; walk1) | (leave1; walk_say "STEP leave1"; try dsimp only) | fail "no step"))
      rename News _ _ _ _ => N9
      exact made_turn (by k_asm) N9 rfl off hk' (by k_asm) (by rw [hn]; split <;> omega)
    · rintro m₁ news₁ h tk ⟨ob, n, t, t1, t2, e1, rfl, Bs, hn⟩ F₁ N₁
      have F₂ := fr_name (x := "made") F₁ e1
      clear F₁
      have e5 := hr.length
      rw [List.length_map] at e5
      rw [e5, List.take_length] at Bs hn
      try dsimp only
      (repeat' ((fail_if_success (with_reducible show wpAny _ _ (pyIter _) _ _ _)); (fail_if_success (with_reducible show LoopStepV _ _ _ _ _ _ _ _ _ _)); (fail_if_success (with_reducible show wpAny _ _ (exec (Stmt.While _ _ _ _) _) _ _ _)); first | (k_unfold; (try dsimp only)) | (with_reducible refine wpAny_execs_nil ?_; (try dsimp only)) | (k_end; wrow_close) | walk1 | (dsimp only; walk1) | (dsimp only [List.cons_append, List.nil_append]; walk1) | (leave1; walk_say "STEP leave1"; try dsimp only) | fail "no step"))
      rename Fr h₀ _ _ _ => F9
      rename News h₀ _ _ _ => N9
      exact ret _ _ x dx b ob n t t1 t2 F9 (fun p hp => N9 p (by simp only [List.mem_cons] at hp ⊢; rcases hp with h | h | h | h <;> simp [h])) (BSet.congr Bs fun j => by rw [Bool.eq_iff_iff, decide_eq_true_eq]; exact hks j) (by rw [hn, cnt_bits hks]) l1 l2 l3
  · have hr := hvs
    have hks := mem_bitList X
    rename News _ _ _ _ => NN
    refine for_list (MJ w x dx b (bitList X) ((_, _) :: news)) (by rfl) (.tail _ (.tail _ (.tail _ (.head _)))) (by k_asm) (reord2 NN) ⟨_, _, _, _, _, rfl, rfl, BSet.congr (bset_fresh _) (fun j => by simp), rfl⟩ ?_ ?_
    · rintro i v m₁ news₁ h tk I oI hv ⟨ob, n, t, t1, t2, e1, rfl, Bs, hn⟩ off hlI F₁ N₁
      obtain ⟨z, t9, rfl, hz⟩ := IntsAre.at hr i v hv
      rw [List.getElem?_map, Option.map_eq_some_iff] at hz
      obtain ⟨k, hk', rfl⟩ := hz
      have hkX := (hks k).mp (List.mem_of_getElem? hk')
      have hk1 : k < 384 := Nat.lt_of_not_le fun hle => by rw [Nat.testBit_lt_two_pow (Nat.lt_of_lt_of_le hX (Nat.pow_le_pow_right (by decide) hle))] at hkX; cases hkX
      have F₂ := fr_name (x := "made") F₁ e1
      clear F₁
      have nb : ∀ p ∈ news, p.1 ≠ b := fun p hp => Nat.ne_of_lt (Nat.lt_trans (l1 p hp) (Nat.lt_trans l2 l3))
      have nd : ∀ p ∈ news, p.1 ≠ dx := fun p hp => Nat.ne_of_lt (l1 p hp)
      have f1 := off _ (.head _)
      have f2 := off _ (.tail _ (.head _))
      have f3 := off _ (.tail _ (.tail _ (.head _)))
      have f4 := off _ (.tail _ (.tail _ (.tail _ (.head _))))
      replace f1 := neN f1; replace f2 := neN f2; replace f3 := neN f3; replace f4 := neN f4; replace hlI := neN hlI
      try dsimp only at f1 f2 f3 f4
      try dsimp only
      (repeat' ((fail_if_success (with_reducible show wpAny _ _ (pyIter _) _ _ _)); (fail_if_success (with_reducible show LoopStepV _ _ _ _ _ _ _ _ _ _)); (fail_if_success (with_reducible show wpAny _ _ (exec (Stmt.While _ _ _ _) _) _ _ _)); first | (k_unfold; (try dsimp only)) | (with_reducible refine wpAny_execs_nil ?_; (try dsimp only)) | (k_end; wrow_close) | walk1 | (dsimp only; walk1) | (dsimp only [List.cons_append, List.nil_append]; walk1) | (leave1; walk_say "STEP leave1"; try dsimp only) | fail "no step"))
      ((refine wpAny_call ?_; (k_dflt (first | (refine' code_def ?k1 ?k2 ?k3 ?k4 ?k5 ?kA ?kF ?kK ?k6 ?k7 ?k8 ?k9 ?kB ?_ ?c2 ?c3 ?c4 ?c5; (case kA => exact rfl); (case kF => exact rfl); (case kK => first | exact rfl | assumption); (case k1 => k_asm); (case k2 => k_asm); (case k3 => k_asm); (case k4 => k_asm); (case k5 => k_asm); (case k6 => k_is); (case k7 => k_is); (case k8 => first | k_room | ktr_room); (case k9 => first | exact BindsTo.of_eq rfl | exact binds_K (by k_in) rfl (by k_is) rfl rfl rfl | fail "k_enter: no rule for these arguments"); (case c5 => decide); (case kB => exact locs rfl); (case c2 => exact rfl); (case c3 => exact rfl); (case c4 => exact rfl); k_whole; intro g' L' h' FG' F' N' B' X' T'; (try dsimp only); (try k_lift B'); (try k_fold)) | (refine' code_defC ?k1 ?k2 ?k3 ?k4 ?k5 ?kA ?kF ?kK ?k6 ?k7 ?k8 ?k9 ?kB ?kD ?_ ?c2 ?c3 ?c4; (case kA => exact rfl); (case kF => exact rfl); (case kK => first | exact rfl | assumption); (case k1 => k_asm); (case k2 => k_asm); (case k3 => k_asm); (case k4 => k_asm); (case k5 => k_asm); (case k6 => k_is); (case k7 => k_is); (case k8 => first | k_room | ktr_room); (case k9 => first | exact BindsTo.of_eq rfl | exact binds_K (by k_in) rfl (by k_is) rfl rfl rfl | fail "k_enter: no rule for these arguments"); (case kB => exact rfl); (case kD => decide +kernel); (case c2 => exact rfl); (case c3 => exact rfl); (case c4 => exact rfl); k_whole; intro g' L' h' tk' cells' FG' F' N' Y' B' X' T' l1; (try k_lt l1); k_cells Y'; (try simp only [List.cons_append, List.nil_append] at N'); (try dsimp only); (try k_lift B'); (try k_fold))))))
      (repeat' ((fail_if_success (with_reducible show wpAny _ _ (pyIter _) _ _ _)); (fail_if_success (with_reducible show LoopStepV _ _ _ _ _ _ _ _ _ _)); (fail_if_success (with_reducible show wpAny _ _ (exec (Stmt.While _ _ _ _) _) _ _ _)); first | (k_unfold; (try dsimp only)) | (with_reducible refine wpAny_execs_nil ?_; (try dsimp only)) | (k_end; wrow_close) | walk1 | (dsimp only; walk1) | (dsimp only [List.cons_append, List.nil_append]; walk1) | (leave1; walk_say "STEP leave1"; try dsimp only) | fail "no step"))
      rename News _ _ _ _ => N9
      exact made_turn (by k_asm) N9 rfl off hk' (by k_asm) (by rw [hn]; split <;> omega)
    · rintro m₁ news₁ h tk ⟨ob, n, t, t1, t2, e1, rfl, Bs, hn⟩ F₁ N₁
      have F₂ := fr_name (x := "made") F₁ e1
      clear F₁
      have e5 := hr.length
      rw [List.length_map] at e5
      rw [e5, List.take_length] at Bs hn
      try dsimp only
      (repeat' ((fail_if_success (with_reducible show wpAny _ _ (pyIter _) _ _ _)); (fail_if_success (with_reducible show LoopStepV _ _ _ _ _ _ _ _ _ _)); (fail_if_success (with_reducible show wpAny _ _ (exec (Stmt.While _ _ _ _) _) _ _ _)); first | (k_unfold; (try dsimp only)) | (with_reducible refine wpAny_execs_nil ?_; (try dsimp only)) | (k_end; wrow_close) | walk1 | (dsimp only; walk1) | (dsimp only [List.cons_append, List.nil_append]; walk1) | (leave1; walk_say "STEP leave1"; try dsimp only) | fail "no step"))
      rename Fr h₀ _ _ _ => F9
      rename News h₀ _ _ _ => N9
      exact ret _ _ x dx b ob n t t1 t2 F9 (fun p hp => N9 p (by simp only [List.mem_cons] at hp ⊢; rcases hp with h | h | h | h <;> simp [h])) (BSet.congr Bs fun j => by rw [Bool.eq_iff_iff, decide_eq_true_eq]; exact hks j) (by rw [hn, cnt_bits hks]) l1 l2 l3
end D_F3
namespace D_F4
open D_F3
omit B F KI N T hk in
theorem bmIn {x1 d1 b1 : Addr} {o1 : Obj} {n1 : Int} {s1 s2 s3 : Tok} {x2 d2 b2 : Addr} {o2 : Obj} {n2 : Int} {r1 r2 r3 : Tok} {S1 S2 : Nat → Bool} {h : Heap} (N : News h₀ L h news) (M1 : Bm w x1 d1 b1 o1 S1 n1 s1 s2 s3 news) (M2 : Bm w x2 d2 b2 o2 S2 n2 r1 r2 r3 news) :
    News h₀ L h ((x1, instObj 145 d1) :: (d1, bmDict w b1 n1 s1 s2 s3) :: (b1, o1) :: (x2, instObj 145 d2) :: (d2, bmDict w b2 n2 r1 r2 r3) :: (b2, o2) :: news) := fun p hp => by
  obtain ⟨a1, a2, a3, _⟩ := M1
  obtain ⟨c1, c2, c3, _⟩ := M2
  simp only [List.mem_cons] at hp
  rcases hp with rfl | rfl | rfl | rfl | rfl | rfl | hp <;> exact N _ (by assumption)
omit B F KI N T hk in
theorem reordOp {h : Heap} {p1 p2 q1 q2 c1 c2 c3 c4 c5 c6 : Addr × Obj} {r : List (Addr × Obj)} (N : News h₀ L h (p1 :: p2 :: q1 :: q2 :: c1 :: c2 :: c3 :: c4 :: c5 :: c6 :: r)) : News h₀ L h (q1 :: q2 :: p1 :: r) :=
  fun p hp => N p (by simp only [List.mem_cons] at hp ⊢; rcases hp with h | h | h | h <;> simp [h])

set_option maxRecDepth 100000 in
set_option maxHeartbeats 8000000 in
theorem or_ok {x1 d1 b1 : Addr} {o1 : Obj} {n1 : Int} {s1 s2 s3 : Tok} {x2 d2 b2 : Addr} {o2 : Obj} {n2 : Int} {r1 r2 r3 : Tok} {S1 S2 : Nat → Bool} (M1 : Bm w x1 d1 b1 o1 S1 n1 s1 s2 s3 news) (M2 : Bm w x2 d2 b2 o2 S2 n2 r1 r2 r3 news) (hb : b2 ≠ b1) (hdp : dp + 2 < recursionLimit) (hu : un + 16 < cLine)
    (ret : ∀ (h' : Heap) (tk' : Nat) x dx b ob t t1 t2, Fr h₀ L h' m → News h₀ L h' ((x, instObj 145 dx) :: (dx, bmDict w b (if n2 > n1 then n2 else n1) t t1 t2) :: (b, ob) :: news) → BSet w ob (fun j => S1 j || S2 j) → (∀ p ∈ news, p.1 < dx) → dx < x → x < b → Q (.ref x) { s with heap := h', toks := tk' }) :
    wpAny (model prog w) (ktrTop dp un gd cn cs L a ccd cl outer) (call (.ref 114) [.ref x1, .ref x2]) Q E s := by
  have N0 := bmIn N M1 M2
  have B1 := M1.2.2.2
  have B2 := M2.2.2.2
  clear N
  refine wpAny_call ?_
  (k_dflt (first | (refine' code_def ?k1 ?k2 ?k3 ?k4 ?k5 ?kA ?kF ?kK ?k6 ?k7 ?k8 ?k9 ?kB ?_ ?c2 ?c3 ?c4 ?c5; (case kA => exact rfl); (case kF => exact rfl); (case kK => first | exact rfl | assumption); (case k1 => k_asm); (case k2 => k_asm); (case k3 => k_asm); (case k4 => k_asm); (case k5 => k_asm); (case k6 => k_is); (case k7 => k_is); (case k8 => first | k_room | ktr_room); (case k9 => first | exact BindsTo.of_eq rfl | exact binds_K (by k_in) rfl (by k_is) rfl rfl rfl | fail "k_enter: no rule for these arguments"); (case c5 => decide); (case kB => exact locs rfl); (case c2 => exact rfl); (case c3 => exact rfl); (case c4 => exact rfl); k_whole; intro g' L' h' FG' F' N' B' X' T'; (try dsimp only); (try k_lift B'); (try k_fold)) | (refine' code_defC ?k1 ?k2 ?k3 ?k4 ?k5 ?kA ?kF ?kK ?k6 ?k7 ?k8 ?k9 ?kB ?kD ?_ ?c2 ?c3 ?c4; (case kA => exact rfl); (case kF => exact rfl); (case kK => first | exact rfl | assumption); (case k1 => k_asm); (case k2 => k_asm); (case k3 => k_asm); (case k4 => k_asm); (case k5 => k_asm); (case k6 => k_is); (case k7 => k_is); (case k8 => first | k_room | ktr_room); (case k9 => first | exact BindsTo.of_eq rfl | exact binds_K (by k_in) rfl (by k_is) rfl rfl rfl | fail "k_enter: no rule for these arguments"); (case kB => exact rfl); (case kD => decide +kernel); (case c2 => exact rfl); (case c3 => exact rfl); (case c4 => exact rfl); k_whole; intro g' L' h' tk' cells' FG' F' N' Y' B' X' T' l1; (try k_lt l1); k_cells Y'; (try simp only [List.cons_append, List.nil_append] at N'); (try dsimp only); (try k_lift B'); (try k_fold))))
  (repeat' ((fail_if_success (with_reducible show wpAny _ _ (pyIter _) _ _ _)); (fail_if_success (with_reducible show LoopStepV _ _ _ _ _ _ _ _ _ _)); (fail_if_success (with_reducible show wpAny _ _ (exec (Stmt.While _ _ _ _) _) _ _ _)); first | (k_unfold; (try dsimp only)) | (with_reducible refine wpAny_execs_nil ?_; (try dsimp only)) | (k_end; wrow_close) | walk1 | (dsimp only; walk1) | (dsimp only [List.cons_append, List.nil_append]; walk1) | (leave1; walk_say "STEP leave1"; try dsimp only) | fail "no step"))
  with_unfolding_all refine new0_ok (by k_asm) (by k_asm) (by k_asm) (by k_asm) (by k_asm) rfl (by (((try dsimp only [units_in1, units_deeper, Around.mark_units, units_caller, depth_under_make, depth_under_kw, units_under_make, depth_in1, depth_deeper, depth_caller]); (try dsimp only [ktrTop]); first | with_reducible exact Mine.rB1 (by assumption) rfl | with_reducible exact Mine.rC1 (by assumption) rfl | with_reducible exact Mine.rB2 (by assumption) rfl | with_reducible exact Mine.rC2 (by assumption) rfl | with_reducible exact Mine.rB0 (by assumption) | with_reducible exact Mine.rC0 (by assumption) | exact Mine.rm1 (by assumption) rfl | exact Mine.rm2 (by assumption) rfl | exact Mine.rm3 (by assumption) rfl | exact Mine.rm0 (by assumption) | (have hcL9 := cLine_is; omega (config := {}))))) (by (((try dsimp only [units_in1, units_deeper, Around.mark_units, units_caller, depth_under_make, depth_under_kw, units_under_make, depth_in1, depth_deeper, depth_caller]); (try dsimp only [ktrTop]); first | with_reducible exact Mine.rB1 (by assumption) rfl | with_reducible exact Mine.rC1 (by assumption) rfl | with_reducible exact Mine.rB2 (by assumption) rfl | with_reducible exact Mine.rC2 (by assumption) rfl | with_reducible exact Mine.rB0 (by assumption) | with_reducible exact Mine.rC0 (by assumption) | exact Mine.rm1 (by assumption) rfl | exact Mine.rm2 (by assumption) rfl | exact Mine.rm3 (by assumption) rfl | exact Mine.rm0 (by assumption) | (have hcL9 := cLine_is; omega (config := {}))))) ?_
  intro h1 tk1 x dx b t t1 t2 F1 N1 l1 l2 l3
  replace l2 := ltN l2
  replace l3 := ltN l3
  have nd : ∀ p ∈ news, p.1 ≠ dx := fun p hp => Nat.ne_of_lt (l1 p (.tail _ (.tail _ (.tail _ (.tail _ (.tail _ (.tail _ hp)))))))
  have nl : ∀ p ∈ news, p.1 < dx := fun p hp => (l1 p (.tail _ (.tail _ (.tail _ (.tail _ (.tail _ (.tail _ hp)))))))
  k_lt l1
  try dsimp only
  (repeat' ((fail_if_success (with_reducible show wpAny _ _ (pyIter _) _ _ _)); (fail_if_success (with_reducible show LoopStepV _ _ _ _ _ _ _ _ _ _)); (fail_if_success (with_reducible show wpAny _ _ (exec (Stmt.While _ _ _ _) _) _ _ _)); first | (k_unfold; (try dsimp only)) | (with_reducible refine wpAny_execs_nil ?_; (try dsimp only)) | (k_end; wrow_close) | walk1 | (dsimp only; walk1) | (dsimp only [List.cons_append, List.nil_append]; walk1) | (leave1; walk_say "STEP leave1"; try dsimp only) | fail "no step"))
  refine bs_or (by k_asm) (by k_asm) (by (repeat (first | assumption | exact List.Mem.head _ | refine' List.Mem.tail _ ?_))) (by (repeat (first | assumption | exact List.Mem.head _ | refine' List.Mem.tail _ ?_))) hb B1 B2 ?_
  intro D od h2 F2 N2 l4 B4
  k_lt l4
  try dsimp only
  (repeat' ((fail_if_success (with_reducible show wpAny _ _ (pyIter _) _ _ _)); (fail_if_success (with_reducible show LoopStepV _ _ _ _ _ _ _ _ _ _)); (fail_if_success (with_reducible show wpAny _ _ (exec (Stmt.While _ _ _ _) _) _ _ _)); first | (k_unfold; (try dsimp only)) | (with_reducible refine wpAny_execs_nil ?_; (try dsimp only)) | (k_end; wrow_close) | walk1 | (dsimp only; walk1) | (dsimp only [List.cons_append, List.nil_append]; walk1) | (leave1; walk_say "STEP leave1"; try dsimp only) | fail "no step"))
  rename Fr h₀ _ _ _ => F9
  rename News h₀ _ _ _ => N9
  exact ret _ _ x dx D od _ _ _ F9 (reordOp N9) B4 nl l2 l4.2.1

set_option maxRecDepth 100000 in
set_option maxHeartbeats 8000000 in
theorem and_ok {x1 d1 b1 : Addr} {o1 : Obj} {n1 : Int} {s1 s2 s3 : Tok} {x2 d2 b2 : Addr} {o2 : Obj} {n2 : Int} {r1 r2 r3 : Tok} {S1 S2 : Nat → Bool} (M1 : Bm w x1 d1 b1 o1 S1 n1 s1 s2 s3 news) (M2 : Bm w x2 d2 b2 o2 S2 n2 r1 r2 r3 news) (hb : b2 ≠ b1) (hdp : dp + 2 < recursionLimit) (hu : un + 16 < cLine)
    (ret : ∀ (h' : Heap) (tk' : Nat) x dx b ob t t1 t2, Fr h₀ L h' m → News h₀ L h' ((x, instObj 145 dx) :: (dx, bmDict w b (if n2 > n1 then n2 else n1) t t1 t2) :: (b, ob) :: news) → BSet w ob (fun j => S1 j && S2 j) → (∀ p ∈ news, p.1 < dx) → dx < x → x < b → Q (.ref x) { s with heap := h', toks := tk' }) :
    wpAny (model prog w) (ktrTop dp un gd cn cs L a ccd cl outer) (call (.ref 121) [.ref x1, .ref x2]) Q E s := by
  have N0 := bmIn N M1 M2
  have B1 := M1.2.2.2
  have B2 := M2.2.2.2
  clear N
  refine wpAny_call ?_
  (k_dflt (first | (refine' code_def ?k1 ?k2 ?k3 ?k4 ?k5 ?kA ?kF ?kK ?k6 ?k7 ?k8 ?k9 ?kB ?_ ?c2 ?c3 ?c4 ?c5; (case kA => exact rfl); (case kF => exact rfl); (case kK => first | exact rfl | assumption); (case k1 => k_asm); (case k2 => k_asm); (case k3 => k_asm); (case k4 => k_asm); (case k5 => k_asm); (case k6 => k_is); (case k7 => k_is); (case k8 => first | k_room | ktr_room); (case k9 => first | exact BindsTo.of_eq rfl | exact binds_K (by k_in) rfl (by k_is) rfl rfl rfl | fail "k_enter: no rule for these arguments"); (case c5 => decide); (case kB => exact locs rfl); (case c2 => exact rfl); (case c3 => exact rfl); (case c4 => exact rfl); k_whole; intro g' L' h' FG' F' N' B' X' T'; (try dsimp only); (try k_lift B'); (try k_fold)) | (refine' code_defC ?k1 ?k2 ?k3 ?k4 ?k5 ?kA ?kF ?kK ?k6 ?k7 ?k8 ?k9 ?kB ?kD ?_ ?c2 ?c3 ?c4; (case kA => exact rfl); (case kF => exact rfl); (case kK => first | exact rfl | assumption); (case k1 => k_asm); (case k2 => k_asm); (case k3 => k_asm); (case k4 => k_asm); (case k5 => k_asm); (case k6 => k_is); (case k7 => k_is); (case k8 => first | k_room | ktr_room); (case k9 => first | exact BindsTo.of_eq rfl | exact binds_K (by k_in) rfl (by k_is) rfl rfl rfl | fail "k_enter: no rule for these arguments"); (case kB => exact rfl); (case kD => decide +kernel); (case c2 => exact rfl); (case c3 => exact rfl); (case c4 => exact rfl); k_whole; intro g' L' h' tk' cells' FG' F' N' Y' B' X' T' l1; (try k_lt l1); k_cells Y'; (try simp only [List.cons_append, List.nil_append] at N'); (try dsimp only); (try k_lift B'); (try k_fold))))
  (repeat' ((fail_if_success (with_reducible show wpAny _ _ (pyIter _) _ _ _)); (fail_if_success (with_reducible show LoopStepV _ _ _ _ _ _ _ _ _ _)); (fail_if_success (with_reducible show wpAny _ _ (exec (Stmt.While _ _ _ _) _) _ _ _)); first | (k_unfold; (try dsimp only)) | (with_reducible refine wpAny_execs_nil ?_; (try dsimp only)) | (k_end; wrow_close) | walk1 | (dsimp only; walk1) | (dsimp only [List.cons_append, List.nil_append]; walk1) | (leave1; walk_say "STEP leave1"; try dsimp only) | fail "no step"))
  with_unfolding_all refine new0_ok (by k_asm) (by k_asm) (by k_asm) (by k_asm) (by k_asm) rfl (by (((try dsimp only [units_in1, units_deeper, Around.mark_units, units_caller, depth_under_make, depth_under_kw, units_under_make, depth_in1, depth_deeper, depth_caller]); (try dsimp only [ktrTop]); first | with_reducible exact Mine.rB1 (by assumption) rfl | with_reducible exact Mine.rC1 (by assumption) rfl | with_reducible exact Mine.rB2 (by assumption) rfl | with_reducible exact Mine.rC2 (by assumption) rfl | with_reducible exact Mine.rB0 (by assumption) | with_reducible exact Mine.rC0 (by assumption) | exact Mine.rm1 (by assumption) rfl | exact Mine.rm2 (by assumption) rfl | exact Mine.rm3 (by assumption) rfl | exact Mine.rm0 (by assumption) | (have hcL9 := cLine_is; omega (config := {}))))) (by (((try dsimp only [units_in1, units_deeper, Around.mark_units, units_caller, depth_under_make, depth_under_kw, units_under_make, depth_in1, depth_deeper, depth_caller]); (try dsimp only [ktrTop]); first | with_reducible exact Mine.rB1 (by assumption) rfl | with_reducible exact Mine.rC1 (by assumption) rfl | with_reducible exact Mine.rB2 (by assumption) rfl | with_reducible exact Mine.rC2 (by assumption) rfl | with_reducible exact Mine.rB0 (by assumption) | with_reducible exact Mine.rC0 (by assumption) | exact Mine.rm1 (by assumption) rfl | exact Mine.rm2 (by assumption) rfl | exact Mine.rm3 (by assumption) rfl | exact Mine.rm0 (by assumption) | (have hcL9 := cLine_is; omega (config := {}))))) ?_
  intro h1 tk1 x dx b t t1 t2 F1 N1 l1 l2 l3
  replace l2 := ltN l2
  replace l3 := ltN l3
  have nd : ∀ p ∈ news, p.1 ≠ dx := fun p hp => Nat.ne_of_lt (l1 p (.tail _ (.tail _ (.tail _ (.tail _ (.tail _ (.tail _ hp)))))))
  have nl : ∀ p ∈ news, p.1 < dx := fun p hp => (l1 p (.tail _ (.tail _ (.tail _ (.tail _ (.tail _ (.tail _ hp)))))))
  k_lt l1
  try dsimp only
  (repeat' ((fail_if_success (with_reducible show wpAny _ _ (pyIter _) _ _ _)); (fail_if_success (with_reducible show LoopStepV _ _ _ _ _ _ _ _ _ _)); (fail_if_success (with_reducible show wpAny _ _ (exec (Stmt.While _ _ _ _) _) _ _ _)); first | (k_unfold; (try dsimp only)) | (with_reducible refine wpAny_execs_nil ?_; (try dsimp only)) | (k_end; wrow_close) | walk1 | (dsimp only; walk1) | (dsimp only [List.cons_append, List.nil_append]; walk1) | (leave1; walk_say "STEP leave1"; try dsimp only) | fail "no step"))
  refine bs_and (by k_asm) (by k_asm) (by (repeat (first | assumption | exact List.Mem.head _ | refine' List.Mem.tail _ ?_))) (by (repeat (first | assumption | exact List.Mem.head _ | refine' List.Mem.tail _ ?_))) hb B1 B2 ?_
  intro D od h2 F2 N2 l4 B4
  k_lt l4
  try dsimp only
  (repeat' ((fail_if_success (with_reducible show wpAny _ _ (pyIter _) _ _ _)); (fail_if_success (with_reducible show LoopStepV _ _ _ _ _ _ _ _ _ _)); (fail_if_success (with_reducible show wpAny _ _ (exec (Stmt.While _ _ _ _) _) _ _ _)); first | (k_unfold; (try dsimp only)) | (with_reducible refine wpAny_execs_nil ?_; (try dsimp only)) | (k_end; wrow_close) | walk1 | (dsimp only; walk1) | (dsimp only [List.cons_append, List.nil_append]; walk1) | (leave1; walk_say "STEP leave1"; try dsimp only) | fail "no step"))
  rename Fr h₀ _ _ _ => F9
  rename News h₀ _ _ _ => N9
  exact ret _ _ x dx D od _ _ _ F9 (reordOp N9) B4 nl l2 l4.2.1

set_option maxRecDepth 100000 in
set_option maxHeartbeats 8000000 in
theorem xor_ok {x1 d1 b1 : Addr} {o1 : Obj} {n1 : Int} {s1 s2 s3 : Tok} {x2 d2 b2 : Addr} {o2 : Obj} {n2 : Int} {r1 r2 r3 : Tok} {S1 S2 : Nat → Bool} (M1 : Bm w x1 d1 b1 o1 S1 n1 s1 s2 s3 news) (M2 : Bm w x2 d2 b2 o2 S2 n2 r1 r2 r3 news) (hb : b2 ≠ b1) (hdp : dp + 2 < recursionLimit) (hu : un + 16 < cLine)
    (ret : ∀ (h' : Heap) (tk' : Nat) x dx b ob t t1 t2, Fr h₀ L h' m → News h₀ L h' ((x, instObj 145 dx) :: (dx, bmDict w b (if n2 > n1 then n2 else n1) t t1 t2) :: (b, ob) :: news) → BSet w ob (fun j => S1 j ^^ S2 j) → (∀ p ∈ news, p.1 < dx) → dx < x → x < b → Q (.ref x) { s with heap := h', toks := tk' }) :
    wpAny (model prog w) (ktrTop dp un gd cn cs L a ccd cl outer) (call (.ref 128) [.ref x1, .ref x2]) Q E s := by
  have N0 := bmIn N M1 M2
  have B1 := M1.2.2.2
  have B2 := M2.2.2.2
  clear N
  refine wpAny_call ?_
  (k_dflt (first | (refine' code_def ?k1 ?k2 ?k3 ?k4 ?k5 ?kA ?kF ?kK ?k6 ?k7 ?k8 ?k9 ?kB ?_ ?c2 ?c3 ?c4 ?c5; (case kA => exact rfl); (case kF => exact rfl); (case kK => first | exact rfl | assumption); (case k1 => k_asm); (case k2 => k_asm); (case k3 => k_asm); (case k4 => k_asm); (case k5 => k_asm); (case k6 => k_is); (case k7 => k_is); (case k8 => first | k_room | ktr_room); (case k9 => first | exact BindsTo.of_eq rfl | exact binds_K (by k_in) rfl (by k_is) rfl rfl rfl | fail "k_enter: no rule for these arguments"); (case c5 => decide); (case kB => exact locs rfl); (case c2 => exact rfl); (case c3 => exact rfl); (case c4 => exact rfl); k_whole; intro g' L' h' FG' F' N' B' X' T'; (try dsimp only); (try k_lift B'); (try k_fold)) | (refine' code_defC ?k1 ?k2 ?k3 ?k4 ?k5 ?kA ?kF ?kK ?k6 ?k7 ?k8 ?k9 ?kB ?kD ?_ ?c2 ?c3 ?c4; (case kA => exact rfl); (case kF => exact rfl); (case kK => first | exact rfl | assumption); (case k1 => k_asm); (case k2 => k_asm); (case k3 => k_asm); (case k4 => k_asm); (case k5 => k_asm); (case k6 => k_is); (case k7 => k_is); (case k8 => first | k_room | ktr_room); (case k9 => first | exact BindsTo.of_eq rfl | exact binds_K (by k_in) rfl (by k_is) rfl rfl rfl | fail "k_enter: no rule for these arguments"); (case kB => exact rfl); (case kD => decide +kernel); (case c2 => exact rfl); (case c3 => exact rfl); (case c4 => exact rfl); k_whole; intro g' L' h' tk' cells' FG' F' N' Y' B' X' T' l1; (try k_lt l1); k_cells Y'; (try simp only [List.cons_append, List.nil_append] at N'); (try dsimp only); (try k_lift B'); (try k_fold))))
  (repeat' ((fail_if_success (with_reducible show wpAny _ _ (pyIter _) _ _ _)); (fail_if_success (with_reducible show LoopStepV _ _ _ _ _ _ _ _ _ _)); (fail_if_success (with_reducible show wpAny _ _ (exec (Stmt.While _ _ _ _) _) _ _ _)); first | (k_unfold; (try dsimp only)) | (with_reducible refine wpAny_execs_nil ?_; (try dsimp only)) | (k_end; wrow_close) | walk1 | (dsimp only; walk1) | (dsimp only [List.cons_append, List.nil_append]; walk1) | (leave1; walk_say "STEP leave1"; try dsimp only) | fail "no step"))
  with_unfolding_all refine new0_ok (by k_asm) (by k_asm) (by k_asm) (by k_asm) (by k_asm) rfl (by (((try dsimp only [units_in1, units_deeper, Around.mark_units, units_caller, depth_under_make, depth_under_kw, units_under_make, depth_in1, depth_deeper, depth_caller]); (try dsimp only [ktrTop]); first | with_reducible exact Mine.rB1 (by assumption) rfl | with_reducible exact Mine.rC1 (by assumption) rfl | with_reducible exact Mine.rB2 (by assumption) rfl | with_reducible exact Mine.rC2 (by assumption) rfl | with_reducible exact Mine.rB0 (by assumption) | with_reducible exact Mine.rC0 (by assumption) | exact Mine.rm1 (by assumption) rfl | exact Mine.rm2 (by assumption) rfl | exact Mine.rm3 (by assumption) rfl | exact Mine.rm0 (by assumption) | (have hcL9 := cLine_is; omega (config := {}))))) (by (((try dsimp only [units_in1, units_deeper, Around.mark_units, units_caller, depth_under_make, depth_under_kw, units_under_make, depth_in1, depth_deeper, depth_caller]); (try dsimp only [ktrTop]); first | with_reducible exact Mine.rB1 (by assumption) rfl | with_reducible exact Mine.rC1 (by assumption) rfl | with_reducible exact Mine.rB2 (by assumption) rfl | with_reducible exact Mine.rC2 (by assumption) rfl | with_reducible exact Mine.rB0 (by assumption) | with_reducible exact Mine.rC0 (by assumption) | exact Mine.rm1 (by assumption) rfl | exact Mine.rm2 (by assumption) rfl | exact Mine.rm3 (by assumption) rfl | exact Mine.rm0 (by assumption) | (have hcL9 := cLine_is; omega (config := {}))))) ?_
  intro h1 tk1 x dx b t t1 t2 F1 N1 l1 l2 l3
  replace l2 := ltN l2
  replace l3 := ltN l3
  have nd : ∀ p ∈ news, p.1 ≠ dx := fun p hp => Nat.ne_of_lt (l1 p (.tail _ (.tail _ (.tail _ (.tail _ (.tail _ (.tail _ hp)))))))
  have nl : ∀ p ∈ news, p.1 < dx := fun p hp => (l1 p (.tail _ (.tail _ (.tail _ (.tail _ (.tail _ (.tail _ hp)))))))
  k_lt l1
  try dsimp only
  (repeat' ((fail_if_success (with_reducible show wpAny _ _ (pyIter _) _ _ _)); (fail_if_success (with_reducible show LoopStepV _ _ _ _ _ _ _ _ _ _)); (fail_if_success (with_reducible show wpAny _ _ (exec (Stmt.While _ _ _ _) _) _ _ _)); first | (k_unfold; (try dsimp only)) | (with_reducible refine wpAny_execs_nil ?_; (try dsimp only)) | (k_end; wrow_close) | walk1 | (dsimp only; walk1) | (dsimp only [List.cons_append, List.nil_append]; walk1) | (leave1; walk_say "STEP leave1"; try dsimp only) | fail "no step"))
  refine bs_xor (by k_asm) (by k_asm) (by (repeat (first | assumption | exact List.Mem.head _ | refine' List.Mem.tail _ ?_))) (by (repeat (first | assumption | exact List.Mem.head _ | refine' List.Mem.tail _ ?_))) hb B1 B2 ?_
  intro D od h2 F2 N2 l4 B4
  k_lt l4
  try dsimp only
  (repeat' ((fail_if_success (with_reducible show wpAny _ _ (pyIter _) _ _ _)); (fail_if_success (with_reducible show LoopStepV _ _ _ _ _ _ _ _ _ _)); (fail_if_success (with_reducible show wpAny _ _ (exec (Stmt.While _ _ _ _) _) _ _ _)); first | (k_unfold; (try dsimp only)) | (with_reducible refine wpAny_execs_nil ?_; (try dsimp only)) | (k_end; wrow_close) | walk1 | (dsimp only; walk1) | (dsimp only [List.cons_append, List.nil_append]; walk1) | (leave1; walk_say "STEP leave1"; try dsimp only) | fail "no step"))
  rename Fr h₀ _ _ _ => F9
  rename News h₀ _ _ _ => N9
  exact ret _ _ x dx D od _ _ _ F9 (reordOp N9) B4 nl l2 l4.2.1

set_option maxRecDepth 100000 in
set_option maxHeartbeats 8000000 in
theorem sub_ok {x1 d1 b1 : Addr} {o1 : Obj} {n1 : Int} {s1 s2 s3 : Tok} {x2 d2 b2 : Addr} {o2 : Obj} {n2 : Int} {r1 r2 r3 : Tok} {S1 S2 : Nat → Bool} (M1 : Bm w x1 d1 b1 o1 S1 n1 s1 s2 s3 news) (M2 : Bm w x2 d2 b2 o2 S2 n2 r1 r2 r3 news) (hb : b2 ≠ b1) (hdp : dp + 2 < recursionLimit) (hu : un + 16 < cLine)
    (ret : ∀ (h' : Heap) (tk' : Nat) x dx b ob t t1 t2, Fr h₀ L h' m → News h₀ L h' ((x, instObj 145 dx) :: (dx, bmDict w b (n1) t t1 t2) :: (b, ob) :: news) → BSet w ob (fun j => S1 j && !S2 j) → (∀ p ∈ news, p.1 < dx) → dx < x → x < b → Q (.ref x) { s with heap := h', toks := tk' }) :
    wpAny (model prog w) (ktrTop dp un gd cn cs L a ccd cl outer) (call (.ref 135) [.ref x1, .ref x2]) Q E s := by
  have N0 := bmIn N M1 M2
  have B1 := M1.2.2.2
  have B2 := M2.2.2.2
  clear N
  refine wpAny_call ?_
  (k_dflt (first | (refine' code_def ?k1 ?k2 ?k3 ?k4 ?k5 ?kA ?kF ?kK ?k6 ?k7 ?k8 ?k9 ?kB ?_ ?c2 ?c3 ?c4 ?c5; (case kA => exact rfl); (case kF => exact rfl); (case kK => first | exact rfl | assumption); (case k1 => k_asm); (case k2 => k_asm); (case k3 => k_asm); (case k4 => k_asm); (case k5 => k_asm); (case k6 => k_is); (case k7 => k_is); (case k8 => first | k_room | ktr_room); (case k9 => first | exact BindsTo.of_eq rfl | exact binds_K (by k_in) rfl (by k_is) rfl rfl rfl | fail "k_enter: no rule for these arguments"); (case c5 => decide); (case kB => exact locs rfl); (case c2 => exact rfl); (case c3 => exact rfl); (case c4 => exact rfl); k_whole; intro g' L' h' FG' F' N' B' X' T'; (try dsimp only); (try k_lift B'); (try k_fold)) | (refine' code_defC ?k1 ?k2 ?k3 ?k4 ?k5 ?kA ?kF ?kK ?k6 ?k7 ?k8 ?k9 ?kB ?kD ?_ ?c2 ?c3 ?c4; (case kA => exact rfl); (case kF => exact rfl); (case kK => first | exact rfl | assumption); (case k1 => k_asm); (case k2 => k_asm); (case k3 => k_asm); (case k4 => k_asm); (case k5 => k_asm); (case k6 => k_is); (case k7 => k_is); (case k8 => first | k_room | ktr_room); (case k9 => first | exact BindsTo.of_eq rfl | exact binds_K (by k_in) rfl (by k_is) rfl rfl rfl | fail "k_enter: no rule for these arguments"); (case kB => exact rfl); (case kD => decide +kernel); (case c2 => exact rfl); (case c3 => exact rfl); (case c4 => exact rfl); k_whole; intro g' L' h' tk' cells' FG' F' N' Y' B' X' T' l1; (try k_lt l1); k_cells Y'; (try simp only [List.cons_append, List.nil_append] at N'); (try dsimp only); (try k_lift B'); (try k_fold))))
  (repeat' ((fail_if_success (with_reducible show wpAny _ _ (pyIter _) _ _ _)); (fail_if_success (with_reducible show LoopStepV _ _ _ _ _ _ _ _ _ _)); (fail_if_success (with_reducible show wpAny _ _ (exec (Stmt.While _ _ _ _) _) _ _ _)); first | (k_unfold; (try dsimp only)) | (with_reducible refine wpAny_execs_nil ?_; (try dsimp only)) | (k_end; wrow_close) | walk1 | (dsimp only; walk1) | (dsimp only [List.cons_append, List.nil_append]; walk1) | (leave1; walk_say "STEP leave1"; try dsimp only) | fail "no step"))
  with_unfolding_all refine new0_ok (by k_asm) (by k_asm) (by k_asm) (by k_asm) (by k_asm) rfl (by (((try dsimp only [units_in1, units_deeper, Around.mark_units, units_caller, depth_under_make, depth_under_kw, units_under_make, depth_in1, depth_deeper, depth_caller]); (try dsimp only [ktrTop]); first | with_reducible exact Mine.rB1 (by assumption) rfl | with_reducible exact Mine.rC1 (by assumption) rfl | with_reducible exact Mine.rB2 (by assumption) rfl | with_reducible exact Mine.rC2 (by assumption) rfl | with_reducible exact Mine.rB0 (by assumption) | with_reducible exact Mine.rC0 (by assumption) | exact Mine.rm1 (by assumption) rfl | exact Mine.rm2 (by assumption) rfl | exact Mine.rm3 (by assumption) rfl | exact Mine.rm0 (by assumption) | (have hcL9 := cLine_is; omega (config := {}))))) (by (((try dsimp only [units_in1, units_deeper, Around.mark_units, units_caller, depth_under_make, depth_under_kw, units_under_make, depth_in1, depth_deeper, depth_caller]); (try dsimp only [ktrTop]); first | with_reducible exact Mine.rB1 (by assumption) rfl | with_reducible exact Mine.rC1 (by assumption) rfl | with_reducible exact Mine.rB2 (by assumption) rfl | with_reducible exact Mine.rC2 (by assumption) rfl | with_reducible exact Mine.rB0 (by assumption) | with_reducible exact Mine.rC0 (by assumption) | exact Mine.rm1 (by assumption) rfl | exact Mine.rm2 (by assumption) rfl | exact Mine.rm3 (by assumption) rfl | exact Mine.rm0 (by assumption) | (have hcL9 := cLine_is; omega (config := {}))))) ?_
  intro h1 tk1 x dx b t t1 t2 F1 N1 l1 l2 l3
  replace l2 := ltN l2
  replace l3 := ltN l3
  have nd : ∀ p ∈ news, p.1 ≠ dx := fun p hp => Nat.ne_of_lt (l1 p (.tail _ (.tail _ (.tail _ (.tail _ (.tail _ (.tail _ hp)))))))
  have nl : ∀ p ∈ news, p.1 < dx := fun p hp => (l1 p (.tail _ (.tail _ (.tail _ (.tail _ (.tail _ (.tail _ hp)))))))
  k_lt l1
  try dsimp only
  (repeat' ((fail_if_success (with_reducible show wpAny _ _ (pyIter _) _ _ _)); (fail_if_success (with_reducible show LoopStepV _ _ _ _ _ _ _ _ _ _)); (fail_if_success (with_reducible show wpAny _ _ (exec (Stmt.While _ _ _ _) _) _ _ _)); first | (k_unfold; (try dsimp only)) | (with_reducible refine wpAny_execs_nil ?_; (try dsimp only)) | (k_end; wrow_close) | walk1 | (dsimp only; walk1) | (dsimp only [List.cons_append, List.nil_append]; walk1) | (leave1; walk_say "STEP leave1"; try dsimp only) | fail "no step"))
  refine bs_sub (by k_asm) (by k_asm) (by (repeat (first | assumption | exact List.Mem.head _ | refine' List.Mem.tail _ ?_))) (by (repeat (first | assumption | exact List.Mem.head _ | refine' List.Mem.tail _ ?_))) hb B1 B2 ?_
  intro D od h2 F2 N2 l4 B4
  k_lt l4
  try dsimp only
  (repeat' ((fail_if_success (with_reducible show wpAny _ _ (pyIter _) _ _ _)); (fail_if_success (with_reducible show LoopStepV _ _ _ _ _ _ _ _ _ _)); (fail_if_success (with_reducible show wpAny _ _ (exec (Stmt.While _ _ _ _) _) _ _ _)); first | (k_unfold; (try dsimp only)) | (with_reducible refine wpAny_execs_nil ?_; (try dsimp only)) | (k_end; wrow_close) | walk1 | (dsimp only; walk1) | (dsimp only [List.cons_append, List.nil_append]; walk1) | (leave1; walk_say "STEP leave1"; try dsimp only) | fail "no step"))
  rename Fr h₀ _ _ _ => F9
  rename News h₀ _ _ _ => N9
  exact ret _ _ x dx D od _ _ _ F9 (reordOp N9) B4 nl l2 l4.2.1
end D_F4
namespace D_F5
open D_F3
set_option maxRecDepth 100000 in
set_option maxHeartbeats 8000000 in
theorem is_ok {x1 d1 b1 : Addr} {o1 : Obj} {n1 : Int} {s1 s2 s3 : Tok} {X : Nat} {t9 t8 : Tok} {S1 : Nat → Bool} (M1 : Bm w x1 d1 b1 o1 S1 n1 s1 s2 s3 news) (hX : X < 2 ^ 384) (hS : ∀ k, S1 k = X.testBit k) (hdp : dp + 2 < recursionLimit) (hu : un + 16 < cLine)
    (ret : ∀ (h' : Heap) (tk' : Nat), Fr h₀ L h' m → News h₀ L h' news → Q (.bool true) { s with heap := h', toks := tk' }) :
    wpAny (model prog w) (ktrTop dp un gd cn cs L a ccd cl outer) (call (.ref 180) [.ref x1, .int X t9, .int n1 t8]) Q E s := by
  obtain ⟨a1, a2, a3, B1⟩ := M1
  have N0 : News h₀ L s.heap ((x1, instObj 145 d1) :: (d1, bmDict w b1 n1 s1 s2 s3) :: (b1, o1) :: news) := fun p hp => by
    simp only [List.mem_cons] at hp
    rcases hp with rfl | rfl | rfl | hp <;> exact N _ (by assumption)
  clear N
  refine wpAny_call ?_
  (k_dflt (first | (refine' code_def ?k1 ?k2 ?k3 ?k4 ?k5 ?kA ?kF ?kK ?k6 ?k7 ?k8 ?k9 ?kB ?_ ?c2 ?c3 ?c4 ?c5; (case kA => exact rfl); (case kF => exact rfl); (case kK => first | exact rfl | assumption); (case k1 => k_asm); (case k2 => k_asm); (case k3 => k_asm); (case k4 => k_asm); (case k5 => k_asm); (case k6 => k_is); (case k7 => k_is); (case k8 => first | k_room | ktr_room); (case k9 => first | exact BindsTo.of_eq rfl | exact binds_K (by k_in) rfl (by k_is) rfl rfl rfl | fail "k_enter: no rule for these arguments"); (case c5 => decide); (case kB => exact locs rfl); (case c2 => exact rfl); (case c3 => exact rfl); (case c4 => exact rfl); k_whole; intro g' L' h' FG' F' N' B' X' T'; (try dsimp only); (try k_lift B'); (try k_fold)) | (refine' code_defC ?k1 ?k2 ?k3 ?k4 ?k5 ?kA ?kF ?kK ?k6 ?k7 ?k8 ?k9 ?kB ?kD ?_ ?c2 ?c3 ?c4; (case kA => exact rfl); (case kF => exact rfl); (case kK => first | exact rfl | assumption); (case k1 => k_asm); (case k2 => k_asm); (case k3 => k_asm); (case k4 => k_asm); (case k5 => k_asm); (case k6 => k_is); (case k7 => k_is); (case k8 => first | k_room | ktr_room); (case k9 => first | exact BindsTo.of_eq rfl | exact binds_K (by k_in) rfl (by k_is) rfl rfl rfl | fail "k_enter: no rule for these arguments"); (case kB => exact rfl); (case kD => decide +kernel); (case c2 => exact rfl); (case c3 => exact rfl); (case c4 => exact rfl); k_whole; intro g' L' h' tk' cells' FG' F' N' Y' B' X' T' l1; (try k_lt l1); k_cells Y'; (try simp only [List.cons_append, List.nil_append] at N'); (try dsimp only); (try k_lift B'); (try k_fold))))
  (repeat' ((fail_if_success (with_reducible show wpAny _ _ (pyIter _) _ _ _)); (fail_if_success (with_reducible show LoopStepV _ _ _ _ _ _ _ _ _ _)); (fail_if_success (with_reducible show wpAny _ _ (exec (Stmt.While _ _ _ _) _) _ _ _)); first | (k_unfold; (try dsimp only)) | (with_reducible refine wpAny_execs_nil ?_; (try dsimp only)) | (k_end; wrow_close) | walk1 | (dsimp only; walk1) | (dsimp only [List.cons_append, List.nil_append]; walk1) | (leave1; walk_say "STEP leave1"; try dsimp only) | fail "no step"))
  with_unfolding_all refine bits_ok (by k_asm) (by k_asm) (by k_asm) (by k_asm) (by k_asm) rfl (by (((try dsimp only [units_in1, units_deeper, Around.mark_units, units_caller, depth_under_make, depth_under_kw, units_under_make, depth_in1, depth_deeper, depth_caller]); (try dsimp only [ktrTop]); first | with_reducible exact Mine.rB1 (by assumption) rfl | with_reducible exact Mine.rC1 (by assumption) rfl | with_reducible exact Mine.rB2 (by assumption) rfl | with_reducible exact Mine.rC2 (by assumption) rfl | with_reducible exact Mine.rB0 (by assumption) | with_reducible exact Mine.rC0 (by assumption) | exact Mine.rm1 (by assumption) rfl | exact Mine.rm2 (by assumption) rfl | exact Mine.rm3 (by assumption) rfl | exact Mine.rm0 (by assumption) | (have hcL9 := cLine_is; omega (config := {}))))) (by (((try dsimp only [units_in1, units_deeper, Around.mark_units, units_caller, depth_under_make, depth_under_kw, units_under_make, depth_in1, depth_deeper, depth_caller]); (try dsimp only [ktrTop]); first | with_reducible exact Mine.rB1 (by assumption) rfl | with_reducible exact Mine.rC1 (by assumption) rfl | with_reducible exact Mine.rB2 (by assumption) rfl | with_reducible exact Mine.rC2 (by assumption) rfl | with_reducible exact Mine.rB0 (by assumption) | with_reducible exact Mine.rC0 (by assumption) | exact Mine.rm1 (by assumption) rfl | exact Mine.rm2 (by assumption) rfl | exact Mine.rm3 (by assumption) rfl | exact Mine.rm0 (by assumption) | (have hcL9 := cLine_is; omega (config := {}))))) hX ?_
  intro l vs c h2 tk2 F2 N2 off2 hvs
  have o1' := neN (off2 _ (.head _))
  have o2' := neN (off2 _ (.tail _ (.head _)))
  have o3' := neN (off2 _ (.tail _ (.tail _ (.head _))))
  try dsimp only at o1' o2' o3'
  have hlen : vs.length = (bitList X).length := by
    have := hvs.length; rw [List.length_map] at this; exact this
  have hlen2 : (bitList X).length ≤ 384 := by
    have h1 := bits_len X
    have h2 := intBits_lt hX
    omega
  have hks : ∀ k ∈ bitList X, k < 1024 := fun k hk => by
    have hkX := (mem_bitList X k).mp hk
    exact Nat.lt_of_not_le fun hle => by rw [Nat.testBit_lt_two_pow (Nat.lt_of_lt_of_le hX (Nat.pow_le_pow_right (by decide) (by omega)))] at hkX; cases hkX
  try dsimp only
  (repeat' ((fail_if_success (with_reducible show wpAny _ _ (pyIter _) _ _ _)); (fail_if_success (with_reducible show LoopStepV _ _ _ _ _ _ _ _ _ _)); (fail_if_success (with_reducible show wpAny _ _ (exec (Stmt.While _ _ _ _) _) _ _ _)); first | (k_unfold; (try dsimp only)) | (with_reducible refine wpAny_execs_nil ?_; (try dsimp only)) | (k_end; wrow_close) | walk1 | (dsimp only; walk1) | (dsimp only [List.cons_append, List.nil_append]; walk1) | (leave1; walk_say "STEP leave1"; try dsimp only) | fail "no step"))
  refine bs_list (by k_asm) (by k_asm) (by rfl) (by (repeat (first | assumption | exact List.Mem.head _ | refine' List.Mem.tail _ ?_))) hvs hks ?_
  intro D od h3 tk3 F3 N3 l4 B4
  k_lt l4
  try dsimp only
  refine bs_eq (by (((try dsimp only [units_in1, units_deeper, Around.mark_units, units_caller, depth_under_make, depth_under_kw, units_under_make, depth_in1, depth_deeper, depth_caller]); (try dsimp only [ktrTop]); first | with_reducible exact Mine.rB1 (by assumption) rfl | with_reducible exact Mine.rC1 (by assumption) rfl | with_reducible exact Mine.rB2 (by assumption) rfl | with_reducible exact Mine.rC2 (by assumption) rfl | with_reducible exact Mine.rB0 (by assumption) | with_reducible exact Mine.rC0 (by assumption) | exact Mine.rm1 (by assumption) rfl | exact Mine.rm2 (by assumption) rfl | exact Mine.rm3 (by assumption) rfl | exact Mine.rm0 (by assumption) | (have hcL9 := cLine_is; omega (config := {}))))) (by k_asm) (by (repeat (first | assumption | exact List.Mem.head _ | refine' List.Mem.tail _ ?_))) (by (repeat (first | assumption | exact List.Mem.head _ | refine' List.Mem.tail _ ?_))) B1 B4 (fun k => by rw [hS, Bool.eq_iff_iff, decide_eq_true_eq]; exact (mem_bitList X k).symm) ?_
  (repeat' ((fail_if_success (with_reducible show wpAny _ _ (pyIter _) _ _ _)); (fail_if_success (with_reducible show LoopStepV _ _ _ _ _ _ _ _ _ _)); (fail_if_success (with_reducible show wpAny _ _ (exec (Stmt.While _ _ _ _) _) _ _ _)); first | (k_unfold; (try dsimp only)) | (with_reducible refine wpAny_execs_nil ?_; (try dsimp only)) | (k_end; wrow_close) | walk1 | (dsimp only; walk1) | (dsimp only [List.cons_append, List.nil_append]; walk1) | (leave1; walk_say "STEP leave1"; try dsimp only) | fail "no step"))
  · ((refine wpAny_call ?_; (k_dflt (first | (refine' code_def ?k1 ?k2 ?k3 ?k4 ?k5 ?kA ?kF ?kK ?k6 ?k7 ?k8 ?k9 ?kB ?_ ?c2 ?c3 ?c4 ?c5; (case kA => exact rfl); (case kF => exact rfl); (case kK => first | exact rfl | assumption); (case k1 => k_asm); (case k2 => k_asm); (case k3 => k_asm); (case k4 => k_asm); (case k5 => k_asm); (case k6 => k_is); (case k7 => k_is); (case k8 => first | k_room | ktr_room); (case k9 => first | exact BindsTo.of_eq rfl | exact binds_K (by k_in) rfl (by k_is) rfl rfl rfl | fail "k_enter: no rule for these arguments"); (case c5 => decide); (case kB => exact locs rfl); (case c2 => exact rfl); (case c3 => exact rfl); (case c4 => exact rfl); k_whole; intro g' L' h' FG' F' N' B' X' T'; (try dsimp only); (try k_lift B'); (try k_fold)) | (refine' code_defC ?k1 ?k2 ?k3 ?k4 ?k5 ?kA ?kF ?kK ?k6 ?k7 ?k8 ?k9 ?kB ?kD ?_ ?c2 ?c3 ?c4; (case kA => exact rfl); (case kF => exact rfl); (case kK => first | exact rfl | assumption); (case k1 => k_asm); (case k2 => k_asm); (case k3 => k_asm); (case k4 => k_asm); (case k5 => k_asm); (case k6 => k_is); (case k7 => k_is); (case k8 => first | k_room | ktr_room); (case k9 => first | exact BindsTo.of_eq rfl | exact binds_K (by k_in) rfl (by k_is) rfl rfl rfl | fail "k_enter: no rule for these arguments"); (case kB => exact rfl); (case kD => decide +kernel); (case c2 => exact rfl); (case c3 => exact rfl); (case c4 => exact rfl); k_whole; intro g' L' h' tk' cells' FG' F' N' Y' B' X' T' l1; (try k_lt l1); k_cells Y'; (try simp only [List.cons_append, List.nil_append] at N'); (try dsimp only); (try k_lift B'); (try k_fold))))))
    (repeat' ((fail_if_success (with_reducible show wpAny _ _ (pyIter _) _ _ _)); (fail_if_success (with_reducible show LoopStepV _ _ _ _ _ _ _ _ _ _)); (fail_if_success (with_reducible show wpAny _ _ (exec (Stmt.While _ _ _ _) _) _ _ _)); first | (k_unfold; (try dsimp only)) | (with_reducible refine wpAny_execs_nil ?_; (try dsimp only)) | (k_end; wrow_close) | walk1 | (dsimp only; walk1) | (dsimp only [List.cons_append, List.nil_append]; walk1) | (leave1; walk_say "STEP leave1"; try dsimp only) | fail "no step"))
    refine bs_len (ks := bitList X) (by k_asm) (by (repeat (first | assumption | exact List.Mem.head _ | refine' List.Mem.tail _ ?_))) B1 (nodup_bitList X) (fun k => by rw [hS]; exact mem_bitList X k) ?_
    try dsimp only
    (repeat' ((fail_if_success (with_reducible show wpAny _ _ (pyIter _) _ _ _)); (fail_if_success (with_reducible show LoopStepV _ _ _ _ _ _ _ _ _ _)); (fail_if_success (with_reducible show wpAny _ _ (exec (Stmt.While _ _ _ _) _) _ _ _)); first | (k_unfold; (try dsimp only)) | (with_reducible refine wpAny_execs_nil ?_; (try dsimp only)) | (k_end; wrow_close) | walk1 | (dsimp only; walk1) | (dsimp only [List.cons_append, List.nil_append]; walk1) | (leave1; walk_say "STEP leave1"; try dsimp only) | fail "no step"))
    rw [show ((((bitList X).length : Nat) : Int) == ((vs.length : Nat) : Int)) = true from by rw [hlen]; exact beq_self_eq_true _]
    rename Fr h₀ _ _ _ => F9
    rename News h₀ _ _ _ => N9
    exact ret _ _ F9 fun p hp => N9 p (.tail _ (.tail _ (.tail _ (.tail _ (.tail _ hp)))))
  · rename n1 ≠ n1 => hne
    exact absurd rfl hne
end D_F5
namespace D_F6
open D_F2
open D_F3
def EJ (W : List Nat) (lw lc : Addr) (news0 : List (Addr × Obj)) (n : Nat) (m : Str → Option Value) (news : List (Addr × Obj)) : Prop :=
  ∃ k z tz C cs cc, m "words" = some (.ref lw) ∧ m "compressed_words" = some (.ref lc) ∧ m "i" = some (.int z tz) ∧ z = ((k : Nat) : Int) ∧ k ≤ W.length ∧ n = W.length - k ∧
    news = (lc, listOf cs.toArray cc) :: news0 ∧ IntsAre cs (asInts C) ∧ encW W = C ++ encW (W.drop k) ∧ C.length ≤ 2 * k
def RX (W : List Nat) (lw lc : Addr) (k x : Nat) (v : Int) (newsA : List (Addr × Obj)) (r : Nat) (m : Str → Option Value) (news : List (Addr × Obj)) : Prop :=
  ∃ z tz zr tr tv, m "words" = some (.ref lw) ∧ m "compressed_words" = some (.ref lc) ∧ m "i" = some (.int z tz) ∧ m "run_value" = some (.int v tv) ∧ m "run_length" = some (.int zr tr) ∧
    z = ((k + r : Nat) : Int) ∧ zr = ((r : Nat) : Int) ∧ k + r ≤ W.length ∧ news = newsA ∧ ∀ j < r, W.getD (k + j) 0 = x
def LX (W : List Nat) (lw lc ll : Addr) (k : Nat) (rv rl : Option Value) (newsA : List (Addr × Obj)) (l : Nat) (m : Str → Option Value) (news : List (Addr × Obj)) : Prop :=
  ∃ z tz ls cl', m "words" = some (.ref lw) ∧ m "compressed_words" = some (.ref lc) ∧ m "literals" = some (.ref ll) ∧ m "i" = some (.int z tz) ∧ m "run_value" = rv ∧ m "run_length" = rl ∧
    z = ((k + l : Nat) : Int) ∧ k + l ≤ W.length ∧ news = (ll, listOf ls.toArray cl') :: newsA ∧ IntsAre ls (asInts ((W.drop k).take l)) ∧ ∀ j < l, isLit (W.getD (k + j) 0) = true
def RJ (W : List Nat) (lw : Addr) (k x : Nat) (v : Int) (p : Addr × List (Addr × Obj)) (n : Nat) (m : Str → Option Value) (news : List (Addr × Obj)) : Prop :=
  ∃ r, RX W lw p.1 k x v p.2 r m news ∧ n = W.length - (k + r)
def RE (W : List Nat) (lw : Addr) (k x : Nat) (v : Int) (p : Addr × List (Addr × Obj)) (m : Str → Option Value) (news : List (Addr × Obj)) : Prop :=
  ∃ r, RX W lw p.1 k x v p.2 r m news ∧ (k + r = W.length ∨ W.getD (k + r) 0 ≠ x)
omit B F KI N T hk in
theorem run_more {W : List Nat} {k r x : Nat} (h : ∀ j < r, W.getD (k + j) 0 = x) (hv : W.getD (k + r) 0 = x) : ∀ j < r + 1, W.getD (k + j) 0 = x := fun j hj => by
  rcases Nat.lt_succ_iff_lt_or_eq.mp hj with h' | rfl
  · exact h j h'
  · exact hv
omit B F KI N T hk in
theorem is_lit {x : Nat} (h0 : x ≠ 0) (h1 : x ≠ 18446744073709551615) : isLit x = true := by
  unfold isLit
  simp only [Bool.and_eq_true, bne_iff_ne]
  exact ⟨h0, h1⟩
omit B F KI N T hk in
theorem ints_snoc {W : List Nat} {ls : List Value} {kk l : Nat} {z : Int} {t : Tok} (h : IntsAre ls (asInts ((W.drop kk).take l))) (hz : z = ((kk + l : Nat) : Int)) (hlt : kk + l < W.length) :
    IntsAre (ls ++ [.int ((asInts W).getD z.toNat 0) t]) (asInts ((W.drop kk).take (l + 1))) := by
  have e : (W.drop kk).take (l + 1) = (W.drop kk).take l ++ [W.getD (kk + l) 0] := by
    rw [List.take_add_one, List.getElem?_drop, List.getD_eq_getElem?_getD, List.getElem?_eq_getElem hlt]
    rfl
  rw [e, hz, Int.toNat_natCast, getD_ints, asInts, List.map_append]
  exact h.append (.cons _ _ .nil)
omit B F KI N T hk in
theorem hdr_val {l r x b : Nat} (hb : b = if x = 2 ^ 64 - 1 then 1 else 0) : Builtin.bitOr (Builtin.bitOr (((l : Nat) : Int) * 2 ^ Int.toNat 33) (((r : Nat) : Int) * 2 ^ Int.toNat 1)) ((b : Nat) : Int) = ((hdrOf l r x : Nat) : Int) := by
  rw [show Int.toNat 33 = 33 from rfl, show Int.toNat 1 = 1 from rfl, shl_cast, shl_cast, bitOr_nat, bitOr_nat, hb]
  rfl
omit B F KI N T hk in
theorem enc_turn {h₀ : Heap} {L lw lc ll : Addr} {s₁ : Shared} {h' : Heap} {tk : Nat} {ol : Obj} {W C : List Nat} {cs ls : List Value} {newsA : List (Addr × Obj)} {m₂ : Str → Option Value} {n k r l x b c4 : Nat} {z zr : Int} {tz tH : Tok}
    (F : Fr h₀ L h' m₂) (N : News h₀ L h' ((ll, ol) :: (lc, listOf ((cs.toArray.push (.int (Builtin.bitOr (Builtin.bitOr (((ls.length : Nat) : Int) * 2 ^ Int.toNat 33) (zr * 2 ^ Int.toNat 1)) ((b : Nat) : Int)) tH)).toList ++ ls).toArray c4) :: newsA))
    (e1 : m₂ "words" = some (.ref lw)) (e2 : m₂ "compressed_words" = some (.ref lc)) (e3 : m₂ "i" = some (.int z tz)) (hb : b = if x = 2 ^ 64 - 1 then 1 else 0) (hz : z = ((k + r + l : Nat) : Int)) (hzr : zr = ((r : Nat) : Int)) (hll : ls.length = l)
    (hC : IntsAre cs (asInts C)) (hE : encW W = C ++ encW (W.drop k)) (hCl : C.length ≤ 2 * k) (hn : n = W.length - k) (hk : k < W.length) (hx : W.getD k 0 = x) (hr0 : isLit x = true → r = 0) (hrun : ∀ j < r, W.getD (k + j) 0 = x) (hend : isLit x = false → k + r = W.length ∨ W.getD (k + r) 0 ≠ x)
    (hl : k + r + l ≤ W.length) (hls : IntsAre ls (asInts ((W.drop (k + r)).take l))) (hlit : ∀ j < l, isLit (W.getD (k + r + j) 0) = true) (hlend : k + r + l = W.length ∨ isLit (W.getD (k + r + l) 0) = false) :
    WhileStep h₀ L s₁ (EJ W lw lc newsA) n .next { s₁ with heap := h', toks := tk } := by
  have hpos : 0 < r + l := by
    refine Nat.pos_of_ne_zero fun h0 => ?_
    have h1 : r = 0 := by omega
    have h2 : l = 0 := by omega
    subst h1 h2
    cases hl' : isLit x with
    | true =>
      rcases hlend with h | h
      · omega
      · simp only [Nat.add_zero] at h; rw [hx, hl'] at h; cases h
    | false =>
      rcases hend hl' with h | h
      · omega
      · simp only [Nat.add_zero] at h; exact h hx
  have hch := enc_chunk hk hx hr0 (by omega) hrun hend hl hlit hlend
  rw [hzr, hll, hdr_val hb] at N
  refine WhileStep.intro (n' := W.length - (k + r + l)) F (fun p hp => N p (.tail _ hp)) (by omega) ⟨k + r + l, z, tz, C ++ (hdrOf l r x :: (W.drop (k + r)).take l), _, c4, e1, e2, e3, hz, hl, rfl, rfl, ?_, ?_, ?_⟩
  · rw [Array.toList_push, asInts, List.map_append, List.map_cons, List.append_assoc]
    exact hC.append (.cons _ _ hls)
  · rw [hE, hch, List.append_assoc, List.cons_append]
  · rw [List.length_append, List.length_cons, List.length_take, List.length_drop]
    omega
omit B F KI N T hk in
theorem drop2 {h : Heap} {p1 p2 : Addr × Obj} {r : List (Addr × Obj)} (N : News h₀ L h (p1 :: p2 :: r)) : News h₀ L h (p1 :: r) :=
  fun p hp => N p (by simp only [List.mem_cons] at hp ⊢; rcases hp with h | h <;> simp [h])
omit B F KI N T hk in
theorem allLt_to {d : Addr} : ∀ {l : List (Addr × Obj)}, AllLt d l → ∀ p ∈ l, p.1 < d
  | [], _, _, h => nomatch h
  | _ :: _, h, p, hp => by
    rcases List.mem_cons.mp hp with rfl | hp
    · exact h.1
    · exact allLt_to h.2 p hp
omit B F KI N T hk in
theorem lit_more {W : List Nat} {k l : Nat} (h : ∀ j < l, isLit (W.getD (k + j) 0) = true) (hv : isLit (W.getD (k + l) 0) = true) : ∀ j < l + 1, isLit (W.getD (k + j) 0) = true := fun j hj => by
  rcases Nat.lt_succ_iff_lt_or_eq.mp hj with h' | rfl
  · exact h j h'
  · exact hv
def LJ (W : List Nat) (lw : Addr) (k : Nat) (p : Addr × Addr × Option Value × Option Value × List (Addr × Obj)) (n : Nat) (m : Str → Option Value) (news : List (Addr × Obj)) : Prop :=
  ∃ l, LX W lw p.1 p.2.1 k p.2.2.1 p.2.2.2.1 p.2.2.2.2 l m news ∧ n = W.length - (k + l)
def LE (W : List Nat) (lw : Addr) (k : Nat) (p : Addr × Addr × Option Value × Option Value × List (Addr × Obj)) (m : Str → Option Value) (news : List (Addr × Obj)) : Prop :=
  ∃ l, LX W lw p.1 p.2.1 k p.2.2.1 p.2.2.2.1 p.2.2.2.2 l m news ∧ (k + l = W.length ∨ isLit (W.getD (k + l) 0) = false)
omit B F KI N T hk in
theorem not_lit {x r : Nat} (hx : x = 0 ∨ x = 18446744073709551615) (h : isLit x = true) : r = 0 := by
  rcases hx with rfl | rfl <;> exact absurd h (by decide)
set_option maxRecDepth 100000 in
set_option maxHeartbeats 8000000 in
theorem enc_ok {lw : Addr} {ws : List Value} {cw : Nat} {W : List Nat} (hw : (lw, listOf ws.toArray cw) ∈ news) (hi : IntsAre ws (asInts W)) (hW : W.length ≤ 6) (hW2 : ∀ x ∈ W, x < 2 ^ 64) (hdp : dp + 1 < recursionLimit) (hu : un + 8 < cLine)
    (ret : ∀ (h' : Heap) (tk' : Nat) l vs c, Fr h₀ L h' m → News h₀ L h' ((l, listOf vs.toArray c) :: news) → IntsAre vs (asInts (encW W)) → (∀ p ∈ news, p.1 < l) → Q (.ref l) { s with heap := h', toks := tk' }) :
    wpAny (model prog w) (ktrTop dp un gd cn cs L a ccd cl outer) (call (.ref 64) [.ref lw]) Q E s := by
  have hlen : ws.length = W.length := by have := hi.length; rw [List.length_map] at this; exact this
  have N0 : News h₀ L s.heap ((lw, listOf ws.toArray cw) :: news) := fun p hp => by
    rcases List.mem_cons.mp hp with rfl | hp
    · exact N _ hw
    · exact N _ hp
  clear N
  have hwl : ws.length ≤ 6 := by omega
  have hws63 : ((ws.length : Nat) : Int) < 2 ^ 63 := n63 (Nat.le_trans hwl (by decide))
  refine wpAny_call ?_
  (k_dflt (first | (refine' code_def ?k1 ?k2 ?k3 ?k4 ?k5 ?kA ?kF ?kK ?k6 ?k7 ?k8 ?k9 ?kB ?_ ?c2 ?c3 ?c4 ?c5; (case kA => exact rfl); (case kF => exact rfl); (case kK => first | exact rfl | assumption); (case k1 => k_asm); (case k2 => k_asm); (case k3 => k_asm); (case k4 => k_asm); (case k5 => k_asm); (case k6 => k_is); (case k7 => k_is); (case k8 => first | k_room | ktr_room); (case k9 => first | exact BindsTo.of_eq rfl | exact binds_K (by k_in) rfl (by k_is) rfl rfl rfl | fail "k_enter: no rule for these arguments"); (case c5 => decide); (case kB => exact locs rfl); (case c2 => exact rfl); (case c3 => exact rfl); (case c4 => exact rfl); k_whole; intro g' L' h' FG' F' N' B' X' T'; (try dsimp only); (try k_lift B'); (try k_fold)) | (refine' code_defC ?k1 ?k2 ?k3 ?k4 ?k5 ?kA ?kF ?kK ?k6 ?k7 ?k8 ?k9 ?kB ?kD ?_ ?c2 ?c3 ?c4; (case kA => exact rfl); (case kF => exact rfl); (case kK => first | exact rfl | assumption); (case k1 => k_asm); (case k2 => k_asm); (case k3 => k_asm); (case k4 => k_asm); (case k5 => k_asm); (case k6 => k_is); (case k7 => k_is); (case k8 => first | k_room | ktr_room); (case k9 => first | exact BindsTo.of_eq rfl | exact binds_K (by k_in) rfl (by k_is) rfl rfl rfl | fail "k_enter: no rule for these arguments"); (case kB => exact rfl); (case kD => decide +kernel); (case c2 => exact rfl); (case c3 => exact rfl); (case c4 => exact rfl); k_whole; intro g' L' h' tk' cells' FG' F' N' Y' B' X' T' l1; (try k_lt l1); k_cells Y'; (try simp only [List.cons_append, List.nil_append] at N'); (try dsimp only); (try k_lift B'); (try k_fold))))
  (repeat' ((fail_if_success (with_reducible show wpAny _ _ (pyIter _) _ _ _)); (fail_if_success (with_reducible show LoopStepV _ _ _ _ _ _ _ _ _ _)); (fail_if_success (with_reducible show wpAny _ _ (exec (Stmt.While _ _ _ _) _) _ _ _)); first | (k_unfold; (try dsimp only)) | (with_reducible refine wpAny_execs_nil ?_; (try dsimp only)) | (k_end; wrow_close) | (walk1; (try dsimp only)) | (dsimp only; walk1) | (dsimp only [List.cons_append, List.nil_append]; walk1) | (leave1; walk_say "STEP leave1"; try dsimp only) | fail "no step"))
  rename Fr _ _ _ _ => F1
  rename News _ _ _ _ => N1
  refine While_inv (n₀ := W.length) (EJ W lw _ ((lw, listOf ws.toArray cw) :: news)) F1 N1 ⟨0, _, _, [], [], _, rfl, rfl, rfl, rfl, Nat.zero_le _, rfl, rfl, .nil, rfl, Nat.le_refl _⟩ ?_
  rintro n m₁ news₁ h₁ tk₁ F2 N2 ⟨k, z, tz, C, cs, cc, e1, e2, e3, hz, hk, hn, rfl, hC, hE, hCl⟩
  have F3 := fr_name (x := "words") (fr_name (x := "compressed_words") (fr_name (x := "i") F2 e3) (by with_unfolding_all exact e2)) (by with_unfolding_all exact e1)
  clear F2
  try dsimp only
  (repeat' ((fail_if_success (with_reducible show wpAny _ _ (pyIter _) _ _ _)); (fail_if_success (with_reducible show LoopStepV _ _ _ _ _ _ _ _ _ _)); (fail_if_success (with_reducible show wpAny _ _ (exec (Stmt.If _ _ _ _) _) _ _ _)); (fail_if_success (with_reducible show wpAny _ _ (exec (Stmt.While _ _ _ _) _) _ _ _)); first | (k_unfold; (try dsimp only)) | (with_reducible refine wpAny_execs_nil ?_; (try dsimp only)) | (k_end; wrow_close) | walk1 | (dsimp only; walk1) | (dsimp only [List.cons_append, List.nil_append]; walk1) | (leave1; walk_say "STEP leave1"; try dsimp only) | fail "no step"))
  · rename Fr _ _ _ _ => F4
    rename News _ _ _ _ => N4
    rename _ < ((ws.length : Nat) : Int) => hlt
    have hkW : k < W.length := zN hz hlt hlen
    have hcsl : cs.length ≤ 12 := by have := hC.length; rw [List.length_map] at this; exact c12 this hCl hkW hW
    have hC9 : C.length ≤ 16777216 := by have := hC.length; rw [List.length_map] at this; rw [← this]; exact Nat.le_trans hcsl (by decide)
    have hv9 : (asInts W).getD z.toNat 0 = ((W.getD k 0 : Nat) : Int) := by rw [hz, Int.toNat_natCast, getD_ints]
    refine If_same F4 N4 (W.getD k 0 = 0 ∨ W.getD k 0 = 18446744073709551615) ?_ ?_
    · (repeat' ((fail_if_success (with_reducible show wpAny _ _ (pyIter _) _ _ _)); (fail_if_success (with_reducible show LoopStepV _ _ _ _ _ _ _ _ _ _)); (fail_if_success (with_reducible show wpAny _ _ (exec (Stmt.While _ _ _ _) _) _ _ _)); first | (k_unfold; (try dsimp only)) | (with_reducible refine wpAny_execs_nil ?_; (try dsimp only)) | (k_end; wrow_close) | (walk1; (try dsimp only)) | (dsimp only; walk1) | (dsimp only [List.cons_append, List.nil_append]; walk1) | (leave1; walk_say "STEP leave1"; try dsimp only) | fail "no step"))
      · rename _ = (0 : Int) => hx0
        rename Fr _ _ _ _ => F5
        rename News _ _ _ _ => N5
        exact Same.intro F5 N5 (.inl (litE (n := 0) (hv9.symm.trans hx0)))
      · rename _ = (18446744073709551615 : Int) => hx0
        rename Fr _ _ _ _ => F5
        rename News _ _ _ _ => N5
        exact Same.intro F5 N5 (.inr (litE (n := 18446744073709551615) (hv9.symm.trans hx0)))
      · rename (asInts W).getD z.toNat 0 ≠ 0 => hx0
        rename (asInts W).getD z.toNat 0 ≠ 18446744073709551615 => hx2
        rw [hv9] at hx0 hx2
        have hxl : isLit (W.getD k 0) = true := is_lit (litNE hx0) (litNE hx2)
        rename Fr _ _ _ _ => G4
        rename News _ _ _ _ => P4
        refine While_par (n₀ := W.length - (k + 0)) (LJ W lw (k + 0)) (LE W lw (k + 0)) (_, _, _, _, _) G4 P4 ⟨0, ⟨_, _, [], _, (by with_unfolding_all rfl), (by with_unfolding_all rfl), (by with_unfolding_all rfl), (by with_unfolding_all rfl), rfl, rfl, hz, hk, rfl, by simpa using IntsAre.nil, fun j hj => absurd hj (Nat.not_lt_zero j)⟩, rfl⟩ ?_ ?_
        · rintro n m₃ news₃ h₃ tk₃ G5 P5 ⟨l, hX3, hn3⟩
          dsimp only at hX3
          obtain ⟨z3, tz3, ls, cl3, p1, p2, p3, p4, p5, p6, hz3, hkl, rfl, hls, hlit⟩ := hX3
          have hll : ls.length = l := by have := hls.length; rw [List.length_map, List.length_take, List.length_drop] at this; exact minL this hkl
          have hl6 : ls.length ≤ 6 := hll ▸ Nat.le_trans (Nat.le_trans (Nat.le_add_left _ _) hkl) hW
          have hl12 : ls.length ≤ 12 := Nat.le_trans hl6 (by decide)
          have hls63 := n63 hl12
          have hls63s := n63s hl12
          have hmn := minB (l := l) (x := k + 0) hW
          have G6 := fr_name (x := "words") (fr_name (x := "compressed_words") (fr_name (x := "literals") (fr_name (x := "i") G5 p4) (by with_unfolding_all exact p3)) (by with_unfolding_all exact p2)) (by with_unfolding_all exact p1)
          clear G5
          try dsimp only
          (repeat' ((fail_if_success (with_reducible show wpAny _ _ (pyIter _) _ _ _)); (fail_if_success (with_reducible show LoopStepV _ _ _ _ _ _ _ _ _ _)); (fail_if_success (with_reducible show wpAny _ _ (exec (Stmt.While _ _ _ _) _) _ _ _)); first | (k_unfold; (try dsimp only)) | (with_reducible refine wpAny_execs_nil ?_; (try dsimp only)) | (k_end; wrow_close) | (walk1; (try dsimp only)) | (dsimp only; walk1) | (dsimp only [List.cons_append, List.nil_append]; walk1) | (leave1; walk_say "STEP leave1"; try dsimp only) | fail "no step"))
          · rename 2147483647 ≤ _ => hbig
            rw [List.length_append, List.length_singleton] at hbig
            exact (big9 hl12 hbig).elim
          · rename (asInts W).getD z3.toNat 0 ≠ 18446744073709551615 => hv1
            rename (asInts W).getD z3.toNat 0 ≠ 0 => hv0
            rename z3 < _ => hlt2
            rename Fr _ _ _ _ => F9
            rename News _ _ _ _ => N9
            rw [hz3, Int.toNat_natCast, getD_ints] at hv0 hv1
            have hlW : k + 0 + l < W.length := zN hz3 hlt2 hlen
            exact WhileStep.intro (n' := W.length - (k + 0 + (l + 1))) F9 N9 (meas hn3 hlW) ⟨l + 1, ⟨_, _, _, _, (by with_unfolding_all exact rfl), (by with_unfolding_all exact rfl), (by with_unfolding_all exact rfl), (by with_unfolding_all exact rfl), (by with_unfolding_all exact p5), (by with_unfolding_all exact p6), sx2 hz3, hlW, rfl, ints_snoc hls hz3 hlW, lit_more hlit (is_lit (litNE hv0) (litNE hv1))⟩, rfl⟩
          · rename (asInts W).getD z3.toNat 0 = _ => hv
            rename Fr _ _ _ _ => F9
            rename News _ _ _ _ => N9
            rw [hz3, Int.toNat_natCast, getD_ints] at hv
            exact Out.intro F9 N9 ⟨l, ⟨_, _, _, _, (by with_unfolding_all exact rfl), (by with_unfolding_all exact rfl), (by with_unfolding_all exact rfl), (by with_unfolding_all exact rfl), (by with_unfolding_all exact p5), (by with_unfolding_all exact p6), hz3, hkl, rfl, hls, hlit⟩, .inr (by rw [litE (n := 18446744073709551615) hv]; rfl)⟩
          · rename (asInts W).getD z3.toNat 0 = _ => hv
            rename Fr _ _ _ _ => F9
            rename News _ _ _ _ => N9
            rw [hz3, Int.toNat_natCast, getD_ints] at hv
            exact Out.intro F9 N9 ⟨l, ⟨_, _, _, _, (by with_unfolding_all exact rfl), (by with_unfolding_all exact rfl), (by with_unfolding_all exact rfl), (by with_unfolding_all exact rfl), (by with_unfolding_all exact p5), (by with_unfolding_all exact p6), hz3, hkl, rfl, hls, hlit⟩, .inr (by rw [litE (n := 0) hv]; rfl)⟩
          · rename ¬ z3 < _ => hlt2
            rename Fr _ _ _ _ => F9
            rename News _ _ _ _ => N9
            exact Out.intro F9 N9 ⟨l, ⟨_, _, _, _, (by with_unfolding_all exact rfl), (by with_unfolding_all exact rfl), (by with_unfolding_all exact rfl), (by with_unfolding_all exact rfl), (by with_unfolding_all exact p5), (by with_unfolding_all exact p6), hz3, hkl, rfl, hls, hlit⟩, .inl (znN hz3 hlt2 hlen hkl)⟩
        · rintro m₃ news₃ h₃ tk₃ G5 P5 ⟨l, hX3, hend3⟩
          dsimp only at hX3
          obtain ⟨z3, tz3, ls, cl3, p1, p2, p3, p4, p5, p6, hz3, hkl, rfl, hls, hlit⟩ := hX3
          have hll : ls.length = l := by have := hls.length; rw [List.length_map, List.length_take, List.length_drop] at this; exact minL this hkl
          have hl6 : ls.length ≤ 6 := hll ▸ Nat.le_trans (Nat.le_trans (Nat.le_add_left _ _) hkl) hW
          have hl12 : ls.length ≤ 12 := Nat.le_trans hl6 (by decide)
          have hls63 := n63 hl12
          have hls63s := n63s hl12
          have hmn := minB (l := l) (x := k + 0) hW
          have G6 := fr_name (x := "words") (fr_name (x := "compressed_words") (fr_name (x := "literals") (fr_name (x := "i") G5 p4) (by with_unfolding_all exact p3)) (by with_unfolding_all exact p2)) (by with_unfolding_all exact p1)
          clear G5
          try dsimp only
          (repeat' ((fail_if_success (with_reducible show wpAny _ _ (pyIter _) _ _ _)); (fail_if_success (with_reducible show LoopStepV _ _ _ _ _ _ _ _ _ _)); (fail_if_success (with_reducible show wpAny _ _ (binaryOp Operator.LShift _ _) _ _ _)); (fail_if_success (with_reducible show wpAny _ _ (exec (Stmt.While _ _ _ _) _) _ _ _)); first | (k_unfold; (try dsimp only)) | (with_reducible refine wpAny_execs_nil ?_; (try dsimp only)) | (k_end; wrow_close) | (walk1; (try dsimp only)) | (dsimp only; walk1) | (dsimp only [List.cons_append, List.nil_append]; walk1) | (leave1; walk_say "STEP leave1"; try dsimp only) | fail "no step"))
          refine lshift_int_small (by decide) (by decide) (by first | exact nAbs hl12 | omega) ?_
          try dsimp only
          (repeat' ((fail_if_success (with_reducible show wpAny _ _ (pyIter _) _ _ _)); (fail_if_success (with_reducible show LoopStepV _ _ _ _ _ _ _ _ _ _)); (fail_if_success (with_reducible show wpAny _ _ (binaryOp Operator.LShift _ _) _ _ _)); (fail_if_success (with_reducible show wpAny _ _ (exec (Stmt.While _ _ _ _) _) _ _ _)); first | (k_unfold; (try dsimp only)) | (with_reducible refine wpAny_execs_nil ?_; (try dsimp only)) | (k_end; wrow_close) | (walk1; (try dsimp only)) | (dsimp only; walk1) | (dsimp only [List.cons_append, List.nil_append]; walk1) | (leave1; walk_say "STEP leave1"; try dsimp only) | fail "no step"))
          refine lshift_int_small (by decide) (by decide) (by first | exact nAbs hl12 | omega) ?_
          try dsimp only
          (repeat' ((fail_if_success (with_reducible show wpAny _ _ (pyIter _) _ _ _)); (fail_if_success (with_reducible show LoopStepV _ _ _ _ _ _ _ _ _ _)); (fail_if_success (with_reducible show wpAny _ _ (exec (Stmt.While _ _ _ _) _) _ _ _)); first | (k_unfold; (try dsimp only)) | (with_reducible refine wpAny_execs_nil ?_; (try dsimp only)) | (k_end; wrow_close) | (walk1; (try dsimp only)) | (dsimp only; walk1) | (dsimp only [List.cons_append, List.nil_append]; walk1) | (leave1; walk_say "STEP leave1"; try dsimp only) | fail "no step"))
          refine ext_ok (by k_asm) (by k_asm) (by (repeat (first | assumption | exact List.Mem.head _ | refine' List.Mem.tail _ ?_))) (by k_updF) (by simp only [Array.size_push, List.size_toArray]; exact sum19 hcsl hl6) ?_
          intro h4 c4 F4' N4'
          try dsimp only at N4'
          (repeat' ((fail_if_success (with_reducible show wpAny _ _ (pyIter _) _ _ _)); (fail_if_success (with_reducible show LoopStepV _ _ _ _ _ _ _ _ _ _)); (fail_if_success (with_reducible show wpAny _ _ (exec (Stmt.While _ _ _ _) _) _ _ _)); first | (k_unfold; (try dsimp only)) | (with_reducible refine wpAny_execs_nil ?_; (try dsimp only)) | (k_end; wrow_close) | (walk1; (try dsimp only)) | (dsimp only; walk1) | (dsimp only [List.cons_append, List.nil_append]; walk1) | (leave1; walk_say "STEP leave1"; try dsimp only) | fail "no step"))
          rename Fr _ _ _ _ => F9
          rename News _ _ _ _ => N9
          exact enc_turn (x := W.getD k 0) (r := 0) (b := 0) F9 N9 (by with_unfolding_all rfl) (by with_unfolding_all rfl) (by with_unfolding_all rfl) (if_neg (litNE (n := 18446744073709551615) hx2)).symm hz3 rfl hll hC hE hCl hn hkW rfl (fun _ => rfl) (fun j hj => absurd hj (Nat.not_lt_zero j)) (fun h => absurd hxl (by rw [h]; decide)) hkl hls hlit hend3
    · intro h5 tk5 F5 N5 hx
      try dsimp only
      (repeat' ((fail_if_success (with_reducible show wpAny _ _ (pyIter _) _ _ _)); (fail_if_success (with_reducible show LoopStepV _ _ _ _ _ _ _ _ _ _)); (fail_if_success (with_reducible show wpAny _ _ (exec (Stmt.While _ _ _ _) _) _ _ _)); first | (k_unfold; (try dsimp only)) | (with_reducible refine wpAny_execs_nil ?_; (try dsimp only)) | (k_end; wrow_close) | (walk1; (try dsimp only)) | (dsimp only; walk1) | (dsimp only [List.cons_append, List.nil_append]; walk1) | (leave1; walk_say "STEP leave1"; try dsimp only) | fail "no step"))
      rename Fr _ _ _ _ => F6
      rename News _ _ _ _ => N6
      rw [hv9] at F6
      refine While_par (n₀ := W.length - k) (RJ W lw k (W.getD k 0) ((W.getD k 0 : Nat) : Int)) (RE W lw k (W.getD k 0) ((W.getD k 0 : Nat) : Int)) (_, _) F6 N6 ⟨0, ⟨_, _, _, _, _, (by with_unfolding_all rfl), (by with_unfolding_all rfl), (by with_unfolding_all rfl), (by with_unfolding_all rfl), (by with_unfolding_all rfl), hz, rfl, hk, rfl, fun j hj => absurd hj (Nat.not_lt_zero j)⟩, rfl⟩ ?_ ?_
      · rintro n m₂ news₂ h₂ tk₂ F5 N5 ⟨r, hX2, hn2⟩
        dsimp only at hX2
        obtain ⟨z2, tz2, zr, tr, tv, q1, q2, q3, q4, q5, hz2, hzr, hkr, rfl, hrun⟩ := hX2
        have hr6 : r ≤ 6 := Nat.le_trans (Nat.le_trans (Nat.le_add_left _ _) hkr) hW
        have F6 := fr_name (x := "words") (fr_name (x := "compressed_words") (fr_name (x := "run_value") (fr_name (x := "run_length") (fr_name (x := "i") F5 q3) (by with_unfolding_all exact q5)) (by with_unfolding_all exact q4)) (by with_unfolding_all exact q2)) (by with_unfolding_all exact q1)
        clear F5
        try dsimp only
        (repeat' ((fail_if_success (with_reducible show wpAny _ _ (pyIter _) _ _ _)); (fail_if_success (with_reducible show LoopStepV _ _ _ _ _ _ _ _ _ _)); (fail_if_success (with_reducible show wpAny _ _ (exec (Stmt.While _ _ _ _) _) _ _ _)); first | (k_unfold; (try dsimp only)) | (with_reducible refine wpAny_execs_nil ?_; (try dsimp only)) | (k_end; wrow_close) | (walk1; (try dsimp only)) | (dsimp only; walk1) | (dsimp only [List.cons_append, List.nil_append]; walk1) | (leave1; walk_say "STEP leave1"; try dsimp only) | fail "no step"))
        · rename (asInts W).getD z2.toNat 0 = _ => hv
          rename z2 < _ => hlt2
          rename Fr _ _ _ _ => F9
          rename News _ _ _ _ => N9
          rw [hz2, Int.toNat_natCast, getD_ints] at hv
          have hrW : k + r < W.length := zN hz2 hlt2 hlen
          exact WhileStep.intro (n' := W.length - (k + (r + 1))) F9 N9 (meas hn2 hrW) ⟨r + 1, ⟨_, _, _, _, _, (by with_unfolding_all exact rfl), (by with_unfolding_all exact rfl), (by with_unfolding_all exact rfl), (by with_unfolding_all exact rfl), (by with_unfolding_all exact rfl), sx2 hz2, sx1 hzr, hrW, rfl, run_more hrun (litE hv)⟩, rfl⟩
        · rename (asInts W).getD z2.toNat 0 ≠ _ => hv
          rename z2 < _ => hlt2
          rw [hz2, Int.toNat_natCast, getD_ints] at hv
          rename Fr _ _ _ _ => F9
          rename News _ _ _ _ => N9
          exact Out.intro F9 N9 ⟨r, ⟨_, _, _, _, _, (by with_unfolding_all exact rfl), (by with_unfolding_all exact rfl), (by with_unfolding_all exact rfl), (by with_unfolding_all exact rfl), (by with_unfolding_all exact rfl), hz2, hzr, hkr, rfl, hrun⟩, .inr (litNE hv)⟩
        · rename ¬ z2 < _ => hlt2
          rename Fr _ _ _ _ => F9
          rename News _ _ _ _ => N9
          exact Out.intro F9 N9 ⟨r, ⟨_, _, _, _, _, (by with_unfolding_all exact rfl), (by with_unfolding_all exact rfl), (by with_unfolding_all exact rfl), (by with_unfolding_all exact rfl), (by with_unfolding_all exact rfl), hz2, hzr, hkr, rfl, hrun⟩, .inl (znN hz2 hlt2 hlen hkr)⟩
      · rintro m₂ news₂ h₂ tk₂ F5 N5 ⟨r, hX2, hend⟩
        dsimp only at hX2
        obtain ⟨z2, tz2, zr, tr, tv, q1, q2, q3, q4, q5, hz2, hzr, hkr, rfl, hrun⟩ := hX2
        have hr6 : r ≤ 6 := Nat.le_trans (Nat.le_trans (Nat.le_add_left _ _) hkr) hW
        have F6 := fr_name (x := "words") (fr_name (x := "compressed_words") (fr_name (x := "run_value") (fr_name (x := "run_length") (fr_name (x := "i") F5 q3) (by with_unfolding_all exact q5)) (by with_unfolding_all exact q4)) (by with_unfolding_all exact q2)) (by with_unfolding_all exact q1)
        clear F5
        try dsimp only
        (repeat' ((fail_if_success (with_reducible show wpAny _ _ (pyIter _) _ _ _)); (fail_if_success (with_reducible show LoopStepV _ _ _ _ _ _ _ _ _ _)); (fail_if_success (with_reducible show wpAny _ _ (exec (Stmt.While _ _ _ _) _) _ _ _)); first | (k_unfold; (try dsimp only)) | (with_reducible refine wpAny_execs_nil ?_; (try dsimp only)) | (k_end; wrow_close) | (walk1; (try dsimp only)) | (dsimp only; walk1) | (dsimp only [List.cons_append, List.nil_append]; walk1) | (leave1; walk_say "STEP leave1"; try dsimp only) | fail "no step"))
        rename Fr _ _ _ _ => G4
        rename News _ _ _ _ => P4
        refine While_par (n₀ := W.length - (k + r)) (LJ W lw (k + r)) (LE W lw (k + r)) (_, _, _, _, _) G4 P4 ⟨0, ⟨_, _, [], _, (by with_unfolding_all rfl), (by with_unfolding_all rfl), (by with_unfolding_all rfl), (by with_unfolding_all rfl), rfl, rfl, hz2, hkr, rfl, by simpa using IntsAre.nil, fun j hj => absurd hj (Nat.not_lt_zero j)⟩, rfl⟩ ?_ ?_
        · rintro n m₃ news₃ h₃ tk₃ G5 P5 ⟨l, hX3, hn3⟩
          dsimp only at hX3
          obtain ⟨z3, tz3, ls, cl3, p1, p2, p3, p4, p5, p6, hz3, hkl, rfl, hls, hlit⟩ := hX3
          have hll : ls.length = l := by have := hls.length; rw [List.length_map, List.length_take, List.length_drop] at this; exact minL this hkl
          have hl6 : ls.length ≤ 6 := hll ▸ Nat.le_trans (Nat.le_trans (Nat.le_add_left _ _) hkl) hW
          have hl12 : ls.length ≤ 12 := Nat.le_trans hl6 (by decide)
          have hls63 := n63 hl12
          have hls63s := n63s hl12
          have hmn := minB (l := l) (x := k + r) hW
          have G6 := fr_name (x := "words") (fr_name (x := "compressed_words") (fr_name (x := "literals") (fr_name (x := "i") G5 p4) (by with_unfolding_all exact p3)) (by with_unfolding_all exact p2)) (by with_unfolding_all exact p1)
          clear G5
          try dsimp only
          (repeat' ((fail_if_success (with_reducible show wpAny _ _ (pyIter _) _ _ _)); (fail_if_success (with_reducible show LoopStepV _ _ _ _ _ _ _ _ _ _)); (fail_if_success (with_reducible show wpAny _ _ (exec (Stmt.While _ _ _ _) _) _ _ _)); first | (k_unfold; (try dsimp only)) | (with_reducible refine wpAny_execs_nil ?_; (try dsimp only)) | (k_end; wrow_close) | (walk1; (try dsimp only)) | (dsimp only; walk1) | (dsimp only [List.cons_append, List.nil_append]; walk1) | (leave1; walk_say "STEP leave1"; try dsimp only) | fail "no step"))
          · rename 2147483647 ≤ _ => hbig
            rw [List.length_append, List.length_singleton] at hbig
            exact (big9 hl12 hbig).elim
          · rename (asInts W).getD z3.toNat 0 ≠ 18446744073709551615 => hv1
            rename (asInts W).getD z3.toNat 0 ≠ 0 => hv0
            rename z3 < _ => hlt2
            rename Fr _ _ _ _ => F9
            rename News _ _ _ _ => N9
            rw [hz3, Int.toNat_natCast, getD_ints] at hv0 hv1
            have hlW : k + r + l < W.length := zN hz3 hlt2 hlen
            exact WhileStep.intro (n' := W.length - (k + r + (l + 1))) F9 N9 (meas hn3 hlW) ⟨l + 1, ⟨_, _, _, _, (by with_unfolding_all exact rfl), (by with_unfolding_all exact rfl), (by with_unfolding_all exact rfl), (by with_unfolding_all exact rfl), (by with_unfolding_all exact p5), (by with_unfolding_all exact p6), sx2 hz3, hlW, rfl, ints_snoc hls hz3 hlW, lit_more hlit (is_lit (litNE hv0) (litNE hv1))⟩, rfl⟩
          · rename (asInts W).getD z3.toNat 0 = _ => hv
            rename Fr _ _ _ _ => F9
            rename News _ _ _ _ => N9
            rw [hz3, Int.toNat_natCast, getD_ints] at hv
            exact Out.intro F9 N9 ⟨l, ⟨_, _, _, _, (by with_unfolding_all exact rfl), (by with_unfolding_all exact rfl), (by with_unfolding_all exact rfl), (by with_unfolding_all exact rfl), (by with_unfolding_all exact p5), (by with_unfolding_all exact p6), hz3, hkl, rfl, hls, hlit⟩, .inr (by rw [litE (n := 18446744073709551615) hv]; rfl)⟩
          · rename (asInts W).getD z3.toNat 0 = _ => hv
            rename Fr _ _ _ _ => F9
            rename News _ _ _ _ => N9
            rw [hz3, Int.toNat_natCast, getD_ints] at hv
            exact Out.intro F9 N9 ⟨l, ⟨_, _, _, _, (by with_unfolding_all exact rfl), (by with_unfolding_all exact rfl), (by with_unfolding_all exact rfl), (by with_unfolding_all exact rfl), (by with_unfolding_all exact p5), (by with_unfolding_all exact p6), hz3, hkl, rfl, hls, hlit⟩, .inr (by rw [litE (n := 0) hv]; rfl)⟩
          · rename ¬ z3 < _ => hlt2
            rename Fr _ _ _ _ => F9
            rename News _ _ _ _ => N9
            exact Out.intro F9 N9 ⟨l, ⟨_, _, _, _, (by with_unfolding_all exact rfl), (by with_unfolding_all exact rfl), (by with_unfolding_all exact rfl), (by with_unfolding_all exact rfl), (by with_unfolding_all exact p5), (by with_unfolding_all exact p6), hz3, hkl, rfl, hls, hlit⟩, .inl (znN hz3 hlt2 hlen hkl)⟩
        · rintro m₃ news₃ h₃ tk₃ G5 P5 ⟨l, hX3, hend3⟩
          dsimp only at hX3
          obtain ⟨z3, tz3, ls, cl3, p1, p2, p3, p4, p5, p6, hz3, hkl, rfl, hls, hlit⟩ := hX3
          have hll : ls.length = l := by have := hls.length; rw [List.length_map, List.length_take, List.length_drop] at this; exact minL this hkl
          have hl6 : ls.length ≤ 6 := hll ▸ Nat.le_trans (Nat.le_trans (Nat.le_add_left _ _) hkl) hW
          have hl12 : ls.length ≤ 12 := Nat.le_trans hl6 (by decide)
          have hls63 := n63 hl12
          have hls63s := n63s hl12
          have hmn := minB (l := l) (x := k + r) hW
          have G6 := fr_name (x := "words") (fr_name (x := "compressed_words") (fr_name (x := "literals") (fr_name (x := "i") (fr_name (x := "run_value") (fr_name (x := "run_length") G5 p6) (by with_unfolding_all exact p5)) (by with_unfolding_all exact p4)) (by with_unfolding_all exact p3)) (by with_unfolding_all exact p2)) (by with_unfolding_all exact p1)
          clear G5
          try dsimp only
          (repeat' ((fail_if_success (with_reducible show wpAny _ _ (pyIter _) _ _ _)); (fail_if_success (with_reducible show LoopStepV _ _ _ _ _ _ _ _ _ _)); (fail_if_success (with_reducible show wpAny _ _ (binaryOp Operator.LShift _ _) _ _ _)); (fail_if_success (with_reducible show wpAny _ _ (exec (Stmt.While _ _ _ _) _) _ _ _)); first | (k_unfold; (try dsimp only)) | (with_reducible refine wpAny_execs_nil ?_; (try dsimp only)) | (k_end; wrow_close) | (walk1; (try dsimp only)) | (dsimp only; walk1) | (dsimp only [List.cons_append, List.nil_append]; walk1) | (leave1; walk_say "STEP leave1"; try dsimp only) | fail "no step"))
          · rename ((W.getD k 0 : Nat) : Int) = 18446744073709551615 => hb1
            refine lshift_int_small (by decide) (by decide) (nAbs (Nat.le_trans hl6 (by decide))) ?_
            try dsimp only
            (repeat' ((fail_if_success (with_reducible show wpAny _ _ (pyIter _) _ _ _)); (fail_if_success (with_reducible show LoopStepV _ _ _ _ _ _ _ _ _ _)); (fail_if_success (with_reducible show wpAny _ _ (binaryOp Operator.LShift _ _) _ _ _)); (fail_if_success (with_reducible show wpAny _ _ (exec (Stmt.While _ _ _ _) _) _ _ _)); first | (k_unfold; (try dsimp only)) | (with_reducible refine wpAny_execs_nil ?_; (try dsimp only)) | (k_end; wrow_close) | (walk1; (try dsimp only)) | (dsimp only; walk1) | (dsimp only [List.cons_append, List.nil_append]; walk1) | (leave1; walk_say "STEP leave1"; try dsimp only) | fail "no step"))
            refine lshift_int_small (by decide) (by decide) (zAbs hzr (Nat.le_trans hr6 (by decide))) ?_
            try dsimp only
            (repeat' ((fail_if_success (with_reducible show wpAny _ _ (pyIter _) _ _ _)); (fail_if_success (with_reducible show LoopStepV _ _ _ _ _ _ _ _ _ _)); (fail_if_success (with_reducible show wpAny _ _ (exec (Stmt.While _ _ _ _) _) _ _ _)); first | (k_unfold; (try dsimp only)) | (with_reducible refine wpAny_execs_nil ?_; (try dsimp only)) | (k_end; wrow_close) | (walk1; (try dsimp only)) | (dsimp only; walk1) | (dsimp only [List.cons_append, List.nil_append]; walk1) | (leave1; walk_say "STEP leave1"; try dsimp only) | fail "no step"))
            refine ext_ok (by k_asm) (by k_asm) (by (repeat (first | assumption | exact List.Mem.head _ | refine' List.Mem.tail _ ?_))) (by k_updF) (by simp only [Array.size_push, List.size_toArray]; exact sum19 hcsl hl6) ?_
            intro h4 c4 F4' N4'
            try dsimp only at N4'
            (repeat' ((fail_if_success (with_reducible show wpAny _ _ (pyIter _) _ _ _)); (fail_if_success (with_reducible show LoopStepV _ _ _ _ _ _ _ _ _ _)); (fail_if_success (with_reducible show wpAny _ _ (exec (Stmt.While _ _ _ _) _) _ _ _)); first | (k_unfold; (try dsimp only)) | (with_reducible refine wpAny_execs_nil ?_; (try dsimp only)) | (k_end; wrow_close) | (walk1; (try dsimp only)) | (dsimp only; walk1) | (dsimp only [List.cons_append, List.nil_append]; walk1) | (leave1; walk_say "STEP leave1"; try dsimp only) | fail "no step"))
            rename Fr _ _ _ _ => F9
            rename News _ _ _ _ => N9
            exact enc_turn (x := W.getD k 0) (b := 1) F9 N9 (by with_unfolding_all rfl) (by with_unfolding_all rfl) (by with_unfolding_all rfl) (if_pos (litE (n := 18446744073709551615) hb1)).symm hz3 hzr hll hC hE hCl hn hkW rfl (not_lit hx) hrun (fun _ => hend) hkl hls hlit hend3
          · rename ((W.getD k 0 : Nat) : Int) ≠ 18446744073709551615 => hb1
            refine lshift_int_small (by decide) (by decide) (nAbs (Nat.le_trans hl6 (by decide))) ?_
            try dsimp only
            (repeat' ((fail_if_success (with_reducible show wpAny _ _ (pyIter _) _ _ _)); (fail_if_success (with_reducible show LoopStepV _ _ _ _ _ _ _ _ _ _)); (fail_if_success (with_reducible show wpAny _ _ (binaryOp Operator.LShift _ _) _ _ _)); (fail_if_success (with_reducible show wpAny _ _ (exec (Stmt.While _ _ _ _) _) _ _ _)); first | (k_unfold; (try dsimp only)) | (with_reducible refine wpAny_execs_nil ?_; (try dsimp only)) | (k_end; wrow_close) | (walk1; (try dsimp only)) | (dsimp only; walk1) | (dsimp only [List.cons_append, List.nil_append]; walk1) | (leave1; walk_say "STEP leave1"; try dsimp only) | fail "no step"))
            refine lshift_int_small (by decide) (by decide) (zAbs hzr (Nat.le_trans hr6 (by decide))) ?_
            try dsimp only
            (repeat' ((fail_if_success (with_reducible show wpAny _ _ (pyIter _) _ _ _)); (fail_if_success (with_reducible show LoopStepV _ _ _ _ _ _ _ _ _ _)); (fail_if_success (with_reducible show wpAny _ _ (exec (Stmt.While _ _ _ _) _) _ _ _)); first | (k_unfold; (try dsimp only)) | (with_reducible refine wpAny_execs_nil ?_; (try dsimp only)) | (k_end; wrow_close) | (walk1; (try dsimp only)) | (dsimp only; walk1) | (dsimp only [List.cons_append, List.nil_append]; walk1) | (leave1; walk_say "STEP leave1"; try dsimp only) | fail "no step"))
            refine ext_ok (by k_asm) (by k_asm) (by (repeat (first | assumption | exact List.Mem.head _ | refine' List.Mem.tail _ ?_))) (by k_updF) (by simp only [Array.size_push, List.size_toArray]; exact sum19 hcsl hl6) ?_
            intro h4 c4 F4' N4'
            try dsimp only at N4'
            (repeat' ((fail_if_success (with_reducible show wpAny _ _ (pyIter _) _ _ _)); (fail_if_success (with_reducible show LoopStepV _ _ _ _ _ _ _ _ _ _)); (fail_if_success (with_reducible show wpAny _ _ (exec (Stmt.While _ _ _ _) _) _ _ _)); first | (k_unfold; (try dsimp only)) | (with_reducible refine wpAny_execs_nil ?_; (try dsimp only)) | (k_end; wrow_close) | (walk1; (try dsimp only)) | (dsimp only; walk1) | (dsimp only [List.cons_append, List.nil_append]; walk1) | (leave1; walk_say "STEP leave1"; try dsimp only) | fail "no step"))
            rename Fr _ _ _ _ => F9
            rename News _ _ _ _ => N9
            exact enc_turn (x := W.getD k 0) (b := 0) F9 N9 (by with_unfolding_all rfl) (by with_unfolding_all rfl) (by with_unfolding_all rfl) (if_neg (litNE (n := 18446744073709551615) hb1)).symm hz3 hzr hll hC hE hCl hn hkW rfl (not_lit hx) hrun (fun _ => hend) hkl hls hlit hend3
  · rename ¬ z < _ => hlt2
    rename Fr h₀ _ _ _ => F9
    rename News h₀ _ _ _ => N9
    have hke : k = W.length := znN hz hlt2 hlen hk
    rw [hke, List.drop_length, encW_nil, List.append_nil] at hE
    rw [← hE] at hC
    exact ret _ _ _ _ _ F9 (drop2 N9) hC (allLt_to (And.right (by assumption)))
end D_F6
namespace D_F7
open D_F2
open D_F3
open D_F6
omit B F KI N T hk in
theorem bl_le (X : Nat) {k : Nat} (h : X.testBit k = true) : k < bl X := by
  have := (mem_bitList X k).mpr h
  unfold bitList at this
  rw [List.mem_filter, List.mem_range] at this
  exact this.1
omit B F KI N T hk in
theorem bl_top {X : Nat} (h : X ≠ 0) : 0 < bl X ∧ X.testBit (bl X - 1) = true := by
  have h0 : 0 < bl X := by
    refine Nat.pos_of_ne_zero fun h0 => h ?_
    have := lt_intBits X
    rw [show Builtin.Int.intBits (X : Int) = 0 from h0] at this
    omega
  refine ⟨h0, ?_⟩
  obtain ⟨_, h2, h3⟩ := cnt_ge (bitList X) 0
  have hc := cnt_bits (X := X) (ks := bitList X) (mem_bitList X)
  unfold D_F3.cnt at hc
  rcases h3 with h3 | ⟨k, hk, h3⟩
  · rw [hc] at h3; exact absurd h3 (Nat.ne_of_gt h0)
  · rw [hc] at h3
    show X.testBit (Builtin.Int.intBits (X : Int) - 1) = true
    rw [h3]
    exact (mem_bitList X k).mp hk
def Vok (V : List Nat) (ks : List Nat) : Prop := ∀ j i, (V.getD j 0).testBit i = (decide (i < 64) && decide (64 * j + i ∈ ks))
def VJ (lw : Addr) (wc : Nat) (z : Int) (newsA : List (Addr × Obj)) (ks : List Nat) (m : Str → Option Value) (news : List (Addr × Obj)) : Prop :=
  ∃ vs c V t, m "words" = some (.ref lw) ∧ m "bit_count" = some (.int z t) ∧ news = (lw, listOf vs.toArray c) :: newsA ∧ IntsAre vs (asInts V) ∧ V.length = wc ∧ Vok V ks
omit B F KI N T hk in
theorem vok_nil (n : Nat) : Vok (List.replicate n 0) [] := fun j i => by
  have : (List.replicate n 0).getD j 0 = 0 := by
    rw [List.getD_eq_getElem?_getD, List.getElem?_replicate]; split <;> rfl
  rw [this, Nat.zero_testBit]; simp
omit B F KI N T hk in
theorem vok_step {V ks : List Nat} {k q r : Nat} (hok : Vok V ks) (hq : k / 64 = q) (hr : k % 64 = r) (hqV : q < V.length) : Vok (V.set q (V.getD q 0 ||| 1 <<< r)) (ks ++ [k]) := fun j i => by
  have e : (V.set q (V.getD q 0 ||| 1 <<< r)).getD j 0 = if j = q then V.getD q 0 ||| 1 <<< r else V.getD j 0 := by
    rw [List.getD_eq_getElem?_getD, List.getElem?_set]
    by_cases h : q = j
    · subst h; simp [hqV]
    · rw [if_neg h, if_neg (Ne.symm h), ← List.getD_eq_getElem?_getD]
  rw [e]
  by_cases h : j = q
  · subst h
    rw [if_pos rfl, Nat.testBit_or, hok, Nat.one_shiftLeft, Nat.testBit_two_pow, Bool.eq_iff_iff]
    simp only [Bool.or_eq_true, Bool.and_eq_true, decide_eq_true_eq, List.mem_append, List.mem_singleton]
    constructor
    · rintro (⟨h1, h2⟩ | h1)
      · exact ⟨h1, .inl h2⟩
      · exact ⟨by omega, .inr (by omega)⟩
    · rintro ⟨h1, h2 | h2⟩
      · exact .inl ⟨h1, h2⟩
      · exact .inr (by omega)
  · rw [if_neg h, hok, Bool.eq_iff_iff]
    simp only [Bool.and_eq_true, decide_eq_true_eq, List.mem_append, List.mem_singleton]
    constructor
    · rintro ⟨h1, h2⟩; exact ⟨h1, .inl h2⟩
    · rintro ⟨h1, h2 | h2⟩
      · exact ⟨h1, h2⟩
      · exact absurd (by omega) h
omit B F KI N T hk in
theorem vok_end {V ks : List Nat} {X : Nat} (hok : Vok V ks) (hl : V.length = wcount X) (hks : ∀ k, k ∈ ks ↔ X.testBit k = true) : V = wordsX X := by
  refine List.ext_getElem (by rw [hl]; unfold wordsX; rw [List.length_map, List.length_range]) fun j h1 h2 => ?_
  refine Nat.eq_of_testBit_eq fun i => ?_
  have e1 : V[j] = V.getD j 0 := by rw [List.getD_eq_getElem?_getD, List.getElem?_eq_getElem h1]; rfl
  have e2 : (wordsX X)[j] = (X >>> (64 * j)) % 2 ^ 64 := by simp only [wordsX, List.getElem_map, List.getElem_range]
  rw [e1, e2, hok, Nat.testBit_mod_two_pow, Nat.testBit_shiftRight, Bool.eq_iff_iff]
  simp only [Bool.and_eq_true, decide_eq_true_eq, hks]
omit B F KI N T hk in
theorem v_turn {h₀ : Heap} {L I lw b1 : Addr} {oI o1 : Obj} {m₂ : Str → Option Value} {newsA : List (Addr × Obj)} {vs : List Value} {V ks : List Nat} {k q r c c0 wc : Nat} {z y : Int} {t u : Tok} {s₁ : Shared} {h' : Heap} {tk : Nat} {Qr : Value → Shared → Prop} {Qb : Shared → Prop} {vs0 : List Value}
    (F : Fr h₀ L h' m₂) (N : News h₀ L h' ((I, oI) :: (b1, o1) :: (lw, listOf (vs.set q (.int y u)).toArray c) :: newsA)) (e1 : m₂ "words" = some (.ref lw)) (e2 : m₂ "bit_count" = some (.int z t)) (off : ∀ p ∈ (lw, listOf vs0.toArray c0) :: newsA, p.1 ≠ I)
    (hV : IntsAre vs (asInts V)) (hVl : V.length = wc) (hok : Vok V ks) (hq : k / 64 = q) (hr : k % 64 = r) (hqV : q < V.length) (hy : y = Builtin.bitOr ((V.getD q 0 : Nat) : Int) (1 * 2 ^ (((r : Nat) : Int)).toNat)) :
    LoopStepV h₀ L [I] [(I, oI), (b1, o1)] (VJ lw wc z newsA (ks ++ [k])) s₁ Qr Qb .next { s₁ with heap := h', toks := tk } := by
  refine LoopStepV.next (LoopStepU.intro (news₂ := (lw, listOf (vs.set q (.int y u)).toArray c) :: newsA) F N (fun p hp => ?_) ⟨_, c, V.set q (V.getD q 0 ||| 1 <<< r), t, e1, e2, rfl, ?_, by rw [List.length_set]; exact hVl, vok_step hok hq hr hqV⟩)
  · rw [List.mem_singleton]
    rcases List.mem_cons.mp hp with rfl | hp
    · exact off (lw, listOf vs0.toArray c0) (.head _)
    · exact off p (.tail _ hp)
  · have e : asInts (V.set q (V.getD q 0 ||| 1 <<< r)) = (asInts V).set q y := by
      have e3 : (1 : Int) * (2 : Int) ^ r = ((1 <<< r : Nat) : Int) := shl_cast 1 r
      unfold asInts
      rw [List.map_set, hy, Int.toNat_natCast, e3, bitOr_nat]
    rw [e]
    exact ints_set hV _ _ _
omit B F KI N T hk in
theorem reps_nat (n : Nat) : (List.replicate n [(0 : Int)]).flatten = asInts (List.replicate n 0) := by
  rw [flat_rep, asInts, List.map_replicate]; rfl
abbrev ioDict (w : World) (dat : Array UInt8) (z : Int) (t tz t1 t2 : Tok) : Obj := dictOf [⟨PyData.keyHash w.params "data", .str "data" t1, .bytes dat t⟩, ⟨PyData.keyHash w.params "place", .str "place" t2, .int z tz⟩] 2
def OJ (w : World) (f df : Addr) (pre : List Int) (C : List Nat) (newsA : List (Addr × Obj)) (i : Nat) (m : Str → Option Value) (news : List (Addr × Obj)) : Prop :=
  ∃ dat t tz t1 t2, m "f" = some (.ref f) ∧ news = (f, instObj 53 df) :: (df, ioDict w dat 0 t tz t1 t2) :: newsA ∧ KBw.bInts dat = pre ++ (C.take i).flatMap (fun c => be 8 ((c : Nat) : Int))
omit B F KI N T hk in
theorem io_turn {w : World} {h₀ : Heap} {L I f df lc : Addr} {oI ol : Obj} {m₂ : Str → Option Value} {newsA : List (Addr × Obj)} {C : List Nat} {i c : Nat} {dat dat' : Array UInt8} {pre part : List Int} {t tz t1 t2 t3 t4 t5 t6 : Tok} {s₁ : Shared} {h' : Heap} {tk : Nat} {Qr : Value → Shared → Prop} {Qb : Shared → Prop}
    (F : Fr h₀ L h' m₂) (N : News h₀ L h' ((I, oI) :: (lc, ol) :: (f, instObj 53 df) :: (df, ioDict w dat' 0 t tz t1 t2) :: newsA)) (e1 : m₂ "f" = some (.ref f)) (off : ∀ p ∈ (f, instObj 53 df) :: (df, ioDict w dat 0 t3 t4 t5 t6) :: newsA, p.1 ≠ I)
    (hc : C[i]? = some c) (hd : KBw.bInts dat' = pre ++ (C.take i).flatMap (fun c => be 8 ((c : Nat) : Int)) ++ part) (hp : part = be 8 ((c : Nat) : Int)) :
    LoopStepV h₀ L [I] [(I, oI), (lc, ol)] (OJ w f df pre C newsA (i + 1)) s₁ Qr Qb .next { s₁ with heap := h', toks := tk } := by
  refine LoopStepV.next (LoopStepU.intro (news₂ := (f, instObj 53 df) :: (df, ioDict w dat' 0 t tz t1 t2) :: newsA) F N (fun p hp => ?_) ⟨dat', t, tz, t1, t2, e1, rfl, ?_⟩)
  · rw [List.mem_singleton]
    rcases List.mem_cons.mp hp with rfl | hp
    · exact off (f, instObj 53 df) (.head _)
    · rcases List.mem_cons.mp hp with rfl | hp
      · exact off (df, ioDict w dat 0 t3 t4 t5 t6) (.tail _ (.head _))
      · exact off p (.tail _ (.tail _ hp))
  · rw [hd, take_snoc hc, List.flatMap_append, hp, List.append_assoc]; simp
set_option maxRecDepth 100000 in
set_option maxHeartbeats 8000000 in
theorem encode_ok {x1 d1 b1 : Addr} {o1 : Obj} {n1 : Int} {s1 s2 s3 : Tok} {X : Nat} {S1 : Nat → Bool} (M1 : Bm w x1 d1 b1 o1 S1 n1 s1 s2 s3 news) (hX : X < 2 ^ 384) (hS : ∀ k, S1 k = X.testBit k) (hdp : dp + 2 < recursionLimit) (hu : un + 16 < cLine)
    (ret : ∀ (h' : Heap) (tk' : Nat) oc t, Fr h₀ L h' m → News h₀ L h' news → KBw.bInts oc = octI X → Q (.bytes oc t) { s with heap := h', toks := tk' }) :
    wpAny (model prog w) (ktrTop dp un gd cn cs L a ccd cl outer) (call (.ref 93) [.ref x1]) Q E s := by
  obtain ⟨a1, a2, a3, B1⟩ := M1
  have N0 : News h₀ L s.heap ((x1, instObj 145 d1) :: (d1, bmDict w b1 n1 s1 s2 s3) :: (b1, o1) :: news) := fun p hp => by
    simp only [List.mem_cons] at hp
    rcases hp with rfl | rfl | rfl | hp <;> exact N _ (by assumption)
  clear N
  refine wpAny_call ?_
  (k_dflt (first | (refine' code_def ?k1 ?k2 ?k3 ?k4 ?k5 ?kA ?kF ?kK ?k6 ?k7 ?k8 ?k9 ?kB ?_ ?c2 ?c3 ?c4 ?c5; (case kA => exact rfl); (case kF => exact rfl); (case kK => first | exact rfl | assumption); (case k1 => k_asm); (case k2 => k_asm); (case k3 => k_asm); (case k4 => k_asm); (case k5 => k_asm); (case k6 => k_is); (case k7 => k_is); (case k8 => first | k_room | ktr_room); (case k9 => first | exact BindsTo.of_eq rfl | exact binds_K (by k_in) rfl (by k_is) rfl rfl rfl | fail "k_enter: no rule for these arguments"); (case c5 => decide); (case kB => exact locs rfl); (case c2 => exact rfl); (case c3 => exact rfl); (case c4 => exact rfl); k_whole; intro g' L' h' FG' F' N' B' X' T'; (try dsimp only); (try k_lift B'); (try k_fold)) | (refine' code_defC ?k1 ?k2 ?k3 ?k4 ?k5 ?kA ?kF ?kK ?k6 ?k7 ?k8 ?k9 ?kB ?kD ?_ ?c2 ?c3 ?c4; (case kA => exact rfl); (case kF => exact rfl); (case kK => first | exact rfl | assumption); (case k1 => k_asm); (case k2 => k_asm); (case k3 => k_asm); (case k4 => k_asm); (case k5 => k_asm); (case k6 => k_is); (case k7 => k_is); (case k8 => first | k_room | ktr_room); (case k9 => first | exact BindsTo.of_eq rfl | exact binds_K (by k_in) rfl (by k_is) rfl rfl rfl | fail "k_enter: no rule for these arguments"); (case kB => exact rfl); (case kD => decide +kernel); (case c2 => exact rfl); (case c3 => exact rfl); (case c4 => exact rfl); k_whole; intro g' L' h' tk' cells' FG' F' N' Y' B' X' T' l1; (try k_lt l1); k_cells Y'; (try simp only [List.cons_append, List.nil_append] at N'); (try dsimp only); (try k_lift B'); (try k_fold))))
  (repeat' ((fail_if_success (with_reducible show wpAny _ _ (pyIter _) _ _ _)); (fail_if_success (with_reducible show LoopStepV _ _ _ _ _ _ _ _ _ _)); (fail_if_success (with_reducible show wpAny _ _ (exec (Stmt.While _ _ _ _) _) _ _ _)); first | (k_unfold; (try dsimp only)) | (with_reducible refine wpAny_execs_nil ?_; (try dsimp only)) | (k_end; wrow_close) | (walk1; (try dsimp only)) | (dsimp only; walk1) | (dsimp only [List.cons_append, List.nil_append]; walk1) | (leave1; walk_say "STEP leave1"; try dsimp only) | fail "no step"))
  have hc : decide (X ≠ 0) = true ↔ ∃ k, S1 k = true := by
    rw [decide_eq_true_eq]
    refine ⟨fun h => ⟨_, (hS _).trans (bl_top h).2⟩, ?_⟩
    rintro ⟨k, hk⟩ rfl
    rw [hS, Nat.zero_testBit] at hk
    cases hk
  refine bs_truthy (by k_asm) (by (repeat (first | assumption | exact List.Mem.head _ | refine' List.Mem.tail _ ?_))) B1 (decide (X ≠ 0)) hc ?_
  by_cases h0 : X = 0
  · rw [show decide (X ≠ 0) = false from by rw [h0]; rfl]
    (repeat' ((fail_if_success (with_reducible show wpAny _ _ (pyIter _) _ _ _)); (fail_if_success (with_reducible show LoopStepV _ _ _ _ _ _ _ _ _ _)); (fail_if_success (with_reducible show wpAny _ _ (exec (Stmt.While _ _ _ _) _) _ _ _)); first | (k_unfold; (try dsimp only)) | (with_reducible refine wpAny_execs_nil ?_; (try dsimp only)) | (k_end; wrow_close) | (walk1; (try dsimp only)) | (dsimp only; walk1) | (dsimp only [List.cons_append, List.nil_append]; walk1) | (leave1; walk_say "STEP leave1"; try dsimp only) | fail "no step"))
    refine call_bytes12 fun t k => ?_
    (repeat' ((fail_if_success (with_reducible show wpAny _ _ (pyIter _) _ _ _)); (fail_if_success (with_reducible show LoopStepV _ _ _ _ _ _ _ _ _ _)); (fail_if_success (with_reducible show wpAny _ _ (exec (Stmt.While _ _ _ _) _) _ _ _)); first | (k_unfold; (try dsimp only)) | (with_reducible refine wpAny_execs_nil ?_; (try dsimp only)) | (k_end; wrow_close) | (walk1; (try dsimp only)) | (dsimp only; walk1) | (dsimp only [List.cons_append, List.nil_append]; walk1) | (leave1; walk_say "STEP leave1"; try dsimp only) | fail "no step"))
    rename Fr h₀ _ _ _ => F9
    rename News h₀ _ _ _ => N9
    subst h0
    exact ret _ _ _ _ F9 (fun p hp => N9 p (.tail _ (.tail _ (.tail _ hp)))) (by decide)
  · rw [show decide (X ≠ 0) = true from by rw [decide_eq_true_eq]; exact h0]
    obtain ⟨hb0, hbt⟩ := bl_top h0
    have hb1 : bl X ≤ 384 := intBits_lt hX
    (repeat' ((fail_if_success (with_reducible show wpAny _ _ (pyIter _) _ _ _)); (fail_if_success (with_reducible show LoopStepV _ _ _ _ _ _ _ _ _ _)); (fail_if_success (with_reducible show wpAny _ _ (exec (Stmt.While _ _ _ _) _) _ _ _)); first | (k_unfold; (try dsimp only)) | (with_reducible refine wpAny_execs_nil ?_; (try dsimp only)) | (k_end; wrow_close) | (walk1; (try dsimp only)) | (dsimp only; walk1) | (dsimp only [List.cons_append, List.nil_append]; walk1) | (leave1; walk_say "STEP leave1"; try dsimp only) | fail "no step"))
    refine bs_truthy (by k_asm) (by (repeat (first | assumption | exact List.Mem.head _ | refine' List.Mem.tail _ ?_))) B1 true (by rw [← hc, decide_eq_true_eq]; exact ⟨fun _ => h0, fun _ => rfl⟩) ?_
    (repeat' ((fail_if_success (with_reducible show wpAny _ _ (pyIter _) _ _ _)); (fail_if_success (with_reducible show LoopStepV _ _ _ _ _ _ _ _ _ _)); (fail_if_success (with_reducible show wpAny _ _ (exec (Stmt.While _ _ _ _) _) _ _ _)); first | (k_unfold; (try dsimp only)) | (with_reducible refine wpAny_execs_nil ?_; (try dsimp only)) | (k_end; wrow_close) | (walk1; (try dsimp only)) | (dsimp only; walk1) | (dsimp only [List.cons_append, List.nil_append]; walk1) | (leave1; walk_say "STEP leave1"; try dsimp only) | fail "no step"))
    refine bs_max (mx := bl X - 1) (by rfl) (by k_asm) (by k_asm) (by (repeat (first | assumption | exact List.Mem.head _ | refine' List.Mem.tail _ ?_))) B1 ((hS _).trans hbt) (fun k hk => Nat.le_sub_one_of_lt (bl_le X ((hS k).symm.trans hk))) ?_
    intro h1 tk1 tk1' F1 N1
    generalize hmb : bl X - 1 = mb at *
    have hmb4 := mb384 hmb hb1
    have hd1 := dm1 mb
    have hd2 := dm2 hmb4
    have hd3 := dm3 hmb4
    have hd4 := dm4 hmb4
    try dsimp only
    (repeat' ((fail_if_success (with_reducible show wpAny _ _ (pyIter _) _ _ _)); (fail_if_success (with_reducible show LoopStepV _ _ _ _ _ _ _ _ _ _)); (fail_if_success (with_reducible show wpAny _ _ (exec (Stmt.While _ _ _ _) _) _ _ _)); first | (k_unfold; (try dsimp only)) | (with_reducible refine wpAny_execs_nil ?_; (try dsimp only)) | (k_end; wrow_close) | (walk1; (try dsimp only)) | (dsimp only; walk1) | (dsimp only [List.cons_append, List.nil_append]; walk1) | (leave1; walk_say "STEP leave1"; try dsimp only) | fail "no step"))
    rename IntsAre _ _ => iv
    rename _ ∧ _ ∧ _ ∧ _ ∧ AllLt _ news => hAll
    have nD := fun p hp => neN (Nat.ne_of_lt (allLt_to hAll.2.2.2.2 p hp))
    rename News _ _ _ _ => NN
    rw [reps_nat] at iv
    have hwc : ((((mb : Nat) : Int) + 1 + 63).fdiv 64).toNat = wcount X := by
      rw [Int.fdiv_eq_ediv_of_nonneg _ (by decide)]
      unfold wcount
      exact wcm hmb hb0
    refine for_set (VJ _ (wcount X) _ _) (by rfl) (by (repeat (first | assumption | exact List.Mem.head _ | refine' List.Mem.tail _ ?_))) B1 (by k_asm) NN ⟨_, _, _, _, by with_unfolding_all rfl, by with_unfolding_all rfl, rfl, iv, by rw [List.length_replicate]; exact hwc, vok_nil _⟩ ?_ ?_
    · have hwc6 : wcount X ≤ 6 := wcount_le hX
      rintro ks k t m₁ news₁ h tk I oI hSk ⟨vs, c, V, t9, e1, e2, rfl, hV, hVl, hok⟩ off hbI F₁ N₁
      have hkX := (hS k).symm.trans hSk
      have F₂ := fr_name (x := "words") F₁ e1
      clear F₁
      have hvl : vs.length = wcount X := by have := hV.length; rw [List.length_map] at this; exact this.trans hVl
      try dsimp only
      (repeat' ((fail_if_success (with_reducible show wpAny _ _ (pyIter _) _ _ _)); (fail_if_success (with_reducible show LoopStepV _ _ _ _ _ _ _ _ _ _)); (fail_if_success (with_reducible show wpAny _ _ (binaryOp Operator.LShift _ _) _ _ _)); (fail_if_success (with_reducible show wpAny _ _ (exec (Stmt.While _ _ _ _) _) _ _ _)); first | (k_unfold; (try dsimp only)) | (with_reducible refine wpAny_execs_nil ?_; (try dsimp only)) | (k_end; wrow_close) | (walk1; (try dsimp only)) | (dsimp only; walk1) | (dsimp only [List.cons_append, List.nil_append]; walk1) | (leave1; walk_say "STEP leave1"; try dsimp only) | fail "no step"))
      have hq : ((k : Nat) : Int).fdiv 64 = ((k / 64 : Nat) : Int) := by rw [Int.fdiv_eq_ediv_of_nonneg _ (by decide)]; rfl
      have hr : ((k : Nat) : Int).fmod 64 = ((k % 64 : Nat) : Int) := by rw [Int.fmod_eq_emod_of_nonneg _ (by decide)]; rfl
      simp only [hq, hr] at *
      have hqw : k / 64 < V.length := by have := bl_le X hkX; unfold wcount at hVl; exact kq this hVl
      have hr64 : k % 64 < 64 := Nat.mod_lt _ (by decide)
      generalize hqe : k / 64 = q at *
      generalize hre : k % 64 = r at *
      have f1 := neN (off _ (.head _))
      have f2 := neN (off _ (.tail _ (.head _)))
      try dsimp only at f1 f2
      try dsimp only
      have hq6 := q6 hqw hVl hwc6
      have hq1 : ((q : Nat) : Int) < ((V.length : Nat) : Int) := Int.ofNat_lt.mpr hqw
      have hq2 : q < 2 ^ 63 := llt62 hq6 rfl
      have hq3 := i63 hq6 rfl
      refine lget (by k_asm) (by (repeat (first | assumption | exact List.Mem.head _ | refine' List.Mem.tail _ ?_))) hV (by omega) (by omega) ?_
      intro tv
      (repeat' ((fail_if_success (with_reducible show wpAny _ _ (pyIter _) _ _ _)); (fail_if_success (with_reducible show LoopStepV _ _ _ _ _ _ _ _ _ _)); (fail_if_success (with_reducible show wpAny _ _ (binaryOp Operator.LShift _ _) _ _ _)); (fail_if_success (with_reducible show wpAny _ _ (exec (Stmt.While _ _ _ _) _) _ _ _)); first | (k_unfold; (try dsimp only)) | (with_reducible refine wpAny_execs_nil ?_; (try dsimp only)) | (k_end; wrow_close) | (walk1; (try dsimp only)) | (dsimp only; walk1) | (dsimp only [List.cons_append, List.nil_append]; walk1) | (leave1; walk_say "STEP leave1"; try dsimp only) | fail "no step"))
      refine lshift_int_small (z0 _) (r1e6 hr64) (by decide) ?_
      try dsimp only
      (repeat' ((fail_if_success (with_reducible show wpAny _ _ (pyIter _) _ _ _)); (fail_if_success (with_reducible show LoopStepV _ _ _ _ _ _ _ _ _ _)); (fail_if_success (with_reducible show wpAny _ _ (exec (Stmt.While _ _ _ _) _) _ _ _)); first | (k_unfold; (try dsimp only)) | (with_reducible refine wpAny_execs_nil ?_; (try dsimp only)) | (k_end; wrow_close) | (walk1; (try dsimp only)) | (dsimp only; walk1) | (dsimp only [List.cons_append, List.nil_append]; walk1) | (leave1; walk_say "STEP leave1"; try dsimp only) | fail "no step"))
      rename Fr _ _ _ _ => F9
      rename News _ _ _ _ => N4
      exact v_turn F9 N4 (by with_unfolding_all rfl) (by with_unfolding_all exact e2) off hV hVl hok hqe hre hqw rfl
    · rintro ks m₁ news₁ h tk nd hks ⟨vs, c, V, t9, e1, e2, rfl, hV, hVl, hok⟩ F₁ N₁
      have hVe := vok_end hok hVl (fun k => (hks k).trans (by rw [hS]))
      subst hVe
      have F₂ := fr_name (x := "words") (fr_name (x := "bit_count") F₁ e2) (by with_unfolding_all exact e1)
      clear F₁
      have hw2 : ∀ x ∈ wordsX X, x < 2 ^ 64 := fun x hx => by
        unfold wordsX at hx
        rw [List.mem_map] at hx
        obtain ⟨j, _, rfl⟩ := hx
        exact Nat.mod_lt _ (by decide)
      have hwc6 : (wordsX X).length ≤ 6 := by rw [hVl]; exact wcount_le hX
      try dsimp only
      (repeat' ((fail_if_success (with_reducible show wpAny _ _ (pyIter _) _ _ _)); (fail_if_success (with_reducible show LoopStepV _ _ _ _ _ _ _ _ _ _)); (fail_if_success (with_reducible show wpAny _ _ (exec (Stmt.While _ _ _ _) _) _ _ _)); first | (k_unfold; (try dsimp only)) | (with_reducible refine wpAny_execs_nil ?_; (try dsimp only)) | (k_end; wrow_close) | (walk1; (try dsimp only)) | (dsimp only; walk1) | (dsimp only [List.cons_append, List.nil_append]; walk1) | (leave1; walk_say "STEP leave1"; try dsimp only) | fail "no step"))
      with_unfolding_all refine enc_ok (by k_asm) (by k_asm) (by k_asm) (by k_asm) (by k_asm) rfl (.head _) hV hwc6 hw2 (by (((try dsimp only [units_in1, units_deeper, Around.mark_units, units_caller, depth_under_make, depth_under_kw, units_under_make, depth_in1, depth_deeper, depth_caller]); (try dsimp only [ktrTop]); first | with_reducible exact Mine.rB1 (by assumption) rfl | with_reducible exact Mine.rC1 (by assumption) rfl | with_reducible exact Mine.rB2 (by assumption) rfl | with_reducible exact Mine.rC2 (by assumption) rfl | with_reducible exact Mine.rB0 (by assumption) | with_reducible exact Mine.rC0 (by assumption) | exact Mine.rm1 (by assumption) rfl | exact Mine.rm2 (by assumption) rfl | exact Mine.rm3 (by assumption) rfl | exact Mine.rm0 (by assumption) | (have hcL9 := cLine_is; omega (config := {}))))) (by (((try dsimp only [units_in1, units_deeper, Around.mark_units, units_caller, depth_under_make, depth_under_kw, units_under_make, depth_in1, depth_deeper, depth_caller]); (try dsimp only [ktrTop]); first | with_reducible exact Mine.rB1 (by assumption) rfl | with_reducible exact Mine.rC1 (by assumption) rfl | with_reducible exact Mine.rB2 (by assumption) rfl | with_reducible exact Mine.rC2 (by assumption) rfl | with_reducible exact Mine.rB0 (by assumption) | with_reducible exact Mine.rC0 (by assumption) | exact Mine.rm1 (by assumption) rfl | exact Mine.rm2 (by assumption) rfl | exact Mine.rm3 (by assumption) rfl | exact Mine.rm0 (by assumption) | (have hcL9 := cLine_is; omega (config := {}))))) ?_
      intro h2 tk2 lc cs2 cc2 F2 N2 hcs l2
      k_lt l2
      try dsimp only
      have hel : cs2.length ≤ 12 := by
        have h1 := hcs.length; rw [List.length_map] at h1
        have h2 := encW_len (wordsX X)
        exact e12 h1 h2 hwc6
      (repeat' ((fail_if_success (with_reducible show wpAny _ _ (pyIter _) _ _ _)); (fail_if_success (with_reducible show LoopStepV _ _ _ _ _ _ _ _ _ _)); (fail_if_success (with_reducible show wpAny _ _ (exec (Stmt.While _ _ _ _) _) _ _ _)); first | (k_unfold; (try dsimp only)) | (with_reducible refine wpAny_execs_nil ?_; (try dsimp only)) | (k_end; wrow_close) | (walk1; (try dsimp only)) | (dsimp only; walk1) | (dsimp only [List.cons_append, List.nil_append]; walk1) | (leave1; walk_say "STEP leave1"; try dsimp only) | fail "no step"))
      ((k_here; k_dflt ((refine' call_cls ?k1 ?k2 ?k3 ?k4 ?k5 ?k6 ?_; (case k1 => k_asm); (case k2 => k_asm); (case k3 => k_asm); (case k4 => k_is); (case k5 => k_is); (case k6 => k_is); k_whole; intro x' d' h' F' N' l1 l2; (try k_lt l1); (try k_lt2 l2); (try k_sweep)); (k_dflt (first | (refine' code_def ?k1 ?k2 ?k3 ?k4 ?k5 ?kA ?kF ?kK ?k6 ?k7 ?k8 ?k9 ?kB ?_ ?c2 ?c3 ?c4 ?c5; (case kA => exact rfl); (case kF => exact rfl); (case kK => first | exact rfl | assumption); (case k1 => k_asm); (case k2 => k_asm); (case k3 => k_asm); (case k4 => k_asm); (case k5 => k_asm); (case k6 => k_is); (case k7 => k_is); (case k8 => first | k_room | ktr_room); (case k9 => first | exact BindsTo.of_eq rfl | exact binds_K (by k_in) rfl (by k_is) rfl rfl rfl | fail "k_enter: no rule for these arguments"); (case c5 => decide); (case kB => exact locs rfl); (case c2 => exact rfl); (case c3 => exact rfl); (case c4 => exact rfl); k_whole; intro g' L' h' FG' F' N' B' X' T'; (try dsimp only); (try k_lift B'); (try k_fold)) | (refine' code_defC ?k1 ?k2 ?k3 ?k4 ?k5 ?kA ?kF ?kK ?k6 ?k7 ?k8 ?k9 ?kB ?kD ?_ ?c2 ?c3 ?c4; (case kA => exact rfl); (case kF => exact rfl); (case kK => first | exact rfl | assumption); (case k1 => k_asm); (case k2 => k_asm); (case k3 => k_asm); (case k4 => k_asm); (case k5 => k_asm); (case k6 => k_is); (case k7 => k_is); (case k8 => first | k_room | ktr_room); (case k9 => first | exact BindsTo.of_eq rfl | exact binds_K (by k_in) rfl (by k_is) rfl rfl rfl | fail "k_enter: no rule for these arguments"); (case kB => exact rfl); (case kD => decide +kernel); (case c2 => exact rfl); (case c3 => exact rfl); (case c4 => exact rfl); k_whole; intro g' L' h' tk' cells' FG' F' N' Y' B' X' T' l1; (try k_lt l1); k_cells Y'; (try simp only [List.cons_append, List.nil_append] at N'); (try dsimp only); (try k_lift B'); (try k_fold)))))))
      (repeat' ((fail_if_success (with_reducible show wpAny _ _ (pyIter _) _ _ _)); (fail_if_success (with_reducible show LoopStepV _ _ _ _ _ _ _ _ _ _)); (fail_if_success (with_reducible show wpAny _ _ (exec (Stmt.While _ _ _ _) _) _ _ _)); first | (k_unfold; (try dsimp only)) | (with_reducible refine wpAny_execs_nil ?_; (try dsimp only)) | (k_end; wrow_close) | (walk1; (try dsimp only)) | (dsimp only; walk1) | (dsimp only [List.cons_append, List.nil_append]; walk1) | (leave1; walk_say "STEP leave1"; try dsimp only) | fail "no step"))
      ((refine wpAny_call ?_; (k_dflt (first | (refine' code_def ?k1 ?k2 ?k3 ?k4 ?k5 ?kA ?kF ?kK ?k6 ?k7 ?k8 ?k9 ?kB ?_ ?c2 ?c3 ?c4 ?c5; (case kA => exact rfl); (case kF => exact rfl); (case kK => first | exact rfl | assumption); (case k1 => k_asm); (case k2 => k_asm); (case k3 => k_asm); (case k4 => k_asm); (case k5 => k_asm); (case k6 => k_is); (case k7 => k_is); (case k8 => first | k_room | ktr_room); (case k9 => first | exact BindsTo.of_eq rfl | exact binds_K (by k_in) rfl (by k_is) rfl rfl rfl | fail "k_enter: no rule for these arguments"); (case c5 => decide); (case kB => exact locs rfl); (case c2 => exact rfl); (case c3 => exact rfl); (case c4 => exact rfl); k_whole; intro g' L' h' FG' F' N' B' X' T'; (try dsimp only); (try k_lift B'); (try k_fold)) | (refine' code_defC ?k1 ?k2 ?k3 ?k4 ?k5 ?kA ?kF ?kK ?k6 ?k7 ?k8 ?k9 ?kB ?kD ?_ ?c2 ?c3 ?c4; (case kA => exact rfl); (case kF => exact rfl); (case kK => first | exact rfl | assumption); (case k1 => k_asm); (case k2 => k_asm); (case k3 => k_asm); (case k4 => k_asm); (case k5 => k_asm); (case k6 => k_is); (case k7 => k_is); (case k8 => first | k_room | ktr_room); (case k9 => first | exact BindsTo.of_eq rfl | exact binds_K (by k_in) rfl (by k_is) rfl rfl rfl | fail "k_enter: no rule for these arguments"); (case kB => exact rfl); (case kD => decide +kernel); (case c2 => exact rfl); (case c3 => exact rfl); (case c4 => exact rfl); k_whole; intro g' L' h' tk' cells' FG' F' N' Y' B' X' T' l1; (try k_lt l1); k_cells Y'; (try simp only [List.cons_append, List.nil_append] at N'); (try dsimp only); (try k_lift B'); (try k_fold))))))
      (repeat' ((fail_if_success (with_reducible show wpAny _ _ (pyIter _) _ _ _)); (fail_if_success (with_reducible show LoopStepV _ _ _ _ _ _ _ _ _ _)); (fail_if_success (with_reducible show wpAny _ _ (exec (Stmt.While _ _ _ _) _) _ _ _)); first | (k_unfold; (try dsimp only)) | (with_reducible refine wpAny_execs_nil ?_; (try dsimp only)) | (k_end; wrow_close) | (walk1; (try dsimp only)) | (dsimp only; walk1) | (dsimp only [List.cons_append, List.nil_append]; walk1) | (leave1; walk_say "STEP leave1"; try dsimp only) | fail "no step"))
      ((refine wpAny_call ?_; (k_dflt (first | (refine' code_def ?k1 ?k2 ?k3 ?k4 ?k5 ?kA ?kF ?kK ?k6 ?k7 ?k8 ?k9 ?kB ?_ ?c2 ?c3 ?c4 ?c5; (case kA => exact rfl); (case kF => exact rfl); (case kK => first | exact rfl | assumption); (case k1 => k_asm); (case k2 => k_asm); (case k3 => k_asm); (case k4 => k_asm); (case k5 => k_asm); (case k6 => k_is); (case k7 => k_is); (case k8 => first | k_room | ktr_room); (case k9 => first | exact BindsTo.of_eq rfl | exact binds_K (by k_in) rfl (by k_is) rfl rfl rfl | fail "k_enter: no rule for these arguments"); (case c5 => decide); (case kB => exact locs rfl); (case c2 => exact rfl); (case c3 => exact rfl); (case c4 => exact rfl); k_whole; intro g' L' h' FG' F' N' B' X' T'; (try dsimp only); (try k_lift B'); (try k_fold)) | (refine' code_defC ?k1 ?k2 ?k3 ?k4 ?k5 ?kA ?kF ?kK ?k6 ?k7 ?k8 ?k9 ?kB ?kD ?_ ?c2 ?c3 ?c4; (case kA => exact rfl); (case kF => exact rfl); (case kK => first | exact rfl | assumption); (case k1 => k_asm); (case k2 => k_asm); (case k3 => k_asm); (case k4 => k_asm); (case k5 => k_asm); (case k6 => k_is); (case k7 => k_is); (case k8 => first | k_room | ktr_room); (case k9 => first | exact BindsTo.of_eq rfl | exact binds_K (by k_in) rfl (by k_is) rfl rfl rfl | fail "k_enter: no rule for these arguments"); (case kB => exact rfl); (case kD => decide +kernel); (case c2 => exact rfl); (case c3 => exact rfl); (case c4 => exact rfl); k_whole; intro g' L' h' tk' cells' FG' F' N' Y' B' X' T' l1; (try k_lt l1); k_cells Y'; (try simp only [List.cons_append, List.nil_append] at N'); (try dsimp only); (try k_lift B'); (try k_fold))))))
      (repeat' ((fail_if_success (with_reducible show wpAny _ _ (pyIter _) _ _ _)); (fail_if_success (with_reducible show LoopStepV _ _ _ _ _ _ _ _ _ _)); (fail_if_success (with_reducible show wpAny _ _ (exec (Stmt.While _ _ _ _) _) _ _ _)); first | (k_unfold; (try dsimp only)) | (with_reducible refine wpAny_execs_nil ?_; (try dsimp only)) | (k_end; wrow_close) | (walk1; (try dsimp only)) | (dsimp only; walk1) | (dsimp only [List.cons_append, List.nil_append]; walk1) | (leave1; walk_say "STEP leave1"; try dsimp only) | fail "no step"))
      rename News _ _ _ _ => NN
      rename KBw.bInts _ = _ ++ _ => hbi
      rename _ ∧ _ ∧ _ ∧ _ ∧ _ ∧ _ ∧ AllLt _ news => hAl
      have nE := fun p hp => neN (Nat.ne_of_lt (allLt_to hAl.2.2.2.2.2.2 p hp))
      refine for_list (OJ w _ _ _ (encW (wordsX X)) _) (by rfl) (by (repeat (first | assumption | exact List.Mem.head _ | refine' List.Mem.tail _ ?_))) (by k_asm) NN ⟨_, _, _, _, _, by with_unfolding_all rfl, rfl, by rw [hbi]; exact (List.append_nil _).symm⟩ ?_ ?_
      · rintro i v m₁ news₁ h tk I oI hv ⟨dat, t4, t5, t6, t7, e1, rfl, hbd⟩ off hlI F₁ N₁
        obtain ⟨y, t9, rfl, hy⟩ := IntsAre.at hcs i v hv
        rw [List.getElem?_map, Option.map_eq_some_iff] at hy
        obtain ⟨c, hc, rfl⟩ := hy
        have hc64 : ((c : Nat) : Int) < 18446744073709551616 := by
          have := encW_lt (Nat.le_trans hwc6 (by decide)) hw2 c (List.mem_of_getElem? hc)
          exact lt64b this
        have F₂ := fr_name (x := "f") F₁ e1
        clear F₁
        try dsimp only
        have f1 := neN (off _ (.head _))
        have f2 := neN (off _ (.tail _ (.head _)))
        replace hlI := neN hlI
        try dsimp only at f1 f2
        have hfl : (List.flatMap (fun c => be 8 ((c : Nat) : Int)) (List.take i (encW (wordsX X)))).length ≤ 1000 := by
          rw [flat8_len, List.length_take]
          have := hcs.length; rw [List.length_map] at this
          exact f1000 this hel
        (repeat' ((fail_if_success (with_reducible show wpAny _ _ (pyIter _) _ _ _)); (fail_if_success (with_reducible show LoopStepV _ _ _ _ _ _ _ _ _ _)); (fail_if_success (with_reducible show wpAny _ _ (exec (Stmt.While _ _ _ _) _) _ _ _)); first | (k_unfold; (try dsimp only)) | (with_reducible refine wpAny_execs_nil ?_; (try dsimp only)) | (k_end; wrow_close) | (walk1; (try dsimp only)) | (dsimp only; walk1) | (dsimp only [List.cons_append, List.nil_append]; walk1) | (leave1; walk_say "STEP leave1"; try dsimp only) | fail "no step"))
        ((refine wpAny_call ?_; (k_dflt (first | (refine' code_def ?k1 ?k2 ?k3 ?k4 ?k5 ?kA ?kF ?kK ?k6 ?k7 ?k8 ?k9 ?kB ?_ ?c2 ?c3 ?c4 ?c5; (case kA => exact rfl); (case kF => exact rfl); (case kK => first | exact rfl | assumption); (case k1 => k_asm); (case k2 => k_asm); (case k3 => k_asm); (case k4 => k_asm); (case k5 => k_asm); (case k6 => k_is); (case k7 => k_is); (case k8 => first | k_room | ktr_room); (case k9 => first | exact BindsTo.of_eq rfl | exact binds_K (by k_in) rfl (by k_is) rfl rfl rfl | fail "k_enter: no rule for these arguments"); (case c5 => decide); (case kB => exact locs rfl); (case c2 => exact rfl); (case c3 => exact rfl); (case c4 => exact rfl); k_whole; intro g' L' h' FG' F' N' B' X' T'; (try dsimp only); (try k_lift B'); (try k_fold)) | (refine' code_defC ?k1 ?k2 ?k3 ?k4 ?k5 ?kA ?kF ?kK ?k6 ?k7 ?k8 ?k9 ?kB ?kD ?_ ?c2 ?c3 ?c4; (case kA => exact rfl); (case kF => exact rfl); (case kK => first | exact rfl | assumption); (case k1 => k_asm); (case k2 => k_asm); (case k3 => k_asm); (case k4 => k_asm); (case k5 => k_asm); (case k6 => k_is); (case k7 => k_is); (case k8 => first | k_room | ktr_room); (case k9 => first | exact BindsTo.of_eq rfl | exact binds_K (by k_in) rfl (by k_is) rfl rfl rfl | fail "k_enter: no rule for these arguments"); (case kB => exact rfl); (case kD => decide +kernel); (case c2 => exact rfl); (case c3 => exact rfl); (case c4 => exact rfl); k_whole; intro g' L' h' tk' cells' FG' F' N' Y' B' X' T' l1; (try k_lt l1); k_cells Y'; (try simp only [List.cons_append, List.nil_append] at N'); (try dsimp only); (try k_lift B'); (try k_fold))))))
        (repeat' ((fail_if_success (with_reducible show wpAny _ _ (pyIter _) _ _ _)); (fail_if_success (with_reducible show LoopStepV _ _ _ _ _ _ _ _ _ _)); (fail_if_success (with_reducible show wpAny _ _ (exec (Stmt.While _ _ _ _) _) _ _ _)); first | (k_unfold; (try dsimp only)) | (with_reducible refine wpAny_execs_nil ?_; (try dsimp only)) | (k_end; wrow_close) | (walk1; (try dsimp only)) | (dsimp only; walk1) | (dsimp only [List.cons_append, List.nil_append]; walk1) | (leave1; walk_say "STEP leave1"; try dsimp only) | fail "no step"))
        rename Fr _ _ _ _ => F9
        rename News _ _ _ _ => N9
        rename KBw.bInts (_ ++ _) = _ => hb2
        exact io_turn F9 N9 (by with_unfolding_all rfl) off hc hb2 (by simp only [be, KTBy.little, List.reverse_cons, List.reverse_nil, List.nil_append, List.cons_append])
      · rintro m₁ news₁ h tk ⟨dat, t4, t5, t6, t7, e1, rfl, hbd⟩ F₁ N₁
        have hcl : cs2.length = (encW (wordsX X)).length := by have := hcs.length; rw [List.length_map] at this; exact this
        rw [hcl, List.take_length] at hbd
        have F₂ := fr_name (x := "f") F₁ e1
        clear F₁
        try dsimp only
        have hfl : (List.flatMap (fun c => be 8 ((c : Nat) : Int)) (encW (wordsX X))).length ≤ 1000 := by
          rw [flat8_len]; exact g1000 hcl hel
        (repeat' ((fail_if_success (with_reducible show wpAny _ _ (pyIter _) _ _ _)); (fail_if_success (with_reducible show LoopStepV _ _ _ _ _ _ _ _ _ _)); (fail_if_success (with_reducible show wpAny _ _ (exec (Stmt.While _ _ _ _) _) _ _ _)); first | (k_unfold; (try dsimp only)) | (with_reducible refine wpAny_execs_nil ?_; (try dsimp only)) | (k_end; wrow_close) | (walk1; (try dsimp only)) | (dsimp only; walk1) | (dsimp only [List.cons_append, List.nil_append]; walk1) | (leave1; walk_say "STEP leave1"; try dsimp only) | fail "no step"))
        ((refine wpAny_call ?_; (k_dflt (first | (refine' code_def ?k1 ?k2 ?k3 ?k4 ?k5 ?kA ?kF ?kK ?k6 ?k7 ?k8 ?k9 ?kB ?_ ?c2 ?c3 ?c4 ?c5; (case kA => exact rfl); (case kF => exact rfl); (case kK => first | exact rfl | assumption); (case k1 => k_asm); (case k2 => k_asm); (case k3 => k_asm); (case k4 => k_asm); (case k5 => k_asm); (case k6 => k_is); (case k7 => k_is); (case k8 => first | k_room | ktr_room); (case k9 => first | exact BindsTo.of_eq rfl | exact binds_K (by k_in) rfl (by k_is) rfl rfl rfl | fail "k_enter: no rule for these arguments"); (case c5 => decide); (case kB => exact locs rfl); (case c2 => exact rfl); (case c3 => exact rfl); (case c4 => exact rfl); k_whole; intro g' L' h' FG' F' N' B' X' T'; (try dsimp only); (try k_lift B'); (try k_fold)) | (refine' code_defC ?k1 ?k2 ?k3 ?k4 ?k5 ?kA ?kF ?kK ?k6 ?k7 ?k8 ?k9 ?kB ?kD ?_ ?c2 ?c3 ?c4; (case kA => exact rfl); (case kF => exact rfl); (case kK => first | exact rfl | assumption); (case k1 => k_asm); (case k2 => k_asm); (case k3 => k_asm); (case k4 => k_asm); (case k5 => k_asm); (case k6 => k_is); (case k7 => k_is); (case k8 => first | k_room | ktr_room); (case k9 => first | exact BindsTo.of_eq rfl | exact binds_K (by k_in) rfl (by k_is) rfl rfl rfl | fail "k_enter: no rule for these arguments"); (case kB => exact rfl); (case kD => decide +kernel); (case c2 => exact rfl); (case c3 => exact rfl); (case c4 => exact rfl); k_whole; intro g' L' h' tk' cells' FG' F' N' Y' B' X' T' l1; (try k_lt l1); k_cells Y'; (try simp only [List.cons_append, List.nil_append] at N'); (try dsimp only); (try k_lift B'); (try k_fold))))))
        (repeat' ((fail_if_success (with_reducible show wpAny _ _ (pyIter _) _ _ _)); (fail_if_success (with_reducible show LoopStepV _ _ _ _ _ _ _ _ _ _)); (fail_if_success (with_reducible show wpAny _ _ (exec (Stmt.While _ _ _ _) _) _ _ _)); first | (k_unfold; (try dsimp only)) | (with_reducible refine wpAny_execs_nil ?_; (try dsimp only)) | (k_end; wrow_close) | (walk1; (try dsimp only)) | (dsimp only; walk1) | (dsimp only [List.cons_append, List.nil_append]; walk1) | (leave1; walk_say "STEP leave1"; try dsimp only) | fail "no step"))
        ((refine wpAny_call ?_; (k_dflt (first | (refine' code_def ?k1 ?k2 ?k3 ?k4 ?k5 ?kA ?kF ?kK ?k6 ?k7 ?k8 ?k9 ?kB ?_ ?c2 ?c3 ?c4 ?c5; (case kA => exact rfl); (case kF => exact rfl); (case kK => first | exact rfl | assumption); (case k1 => k_asm); (case k2 => k_asm); (case k3 => k_asm); (case k4 => k_asm); (case k5 => k_asm); (case k6 => k_is); (case k7 => k_is); (case k8 => first | k_room | ktr_room); (case k9 => first | exact BindsTo.of_eq rfl | exact binds_K (by k_in) rfl (by k_is) rfl rfl rfl | fail "k_enter: no rule for these arguments"); (case c5 => decide); (case kB => exact locs rfl); (case c2 => exact rfl); (case c3 => exact rfl); (case c4 => exact rfl); k_whole; intro g' L' h' FG' F' N' B' X' T'; (try dsimp only); (try k_lift B'); (try k_fold)) | (refine' code_defC ?k1 ?k2 ?k3 ?k4 ?k5 ?kA ?kF ?kK ?k6 ?k7 ?k8 ?k9 ?kB ?kD ?_ ?c2 ?c3 ?c4; (case kA => exact rfl); (case kF => exact rfl); (case kK => first | exact rfl | assumption); (case k1 => k_asm); (case k2 => k_asm); (case k3 => k_asm); (case k4 => k_asm); (case k5 => k_asm); (case k6 => k_is); (case k7 => k_is); (case k8 => first | k_room | ktr_room); (case k9 => first | exact BindsTo.of_eq rfl | exact binds_K (by k_in) rfl (by k_is) rfl rfl rfl | fail "k_enter: no rule for these arguments"); (case kB => exact rfl); (case kD => decide +kernel); (case c2 => exact rfl); (case c3 => exact rfl); (case c4 => exact rfl); k_whole; intro g' L' h' tk' cells' FG' F' N' Y' B' X' T' l1; (try k_lt l1); k_cells Y'; (try simp only [List.cons_append, List.nil_append] at N'); (try dsimp only); (try k_lift B'); (try k_fold))))))
        (repeat' ((fail_if_success (with_reducible show wpAny _ _ (pyIter _) _ _ _)); (fail_if_success (with_reducible show LoopStepV _ _ _ _ _ _ _ _ _ _)); (fail_if_success (with_reducible show wpAny _ _ (exec (Stmt.While _ _ _ _) _) _ _ _)); first | (k_unfold; (try dsimp only)) | (with_reducible refine wpAny_execs_nil ?_; (try dsimp only)) | (k_end; wrow_close) | (walk1; (try dsimp only)) | (dsimp only; walk1) | (dsimp only [List.cons_append, List.nil_append]; walk1) | (leave1; walk_say "STEP leave1"; try dsimp only) | fail "no step"))
        rename Fr h₀ _ _ _ => F9
        rename News h₀ _ _ _ => N9
        rename KBw.bInts (_ ++ _) = _ => hb2
        refine ret _ _ _ _ F9 (fun p hp => N9 p (.tail _ (.tail _ (.tail _ (.tail _ (.tail _ (.tail _ (.tail _ (.tail _ hp))))))))) ?_
        rw [hb2]
        unfold octI
        rw [mb1 hmb hb0]
        simp only [be, KTBy.little, List.reverse_cons, List.reverse_nil, List.nil_append, List.cons_append, List.append_assoc]
end D_F7
namespace D_F8
open D_F2
open D_F3
open D_F6
open D_F7
def encAt (X : Nat) (k : Int) : Int := (((encW (wordsX X)).getD k.toNat 0 : Nat) : Int)
local macro_rules | `(tactic| walk_at "CompSrc") => `(tactic| (k_here; k_dflt ((refine LCg.CompSrc.range (by rfl) (by k_asm) (by k_asm) (by assumption) (small_one (by decide) (by decide) (by omega) (by omega)) (rangeSize_nat _ _) (by rw [PySem.sizeLine_eq]; omega) ?_); intro g'; (refine' kcf_range (encAt _) (fun k' t' I' oI' C' oC' D' m' ys' h' tk' E' hlo' hhi' hC' hx' F' N' off' ne' hMark' => ?_) ?_); (all_goals (try (simp only [LCg.Off3, and_true] at off'))); kcf_last)))
omit B F KI N T hk in
theorem clipN (n k : Nat) (h : k ≤ n) : clipAt n ((k : Nat) : Int) = k := by rw [clipAt_nat]; omega
def RdX (X : Nat) (lw : Addr) (newsA : List (Addr × Obj)) (cnt : Option Value) (k p : Nat) (m : Str → Option Value) (news : List (Addr × Obj)) : Prop :=
  ∃ z1 t1 z2 t2 z3 t3 zm tm, m "words" = some (.ref lw) ∧ m "many" = some (.int zm tm) ∧ m "number" = some (.int z1 t1) ∧ m "at" = some (.int z2 t2) ∧ m "place" = some (.int z3 t3) ∧ m "count" = cnt ∧
    zm = (((encW (wordsX X)).length : Nat) : Int) ∧ z1 = ((X % 2 ^ (64 * k) : Nat) : Int) ∧ z2 = ((64 * k : Nat) : Int) ∧ z3 = ((p : Nat) : Int) ∧ news = newsA
def RdJ (X ne : Nat) (q : Addr × List (Addr × Obj) × Option Value) (n : Nat) (m : Str → Option Value) (news : List (Addr × Obj)) : Prop :=
  ∃ k p, RdX X q.1 q.2.1 q.2.2 k p m news ∧ (p = 0 ∨ k = wcount X ∨ isLit ((wordsX X).getD k 0) = false) ∧ (encW (wordsX X)).drop p = encW ((wordsX X).drop k) ∧ p ≤ ne ∧ n = ne - p ∧ k ≤ wcount X
def RdE (X : Nat) (q : Addr × List (Addr × Obj) × Option Value) (m : Str → Option Value) (news : List (Addr × Obj)) : Prop :=
  RdX X q.1 q.2.1 q.2.2 (wcount X) (encW (wordsX X)).length m news
omit B F KI N T hk in
theorem enc_list {X ne : Nat} {ys : List Value} (hne : ne = (encW (wordsX X)).length) (h : IntsAre ys ((rangeKs 0 (((ne : Nat) : Int) - 0).toNat).map (encAt X))) : IntsAre ys (asInts (encW (wordsX X))) := by
  have e : (rangeKs 0 (((ne : Nat) : Int) - 0).toNat).map (encAt X) = asInts (encW (wordsX X)) := by
    refine List.ext_getElem (by simp [rangeKs, hne]) fun i h1 h2 => ?_
    have h3 : i < (encW (wordsX X)).length := by simpa using h2
    simp only [rangeKs, List.getElem_map, List.getElem_range, encAt]
    rw [show ((0 : Int) + (i : Int)).toNat = i by omega, List.getD_eq_getElem?_getD, List.getElem?_eq_getElem h3]
    rfl
  rw [← e]; exact h
omit B F KI N T hk in
theorem cut_to {prog : Program} {w : World} {A : Around} {E : Value → Shared → Prop} {Q : Flow → Shared → Prop} {s : Shared} {st : Stmt} {env : Env} {h₀ : Heap} {L : Addr}
    (Y : (Str → Option Value) → List (Addr × Obj) → Prop)
    (h1 : wpAny (model prog w) A (exec st env) (Out h₀ L s Y) E s) (h2 : ∀ m' news' h tk, Fr h₀ L h m' → News h₀ L h news' → Y m' news' → Q .next { s with heap := h, toks := tk }) : wpAny (model prog w) A (exec st env) Q E s :=
  wpAny_mono h1 (fun f s' h => by
    obtain ⟨rfl, h, tk, m, news, rfl, F, N, hX⟩ := h
    exact h2 _ _ _ _ F N hX) fun _ _ e => e
omit B F KI N T hk in
theorem cut_same {prog : Program} {w : World} {A : Around} {E : Value → Shared → Prop} {Q : Flow → Shared → Prop} {s : Shared} {st : Stmt} {env : Env} {h₀ : Heap} {L : Addr} {m : Str → Option Value} {news : List (Addr × Obj)}
    (F : Fr h₀ L s.heap m) (N : News h₀ L s.heap news)
    (h1 : wpAny (model prog w) A (exec st env) (Out h₀ L s (fun m' n' => m' = m ∧ n' = news)) E s) (h2 : ∀ h tk, Fr h₀ L h m → News h₀ L h news → Q .next { s with heap := h, toks := tk }) : wpAny (model prog w) A (exec st env) Q E s :=
  cut_to _ h1 fun m' news' h tk F N e => by
    obtain ⟨e1, e2⟩ := e
    exact h2 h tk (e1 ▸ F) (e2 ▸ N)
omit B F KI N T hk in
theorem cut_par {α : Type} {prog : Program} {w : World} {A : Around} {E : Value → Shared → Prop} {Q : Flow → Shared → Prop} {s : Shared} {st : Stmt} {env : Env} {h₀ : Heap} {L : Addr}
    (P : α → Nat → (Str → Option Value) → List (Addr × Obj) → Prop) {p : α} {n : Nat} {m₁ m : Str → Option Value} {news₁ news : List (Addr × Obj)} (hP : P p n m₁ news₁)
    (Y : α → (Str → Option Value) → List (Addr × Obj) → Prop) (F : Fr h₀ L s.heap m) (N : News h₀ L s.heap news)
    (h1 : wpAny (model prog w) A (exec st env) (Out h₀ L s (Y p)) E s) (h2 : ∀ m' news' h tk, Fr h₀ L h m' → News h₀ L h news' → Y p m' news' → Q .next { s with heap := h, toks := tk }) : wpAny (model prog w) A (exec st env) Q E s := cut_to (Y p) h1 h2
omit B F KI N T hk in
theorem ones_bits {r : Nat} : Builtin.Int.intBits ((2 : Int) ^ (64 * (r : Int)).toNat - 1) ≤ 64 * r := by
  have e : (64 * (r : Int)).toNat = 64 * r := by omega
  rw [intBits_le_iff, e, show ((2 : Int) ^ (64 * r)) = ((2 ^ (64 * r) : Nat) : Int) from by push_cast; rfl]
  have := Nat.two_pow_pos (64 * r)
  omega
omit B F KI N T hk in
theorem pow_sub_shift {a b : Nat} : ((2 : Int) ^ a - (1 : Int)) * (2 : Int) ^ b = Int.ofNat ((2 ^ a - 1) <<< b) := by
  have h2 := Nat.two_pow_pos a
  have e : Int.ofNat (2 ^ a - 1) = ((2 : Int) ^ a - (1 : Int)) := by
    show ((2 ^ a - 1 : Nat) : Int) = _
    rw [Int.natCast_sub h2]; push_cast; rfl
  rw [Nat.shiftLeft_eq, ← e]
  show _ = (((2 ^ a - 1) * 2 ^ b : Nat) : Int)
  rw [Int.natCast_mul]; push_cast; rfl
omit B F KI N T hk in
theorem num_ones {X k r : Nat} {z1 z2 : Int} (hz1 : z1 = ((X % 2 ^ (64 * k) : Nat) : Int)) (hz2 : z2 = ((64 * k : Nat) : Int)) (hk : k + r ≤ wcount X) (h : ∀ j < r, (wordsX X).getD (k + j) 0 = 2 ^ 64 - 1) :
    Builtin.bitOr z1 ((2 ^ (64 * (r : Int)).toNat - 1) * 2 ^ z2.toNat) = ((X % 2 ^ (64 * (k + r)) : Nat) : Int) := by
  have e : (64 * (r : Int)).toNat = 64 * r := by omega
  have h2 := Nat.two_pow_pos (64 * r)
  rw [hz1, hz2, Int.toNat_natCast, e, pow_sub_shift, low_ones hk h]
  exact bitOr_nat _ _
omit B F KI N T hk in
theorem num_lit {X k : Nat} {z1 z2 zw : Int} (hz1 : z1 = ((X % 2 ^ (64 * k) : Nat) : Int)) (hz2 : z2 = ((64 * k : Nat) : Int)) (hk : k < wcount X) (hw : zw = (((wordsX X).getD k 0 : Nat) : Int)) :
    Builtin.bitOr z1 (zw * 2 ^ z2.toNat) = ((X % 2 ^ (64 * (k + 1)) : Nat) : Int) := by
  rw [hz1, hz2, hw, Int.toNat_natCast, show (((wordsX X).getD k 0 : Nat) : Int) * 2 ^ (64 * k) = (((wordsX X).getD k 0 <<< (64 * k) : Nat) : Int) from by rw [Nat.shiftLeft_eq, Int.natCast_mul]; push_cast; rfl, bitOr_nat, low_lit hk]
omit B F KI N T hk in
theorem bit_val {H b : Nat} (h : H % 2 = b) : Builtin.bitAnd ((H : Nat) : Int) 1 = ((b : Nat) : Int) := by
  rw [show (1 : Int) = ((2 ^ 1 - 1 : Nat) : Int) from rfl, bitAnd_nat, Nat.and_two_pow_sub_one_eq_mod, ← h]
def RdY (X k1 k2 p H r : Nat) (q : Addr × List (Addr × Obj) × Option Value) (m : Str → Option Value) (news : List (Addr × Obj)) : Prop :=
  ∃ z1 t1 z2 t2 z3 t3 zm tm zh th zr tr, m "words" = some (.ref q.1) ∧ m "many" = some (.int zm tm) ∧ m "number" = some (.int z1 t1) ∧ m "at" = some (.int z2 t2) ∧ m "place" = some (.int z3 t3) ∧ m "count" = q.2.2 ∧
    m "head" = some (.int zh th) ∧ m "run" = some (.int zr tr) ∧
    zm = (((encW (wordsX X)).length : Nat) : Int) ∧ z1 = ((X % 2 ^ (64 * k1) : Nat) : Int) ∧ z2 = ((64 * k2 : Nat) : Int) ∧ z3 = ((p : Nat) : Int) ∧ zh = ((H : Nat) : Int) ∧ zr = ((r : Nat) : Int) ∧ news = q.2.1
local macro_rules | `(tactic| walk_at "exec For Name Subscript cons nil") => `(tactic| walk_at "my for")
omit B F KI N T hk in
theorem notlit_zero {x : Nat} (h : isLit x = false) (h2 : x ≠ 2 ^ 64 - 1) : x = 0 := by
  unfold isLit at h
  rw [Bool.and_eq_false_iff] at h
  rcases h with h | h
  · simpa using h
  · exact absurd (by simpa using h) h2
omit B F KI N T hk in
theorem lit_ne {x : Nat} (h : isLit x = true) : x ≠ 0 ∧ x ≠ 2 ^ 64 - 1 := by
  unfold isLit at h
  rw [Bool.and_eq_true] at h
  exact ⟨by simpa using h.1, by simpa using h.2⟩
omit B F KI N T hk in
theorem lits_slice {C W R : List Nat} {p k1 l H : Nat} {z3 f : Int} (h : C.drop p = H :: ((W.drop k1).take l ++ R)) (hz : z3 = ((p : Nat) : Int)) (hf : f = ((l : Nat) : Int)) (hl : k1 + l ≤ W.length) :
    ((asInts C).drop (z3 + 1).toNat).take (min (z3 + 1 + f).toNat (asInts C).length - (z3 + 1).toNat) = asInts ((W.drop k1).take l) := by
  have e1 : (z3 + 1).toNat = p + 1 := by omega
  have e2 : (z3 + 1 + f).toNat = p + 1 + l := by omega
  have hL := congrArg List.length h
  simp only [List.length_drop, List.length_cons, List.length_append, List.length_take] at hL
  have e3 : min (p + 1 + l) (asInts C).length - (p + 1) = l := by rw [List.length_map]; omega
  have h1 : C.drop (p + 1) = (W.drop k1).take l ++ R := by rw [← List.drop_drop, h]; rfl
  have e4 : ((W.drop k1).take l).length = l := by rw [List.length_take, List.length_drop]; omega
  rw [e1, e2, e3, ← List.map_drop, ← List.map_take, h1, List.take_append_of_le_length (by omega), List.take_of_length_le (by omega)]
omit B F KI N T hk in
theorem lits_after {C W R : List Nat} {p k1 l H : Nat} (h : C.drop p = H :: ((W.drop k1).take l ++ R)) (hl : k1 + l ≤ W.length) : C.drop (p + (1 + l)) = R := by
  have e4 : ((W.drop k1).take l).length = l := by rw [List.length_take, List.length_drop]; omega
  rw [← List.drop_drop, h, Nat.add_comm 1 l, List.drop_succ_cons, List.drop_append_of_le_length (by omega), List.drop_of_length_le (by omega)]; rfl
omit B F KI N T hk in
theorem lits_get {W : List Nat} {k1 l i : Nat} (hl : k1 + l ≤ W.length) (hi : i < l) : (asInts ((W.drop k1).take l)).getD i 0 = ((W.getD (k1 + i) 0 : Nat) : Int) := by
  rw [getD_ints, List.getD_eq_getElem?_getD, List.getD_eq_getElem?_getD, List.getElem?_take, if_pos hi, List.getElem?_drop]
section
omit B F KI N T hk
variable {prog : Program} {A : Around} {E : Value → Shared → Prop} {s : Shared} {env : Env} {x : Str} {body : List Stmt} {Q : Flow → Shared → Prop}
theorem for_par {α : Type} {l : Addr} {vs : List Value} {c : Nat} (J : α → Nat → (Str → Option Value) → List (Addr × Obj) → Prop) (p : α) (hh : A.handled = none) (hl : (l, listOf vs.toArray c) ∈ news)
    (F : Fr h₀ env.locals s.heap m) (N : News h₀ env.locals s.heap news) (hj : J p 0 m news)
    (turn : ∀ i v m₁ news₁ h tk (I : Addr) (oI : Obj), vs[i]? = some v → J p i m₁ news₁ → (∀ p ∈ news₁, p.1 ≠ I) → l ≠ I → Fr h₀ env.locals h (fun y => if y = x then some v else m₁ y) → News h₀ env.locals h ((I, oI) :: (l, listOf vs.toArray c) :: news₁) →
      wpAny (model prog w) A (execs body env) (LoopStepV h₀ env.locals [I] [(I, oI), (l, listOf vs.toArray c)] (J p (i + 1)) { s with heap := h, toks := tk } (fun v s' => Q (.ret v) s') fun s' => Q .next s') E { s with heap := h, toks := tk })
    (done : ∀ m₁ news₁ h tk, J p vs.length m₁ news₁ → Fr h₀ env.locals h m₁ → News h₀ env.locals h news₁ → Q .next { s with heap := h, toks := tk }) :
    wpAny (model prog w) A (pyIter (.ref l)) (fun it s₂ => LoopAtV prog w A h₀ env x body Q E it s₂) E s := for_list (J p) hh hl F N hj turn done
end
omit B F KI N T hk in
theorem RdY.elim {X k1 k2 p H r : Nat} {lw : Addr} {nA : List (Addr × Obj)} {cn : Option Value} {m : Str → Option Value} {news : List (Addr × Obj)} {P : Prop} (h : RdY X k1 k2 p H r (lw, nA, cn) m news)
    (c : ∀ z1 t1 z2 t2 z3 t3 zm tm th tr, news = nA → m "words" = some (.ref lw) → m "many" = some (.int zm tm) → m "number" = some (.int z1 t1) → m "at" = some (.int z2 t2) → m "place" = some (.int z3 t3) → m "count" = cn →
      m "head" = some (.int ((H : Nat) : Int) th) → m "run" = some (.int ((r : Nat) : Int) tr) →
      zm = (((encW (wordsX X)).length : Nat) : Int) → z1 = ((X % 2 ^ (64 * k1) : Nat) : Int) → z2 = ((64 * k2 : Nat) : Int) → z3 = ((p : Nat) : Int) → P) : P := by
  obtain ⟨z1, t1, z2, t2, z3, t3, zm, tm, zh, th, zr, tr, e1, e2, e3, e4, e5, e6, e7, e8, hzm, hz1, hz2, hz3, hzh, hzr, hq⟩ := h
  subst hzh hzr
  exact c z1 t1 z2 t2 z3 t3 zm tm th tr hq e1 e2 e3 e4 e5 e6 e7 e8 hzm hz1 hz2 hz3
omit B F KI N T hk in
theorem RdJ.elim {X ne n : Nat} {lw : Addr} {nA : List (Addr × Obj)} {cn : Option Value} {m : Str → Option Value} {news : List (Addr × Obj)} {P : Prop} (h : RdJ X ne (lw, nA, cn) n m news)
    (c : ∀ k p z1 t1 z2 t2 z3 t3 zm tm, news = nA → m "words" = some (.ref lw) → m "many" = some (.int zm tm) → m "number" = some (.int z1 t1) → m "at" = some (.int z2 t2) → m "place" = some (.int z3 t3) → m "count" = cn →
      zm = (((encW (wordsX X)).length : Nat) : Int) → z1 = ((X % 2 ^ (64 * k) : Nat) : Int) → z2 = ((64 * k : Nat) : Int) → z3 = ((p : Nat) : Int) →
      (p = 0 ∨ k = wcount X ∨ isLit ((wordsX X).getD k 0) = false) → (encW (wordsX X)).drop p = encW ((wordsX X).drop k) → p ≤ ne → n = ne - p → k ≤ wcount X → P) : P := by
  obtain ⟨k, p, ⟨z1, t1, z2, t2, z3, t3, zm, tm, e1, e2, e3, e4, e5, e6, hzm, hz1, hz2, hz3, hq⟩, hp0, hdr, hpn, hn2, hkw⟩ := h
  exact c k p z1 t1 z2 t2 z3 t3 zm tm hq e1 e2 e3 e4 e5 e6 hzm hz1 hz2 hz3 hp0 hdr hpn hn2 hkw
omit B F KI N T hk in
theorem chunk_elim {W : List Nat} {k : Nat} {P : Prop} (hk : k < W.length)
    (c : ∀ r l H, (r < 2 ^ 32 → H / 2 ^ 33 = l) → (r < 2 ^ 32 → H / 2 % 2 ^ 32 = r) → (r < 2 ^ 32 → H % 2 = bitOf (W.getD k 0)) → encW (W.drop k) = H :: ((W.drop (k + r)).take l ++ encW (W.drop (k + r + l))) →
    k + r + l ≤ W.length → (∀ j < r, W.getD (k + j) 0 = W.getD k 0) → (∀ j < l, isLit (W.getD (k + r + j) 0) = true) → (k + r + l = W.length ∨ isLit (W.getD (k + r + l) 0) = false) →
    (isLit (W.getD k 0) = true → r = 0) → (isLit (W.getD k 0) = false → 0 < r) → 0 < r + l → P) : P := by
  obtain ⟨r, l, hch, c1, c2, c3, c4, c5, c6, c7⟩ := chunk_of hk
  exact c r l _ hdr_lits hdr_run hdr_bit hch c1 c2 c3 c4 c5 c6 c7
omit B F KI N T hk in
theorem lit_item {X k1 l i : Nat} {ws : List Value} {v : Value} {P : Prop} (hI : IntsAre ws (asInts (((wordsX X).drop k1).take l))) (hv : ws[i]? = some v) (hl : k1 + l ≤ (wordsX X).length)
    (c3 : ∀ j < l, isLit ((wordsX X).getD (k1 + j) 0) = true)
    (c : ∀ (wv : Nat) tv, v = .int ((wv : Nat) : Int) tv → i < l → wv = (wordsX X).getD (k1 + i) 0 → wv ≠ 0 → wv ≠ 2 ^ 64 - 1 → wv < 2 ^ 64 → P) : P := by
  have h1 := (List.getElem?_eq_some_iff.mp hv).1
  have h2 := hI.length
  have hil : i < l := by
    rw [h2, List.length_map, List.length_take] at h1
    omega
  obtain ⟨tv, hv2⟩ := ints_get hI (q := i) (by rw [← h2]; exact h1)
  rw [hv, lits_get hl hil] at hv2
  have h3 := lit_ne (c3 i hil)
  exact c _ tv (Option.some.inj hv2) hil rfl h3.1 h3.2 (getD_lt (wordsX_lt X) (by decide) _)
omit B F KI N T hk in
theorem RdX.elim {X k p : Nat} {lw : Addr} {nA : List (Addr × Obj)} {cn : Option Value} {m : Str → Option Value} {news : List (Addr × Obj)} {P : Prop} (h : RdX X lw nA cn k p m news)
    (c : ∀ z1 t1 z2 t2 z3 t3 zm tm, news = nA → m "words" = some (.ref lw) → m "many" = some (.int zm tm) → m "number" = some (.int z1 t1) → m "at" = some (.int z2 t2) → m "place" = some (.int z3 t3) → m "count" = cn →
      zm = (((encW (wordsX X)).length : Nat) : Int) → z1 = ((X % 2 ^ (64 * k) : Nat) : Int) → z2 = ((64 * k : Nat) : Int) → z3 = ((p : Nat) : Int) → P) : P := by
  obtain ⟨z1, t1, z2, t2, z3, t3, zm, tm, e1, e2, e3, e4, e5, e6, hzm, hz1, hz2, hz3, hq⟩ := h
  exact c z1 t1 z2 t2 z3 t3 zm tm hq e1 e2 e3 e4 e5 e6 hzm hz1 hz2 hz3
omit B F KI N T hk in
theorem plus_fdiv {p l : Nat} {f : Int} (h : f = ((l : Nat) : Int)) : ((p : Nat) : Int) + (1 + f) = ((p + (1 + l) : Nat) : Int) := by omega
omit B F KI N T hk in
theorem encW_drop_nil {W : List Nat} {k : Nat} (h : encW (W.drop k) = []) : W.length ≤ k := by
  cases e : W.drop k with
  | nil => exact List.drop_eq_nil_iff.mp e
  | cons x V => rw [e, encW_cons] at h; cases h
omit B F KI N T hk in
theorem news_drop4 {h₀ h : Heap} {L : Addr} {a b c d e : Addr × Obj} {news : List (Addr × Obj)} (N : News h₀ L h (a :: b :: c :: d :: e :: news)) : News h₀ L h (a :: news) := fun p hp => by
  rcases List.mem_cons.mp hp with rfl | hp
  · exact N _ (.head _)
  · exact N p (.tail _ (.tail _ (.tail _ (.tail _ (.tail _ hp)))))
omit B F KI N T hk in
theorem le6 {k r l n c : Nat} (c1 : k + r + l ≤ n) (hwl : n = c) (hwc : c ≤ 6) : r ≤ 6 := by omega
omit B F KI N T hk in
theorem left_lt {ne n p l : Nat} (hn : n = ne - p) (hpl : p + (1 + l) ≤ ne) : ne - (p + (1 + l)) < n := by omega
omit B F KI N T hk in
theorem lits_len1 {C W R : List Nat} {p k1 l H ne : Nat} (h : C.drop p = H :: ((W.drop k1).take l ++ R)) (hl : k1 + l ≤ W.length) (hne : ne = C.length) : p + (1 + l) ≤ ne := by
  have hL := congrArg List.length h
  simp only [List.length_drop, List.length_cons, List.length_append, List.length_take] at hL
  omega
def RdF (X k1 p H : Nat) (q : Addr × List (Addr × Obj) × Option Value) (i : Nat) (m : Str → Option Value) (news : List (Addr × Obj)) : Prop :=
  ∃ r, RdY X (k1 + i) (k1 + i) p H r q m news
omit B F KI N T hk in
theorem run_val {H r : Nat} (h : H / 2 % 2 ^ 32 = r) : Builtin.bitAnd (((H : Nat) : Int).fdiv (2 ^ Int.toNat 1)) (2 ^ Int.toNat 32 - 1) = ((r : Nat) : Int) := by
  rw [show ((2 : Int) ^ Int.toNat 1) = ((2 : Nat) : Int) from rfl, show ((2 : Int) ^ Int.toNat 32 - 1) = ((2 ^ 32 - 1 : Nat) : Int) from by decide, Int.fdiv_eq_ediv_of_nonneg _ (by decide), ← Int.natCast_ediv, bitAnd_nat, Nat.and_two_pow_sub_one_eq_mod, h]
set_option maxRecDepth 100000 in
set_option maxHeartbeats 8000000 in
theorem read_ok {X : Nat} {oc : Array UInt8} {t9 : Tok} (hX : X < 2 ^ 384) (hoc : KBw.bInts oc = octI X) (hdp : dp + 2 < recursionLimit) (hu : un + 16 < cLine)
    (ret : ∀ (h' : Heap) (tk' : Nat) l tu tu2, Fr h₀ L h' m → News h₀ L h' ((l, kdv_tup [.int (bl X : Nat) tu, .int (X : Nat) tu2]) :: news) → Q (.ref l) { s with heap := h', toks := tk' }) :
    wpAny (model prog w) (ktrTop dp un gd cn cs L a ccd cl outer) (call (.ref 173) [.bytes oc t9]) Q E s := by
  have hel := encX_len hX
  have hbl := bl_le384 hX
  obtain ⟨ne, hne⟩ : ∃ ne, ne = (encW (wordsX X)).length := ⟨_, rfl⟩
  have holn : (octI X).length = 12 + 8 * ne := by rw [octI_len, hne]
  have hol : (octI X).length ≤ 200 := ol200 holn hne hel
  have hne12 : ne ≤ 12 := hne ▸ hel
  have hO1 : (octI X).length ≤ 16777216 := le62 hol rfl
  have hO2 : (octI X).length ≤ 1099511627776 := le62 hol rfl
  have hnT := neT hne12
  have hC1 : (encW (wordsX X)).length ≤ 16777216 := le62 hel rfl
  refine wpAny_call ?_
  (k_dflt (first | (refine' code_def ?k1 ?k2 ?k3 ?k4 ?k5 ?kA ?kF ?kK ?k6 ?k7 ?k8 ?k9 ?kB ?_ ?c2 ?c3 ?c4 ?c5; (case kA => exact rfl); (case kF => exact rfl); (case kK => first | exact rfl | assumption); (case k1 => k_asm); (case k2 => k_asm); (case k3 => k_asm); (case k4 => k_asm); (case k5 => k_asm); (case k6 => k_is); (case k7 => k_is); (case k8 => first | k_room | ktr_room); (case k9 => first | exact BindsTo.of_eq rfl | exact binds_K (by k_in) rfl (by k_is) rfl rfl rfl | fail "k_enter: no rule for these arguments"); (case c5 => decide); (case kB => exact locs rfl); (case c2 => exact rfl); (case c3 => exact rfl); (case c4 => exact rfl); k_whole; intro g' L' h' FG' F' N' B' X' T'; (try dsimp only); (try k_lift B'); (try k_fold)) | (refine' code_defC ?k1 ?k2 ?k3 ?k4 ?k5 ?kA ?kF ?kK ?k6 ?k7 ?k8 ?k9 ?kB ?kD ?_ ?c2 ?c3 ?c4; (case kA => exact rfl); (case kF => exact rfl); (case kK => first | exact rfl | assumption); (case k1 => k_asm); (case k2 => k_asm); (case k3 => k_asm); (case k4 => k_asm); (case k5 => k_asm); (case k6 => k_is); (case k7 => k_is); (case k8 => first | k_room | ktr_room); (case k9 => first | exact BindsTo.of_eq rfl | exact binds_K (by k_in) rfl (by k_is) rfl rfl rfl | fail "k_enter: no rule for these arguments"); (case kB => exact rfl); (case kD => decide +kernel); (case c2 => exact rfl); (case c3 => exact rfl); (case c4 => exact rfl); k_whole; intro g' L' h' tk' cells' FG' F' N' Y' B' X' T' l1; (try k_lt l1); k_cells Y'; (try simp only [List.cons_append, List.nil_append] at N'); (try dsimp only); (try k_lift B'); (try k_fold))))
  (repeat' ((fail_if_success (with_reducible show wpAny _ _ (pyIter _) _ _ _)); (fail_if_success (with_reducible show LoopStepV _ _ _ _ _ _ _ _ _ _)); (fail_if_success (with_reducible show wpAny _ _ (exec (Stmt.While _ _ _ _) _) _ _ _)); first | (k_unfold; (try dsimp only)) | (with_reducible refine wpAny_execs_nil ?_; (try dsimp only)) | (k_end; wrow_close) | (walk1; (try dsimp only)) | (dsimp only; walk1) | (dsimp only [List.cons_append, List.nil_append]; walk1) | (leave1; walk_say "STEP leave1"; try dsimp only) | fail "no step"))
  rename KBw.bInts (KBy.picked oc none _) = _ => hk1
  have hk1' : KBw.bInts (KBy.picked oc none (some 4)) = be 4 ((bl X : Nat) : Int) := by rw [hk1, show clipAt (octI X).length 4 = 4 from clipN _ 4 (ol12 holn rfl), oct_a]
  k_dflt (refine' KFB.call_big ?a1 ?a2 hk1' (by rw [be_len]; decide) ?_; (case a1 => k_asm); (case a2 => (repeat (first | assumption | exact List.Mem.head _ | refine' List.Mem.tail _ ?_))))
  rw [value_be (z0 _) (lt4b hbl rfl)]
  intro t1' k1'
  clear hk1 hk1'
  (repeat' ((fail_if_success (with_reducible show wpAny _ _ (pyIter _) _ _ _)); (fail_if_success (with_reducible show LoopStepV _ _ _ _ _ _ _ _ _ _)); (fail_if_success (with_reducible show wpAny _ _ (exec (Stmt.While _ _ _ _) _) _ _ _)); first | (k_unfold; (try dsimp only)) | (with_reducible refine wpAny_execs_nil ?_; (try dsimp only)) | (k_end; wrow_close) | (walk1; (try dsimp only)) | (dsimp only; walk1) | (dsimp only [List.cons_append, List.nil_append]; walk1) | (leave1; walk_say "STEP leave1"; try dsimp only) | fail "no step"))
  rename KBw.bInts (KBy.picked oc _ _) = _ => hk1
  have hk1' : KBw.bInts (KBy.picked oc (some 4) (some 8)) = be 4 (((encW (wordsX X)).length : Nat) : Int) := by
    rw [hk1, show clipAt (octI X).length 4 = 4 from clipN _ 4 (ol12 holn rfl), show clipAt (octI X).length 8 = 8 from clipN _ 8 (ol12 holn rfl)]; exact oct_b X
  rw [← hne] at hk1'
  k_dflt (refine' KFB.call_big ?a1 ?a2 hk1' (by rw [be_len]; decide) ?_; (case a1 => k_asm); (case a2 => (repeat (first | assumption | exact List.Mem.head _ | refine' List.Mem.tail _ ?_))))
  rw [value_be (z0 _) (lt4b hne12 rfl)]
  intro t2' k2'
  clear hk1 hk1'
  have hne2 : (0 : Int) + ((ne : Nat) : Int) ≤ 12 := by rw [Int.zero_add]; exact Int.ofNat_le.mpr hne12
  (repeat' ((fail_if_success (with_reducible show wpAny _ _ (pyIter _) _ _ _)); (fail_if_success (with_reducible show LoopStepV _ _ _ _ _ _ _ _ _ _)); (fail_if_success (with_reducible show wpAny _ _ (exec (Stmt.While _ _ _ _) _) _ _ _)); first | (k_unfold; (try dsimp only)) | (with_reducible refine wpAny_execs_nil ?_; (try dsimp only)) | (k_end; wrow_close) | (walk1; (try dsimp only)) | (dsimp only; walk1) | (dsimp only [List.cons_append, List.nil_append]; walk1) | (leave1; walk_say "STEP leave1"; try dsimp only) | fail "no step"))
  · rename ((octI X).length : Int) ≠ _ => hbad
    exact absurd (congrArg Int.ofNat holn) hbad
  rotate_right
  · exact X
  · rename KBw.bInts (KBy.picked oc _ _) = _ => hk1
    rename _ < (0 : Int) + _ => hhi
    rename (0 : Int) ≤ _ => hlo
    obtain ⟨kk, rfl⟩ := Int.eq_ofNat_of_zero_le hlo
    have hkn : kk < (encW (wordsX X)).length := hik hhi hne
    have hget : (encW (wordsX X))[kk]? = some ((encW (wordsX X)).getD kk 0) := by rw [List.getD_eq_getElem?_getD, List.getElem?_eq_getElem hkn]; rfl
    have hclt := encX_lt hX _ (List.mem_of_getElem? hget)
    have hk1' : KBw.bInts (KBy.picked oc (some (8 + 8 * ((kk : Nat) : Int))) (some (16 + 8 * ((kk : Nat) : Int)))) = be 8 (((encW (wordsX X)).getD kk 0 : Nat) : Int) := by
      have e1 : clipAt (octI X).length (8 + 8 * ((kk : Nat) : Int)) = 8 + 8 * kk := (by rw [show (8 + 8 * ((kk : Nat) : Int)) = (((8 + 8 * kk : Nat)) : Int) from rfl]; exact clipN _ _ (okk8 holn hne hkn))
      have e2 : clipAt (octI X).length (16 + 8 * ((kk : Nat) : Int)) = 16 + 8 * kk := (by rw [show (16 + 8 * ((kk : Nat) : Int)) = (((16 + 8 * kk : Nat)) : Int) from rfl]; exact clipN _ _ (okk holn hne hkn))
      refine hk1.trans ?_
      rw [e1, e2, Nat.add_sub_add_right 16 (8 * kk) 8]
      exact oct_c hget
    k_dflt (refine' KFB.call_big ?a1 ?a2 hk1' (by rw [be_len]; decide) ?_; (case a1 => k_asm); (case a2 => (repeat (first | assumption | exact List.Mem.head _ | refine' List.Mem.tail _ ?_))))
    rw [value_be (z0 _) (lt8b hclt)]
    intro t3' k3'
    (repeat' ((fail_if_success (with_reducible show wpAny _ _ (pyIter _) _ _ _)); (fail_if_success (with_reducible show LoopStepV _ _ _ _ _ _ _ _ _ _)); (fail_if_success (with_reducible show wpAny _ _ (exec (Stmt.While _ _ _ _) _) _ _ _)); first | (k_unfold; (try dsimp only)) | (with_reducible refine wpAny_execs_nil ?_; (try dsimp only)) | (k_end; wrow_close) | (walk1; (try dsimp only)) | (dsimp only; walk1) | (dsimp only [List.cons_append, List.nil_append]; walk1) | (leave1; walk_say "STEP leave1"; try dsimp only) | fail "no step"))
    exact kcf_el rfl rfl rfl
  · rename IntsAre _ _ => hI8
    have hI9 : IntsAre _ (asInts (encW (wordsX X))) := enc_list hne hI8
    clear hI8
    rename Fr _ _ _ _ => F4
    rename News _ _ _ _ => N4
    refine While_par (n₀ := ne) (RdJ X ne) (RdE X) (_, _, _) F4 N4 ⟨0, 0, ⟨_, _, _, _, _, _, _, _, by with_unfolding_all rfl, by with_unfolding_all rfl, by with_unfolding_all rfl, by with_unfolding_all rfl, by with_unfolding_all rfl, by with_unfolding_all rfl, by rw [hne], by rw [Nat.mul_zero, Nat.pow_zero, Nat.mod_one]; rfl, by rfl, by rfl, by rfl⟩, .inl rfl, rfl, Nat.zero_le _, rfl, Nat.zero_le _⟩ ?_ ?_
    · intro n m₂ news₂ h₂ tk₂ F5 N5 hJq
      refine hJq.elim ?_
      intro k p z1 t1 z2 t2 z3 t3 zm tm hq e1 e2 e3 e4 e5 e6 hzm hz1 hz2 hz3 hp0 hdr hpn hn2 hkw
      subst hq
      have F6 := fr_name (x := "words") (fr_name (x := "many") (fr_name (x := "number") (fr_name (x := "at") (fr_name (x := "place") F5 e5) (by with_unfolding_all exact e4)) (by with_unfolding_all exact e3)) (by with_unfolding_all exact e2)) (by with_unfolding_all exact e1)
      clear F5
      try dsimp only
      (repeat' ((fail_if_success (with_reducible show wpAny _ _ (pyIter _) _ _ _)); (fail_if_success (with_reducible show LoopStepV _ _ _ _ _ _ _ _ _ _)); (fail_if_success (with_reducible show wpAny _ _ (exec (Stmt.If _ _ _ _) _) _ _ _)); (fail_if_success (with_reducible show wpAny _ _ (exec (Stmt.While _ _ _ _) _) _ _ _)); first | (k_unfold; (try dsimp only)) | (with_reducible refine wpAny_execs_nil ?_; (try dsimp only)) | (k_end; wrow_close) | walk1 | (dsimp only; walk1) | (dsimp only [List.cons_append, List.nil_append]; walk1) | (leave1; walk_say "STEP leave1"; try dsimp only) | fail "no step"))
      · rename z3 < zm => hlt
        rename Fr _ _ _ _ => F7
        have hpC : p < (encW (wordsX X)).length := zz hlt hzm hz3
        have hkW : k < (wordsX X).length := by
          refine Nat.lt_of_not_le fun hle => ?_
          rw [List.drop_of_length_le hle, encW_nil, List.drop_eq_nil_iff] at hdr
          exact absurd hpC (Nat.not_lt.mpr hdr)
        have hwc := wcount_le hX
        have hwl := wordsX_len X
        refine chunk_elim hkW ?_
        intro r l H hH1 hH2 hH3 hch c1 c2 c3 c4 c5 c6 c7
        have hr6 : r ≤ 6 := le6 c1 hwl hwc
        have hr32 : r < 2 ^ 32 := llt62 hr6 rfl
        replace hH1 := hH1 hr32
        replace hH2 := hH2 hr32
        replace hH3 := hH3 hr32
        have hch2 := hdr.trans hch
        have hHg : (asInts (encW (wordsX X))).getD z3.toNat 0 = ((H : Nat) : Int) := by
          rw [hz3, Int.toNat_natCast, getD_ints]
          have e : ((encW (wordsX X)).drop p)[0]? = some H := by rw [hch2]; rfl
          rw [List.getElem?_drop, Nat.add_zero] at e
          rw [List.getD_eq_getElem?_getD, e]; rfl
        rw [hHg, run_val hH2] at F7
        clear hch hdr
        have hfd : ((H : Nat) : Int).fdiv (2 ^ 33) = ((l : Nat) : Int) := by
          rw [show ((2 : Int) ^ 33) = ((2 ^ 33 : Nat) : Int) from rfl, Int.fdiv_eq_ediv_of_nonneg _ (by decide), ← Int.natCast_ediv, hH1]
        try dsimp only
        rename News _ _ _ _ => N7
        refine cut_par (s := ⟨_, _, _, _, _⟩) (RdJ X ne) hJq (RdY X k k p H r) F7 N7 ?h1 ?h2
        case h1 =>
          walk1
          (repeat' ((fail_if_success (with_reducible show wpAny _ _ (pyIter _) _ _ _)); (fail_if_success (with_reducible show LoopStepV _ _ _ _ _ _ _ _ _ _)); (fail_if_success (with_reducible show wpAny _ _ (exec (Stmt.If _ _ _ _) _) _ _ _)); (fail_if_success (with_reducible show wpAny _ _ (exec (Stmt.While _ _ _ _) _) _ _ _)); first | (k_unfold; (try dsimp only)) | (with_reducible refine wpAny_execs_nil ?_; (try dsimp only)) | (k_end; wrow_close) | walk1 | (dsimp only; walk1) | (dsimp only [List.cons_append, List.nil_append]; walk1) | (leave1; walk_say "STEP leave1"; try dsimp only) | fail "no step"))
          · exfalso
            rename (0 : Int) < z3 => b1
            rename ((r : Nat) : Int) = 0 => b2
            have b3 : 0 < r := c6 (hp0.resolve_left (pz b1 hz3) |>.resolve_left (neK hkW hwl))
            exact rz b2 b3
          all_goals (rename Fr _ _ _ _ => F9; rename News _ _ _ _ => N9; exact Out.intro F9 N9 ⟨_, _, _, _, _, _, _, _, _, _, _, _, by with_unfolding_all rfl, by with_unfolding_all rfl, by with_unfolding_all rfl, by with_unfolding_all rfl, by with_unfolding_all rfl, by with_unfolding_all exact e6, by with_unfolding_all rfl, by with_unfolding_all rfl, hzm, hz1, hz2, hz3, rfl, rfl, rfl⟩)
        case h2 =>
          clear e1 e2 e3 e4 e5 e6 hzm hz1 hz2 hz3 F7 N7 hHg hlt
          intro m8 news8 h8 tk8 F8 N8 hY
          refine hY.elim ?_
          intro z1 t1 z2 t2 z3 t3 zm tm th tr hq e1 e2 e3 e4 e5 e6 e7 e8 hzm hz1 hz2 hz3
          clear hY
          subst hq
          have F8 := fr_name (x := "words") (fr_name (x := "many") (fr_name (x := "number") (fr_name (x := "at") (fr_name (x := "place") (fr_name (x := "head") (fr_name (x := "run") F8 e8) (by with_unfolding_all exact e7)) (by with_unfolding_all exact e5)) (by with_unfolding_all exact e4)) (by with_unfolding_all exact e3)) (by with_unfolding_all exact e2)) (by with_unfolding_all exact e1)
          try dsimp only
          (repeat' ((fail_if_success (with_reducible show wpAny _ _ (pyIter _) _ _ _)); (fail_if_success (with_reducible show LoopStepV _ _ _ _ _ _ _ _ _ _)); (fail_if_success (with_reducible show wpAny _ _ (exec (Stmt.If _ _ _ _) _) _ _ _)); (fail_if_success (with_reducible show wpAny _ _ (exec (Stmt.While _ _ _ _) _) _ _ _)); first | (k_unfold; (try dsimp only)) | (with_reducible refine wpAny_execs_nil ?_; (try dsimp only)) | (k_end; wrow_close) | walk1 | (dsimp only; walk1) | (dsimp only [List.cons_append, List.nil_append]; walk1) | (leave1; walk_say "STEP leave1"; try dsimp only) | fail "no step"))
          refine cut_par (s := ⟨_, _, _, _, _⟩) (RdJ X ne) hJq (RdY X (k + r) k p H r) F8 N8 ?h1 ?h2
          case h1 =>
            clear c3 c4 c6 c7
            walk1
            (repeat' ((fail_if_success (with_reducible show wpAny _ _ (pyIter _) _ _ _)); (fail_if_success (with_reducible show LoopStepV _ _ _ _ _ _ _ _ _ _)); (fail_if_success (with_reducible show wpAny _ _ (binaryOp Operator.LShift _ _) _ _ _)); (fail_if_success (with_reducible show wpAny _ _ (exec (Stmt.While _ _ _ _) _) _ _ _)); first | (k_unfold; (try dsimp only)) | (with_reducible refine wpAny_execs_nil ?_; (try dsimp only)) | (k_end; wrow_close) | (walk1; (try dsimp only)) | (dsimp only; walk1) | (dsimp only [List.cons_append, List.nil_append]; walk1) | (leave1; walk_say "STEP leave1"; try dsimp only) | fail "no step"))
            · rename Builtin.bitAnd _ _ ≠ 0 => hb
              rw [bit_val hH3] at hb
              have hones : ∀ j < r, (wordsX X).getD (k + j) 0 = 2 ^ 64 - 1 := fun j hj => (c2 j hj).trans (by
                by_cases hx : (wordsX X).getD k 0 = 2 ^ 64 - 1
                · exact hx
                · exact absurd (by unfold bitOf; rw [if_neg hx]; rfl) hb)
              have hz2' : z2 ≤ 2 ^ 10 := z210 hz2 hkW hwl hwc
              have hob := ones_bits (r := r)
              refine lshift_int (by first | exact z0m r | omega) (by first | exact ob27 hob hr6 hz2' | omega) ?_
              (repeat' ((fail_if_success (with_reducible show wpAny _ _ (pyIter _) _ _ _)); (fail_if_success (with_reducible show LoopStepV _ _ _ _ _ _ _ _ _ _)); (fail_if_success (with_reducible show wpAny _ _ (binaryOp Operator.LShift _ _) _ _ _)); (fail_if_success (with_reducible show wpAny _ _ (exec (Stmt.While _ _ _ _) _) _ _ _)); first | (k_unfold; (try dsimp only)) | (with_reducible refine wpAny_execs_nil ?_; (try dsimp only)) | (k_end; wrow_close) | (walk1; (try dsimp only)) | (dsimp only; walk1) | (dsimp only [List.cons_append, List.nil_append]; walk1) | (leave1; walk_say "STEP leave1"; try dsimp only) | fail "no step"))
              rename Fr _ _ _ _ => F9
              rename News _ _ _ _ => N9
              rw [num_ones hz1 hz2 (kr c1 hwl) hones] at F9
              exact Out.intro F9 N9 ⟨_, _, _, _, _, _, _, _, _, _, _, _, by with_unfolding_all rfl, by with_unfolding_all rfl, by with_unfolding_all rfl, by with_unfolding_all rfl, by with_unfolding_all rfl, by with_unfolding_all exact e6, by with_unfolding_all rfl, by with_unfolding_all rfl, hzm, rfl, hz2, hz3, rfl, rfl, rfl⟩
            · rename Builtin.bitAnd _ _ = 0 => hb
              rw [bit_val hH3] at hb
              have hzer : ∀ j < r, (wordsX X).getD (k + j) 0 = 0 := fun j hj => (c2 j hj).trans (by
                have h1 : isLit ((wordsX X).getD k 0) = false := by
                  cases h : isLit ((wordsX X).getD k 0) with
                  | false => rfl
                  | true => exact absurd hj (by rw [c5 h]; exact Nat.not_lt_zero j)
                have h2 : (wordsX X).getD k 0 ≠ 2 ^ 64 - 1 := fun e => absurd hb (by unfold bitOf; rw [if_pos e]; decide)
                exact notlit_zero h1 h2)
              rename Fr _ _ _ _ => F9
              rename News _ _ _ _ => N9
              have hz1' : z1 = ((X % 2 ^ (64 * (k + r)) : Nat) : Int) := by rw [hz1, low_zero (kr c1 hwl) hzer]
              exact Out.intro F9 N9 ⟨_, _, _, _, _, _, _, _, _, _, _, _, by with_unfolding_all rfl, by with_unfolding_all rfl, by with_unfolding_all rfl, by with_unfolding_all rfl, by with_unfolding_all rfl, by with_unfolding_all exact e6, by with_unfolding_all rfl, by with_unfolding_all rfl, hzm, hz1', hz2, hz3, rfl, rfl, rfl⟩
          case h2 =>
            clear e1 e2 e3 e4 e5 e6 e7 e8 hzm hz1 hz2 hz3 F8 N8 c2 c5 c6
            intro m8 news8 h8 tk8 F8 N8 hY
            refine hY.elim ?_
            intro z1 t1 z2 t2 z3 t3 zm tm th tr hq e1 e2 e3 e4 e5 e6 e7 e8 hzm hz1 hz2 hz3
            clear hY
            subst hq
            have F8 := fr_name (x := "words") (fr_name (x := "many") (fr_name (x := "number") (fr_name (x := "at") (fr_name (x := "place") (fr_name (x := "head") (fr_name (x := "run") F8 e8) (by with_unfolding_all exact e7)) (by with_unfolding_all exact e5)) (by with_unfolding_all exact e4)) (by with_unfolding_all exact e3)) (by with_unfolding_all exact e2)) (by with_unfolding_all exact e1)
            try dsimp only
            have hz1' : z1 = ((X % 2 ^ (64 * (k + r + 0)) : Nat) : Int) := by rw [hz1, Nat.add_zero]
            have hz2' : z2 + 64 * ((r : Nat) : Int) = ((64 * (k + r + 0) : Nat) : Int) := zr0 hz2
            (repeat' ((fail_if_success (with_reducible show wpAny _ _ (pyIter _) _ _ _)); (fail_if_success (with_reducible show LoopStepV _ _ _ _ _ _ _ _ _ _)); (fail_if_success (with_reducible show wpAny _ _ (binaryOp Operator.LShift _ _) _ _ _)); (fail_if_success (with_reducible show wpAny _ _ (exec (Stmt.While _ _ _ _) _) _ _ _)); first | (k_unfold; (try dsimp only)) | (with_reducible refine wpAny_execs_nil ?_; (try dsimp only)) | (k_end; wrow_close) | walk1 | (dsimp only; walk1) | (dsimp only [List.cons_append, List.nil_append]; walk1) | (leave1; walk_say "STEP leave1"; try dsimp only) | fail "no step"))
            · exfalso
              rename z3 + 1 + _ < 0 => hb
              rw [show ((H : Nat) : Int).fdiv (2 ^ Int.toNat 33) = ((l : Nat) : Int) from hfd] at hb
              exact (neg3 hz3 hb).elim
            · rename IntsAre _ _ => hI
              rw [lits_slice hch2 hz3 hfd c1] at hI
              rename Fr _ _ _ _ => F9
              rename News _ _ _ _ => N9
              rename _ = min _ _ => hC
              rename List.length (List.take _ _) ≤ _ => hL
              rename (0 : Int) ≤ z3 + 1 + _ => hS
              clear hC hL hS
              have hIl := hI.length
              refine for_par (RdF X (k + r) p H) (_, _, _) (by with_unfolding_all rfl) (List.Mem.head _) F9 N9 ⟨_, _, _, _, _, _, _, _, _, _, _, _, _, by with_unfolding_all rfl, by with_unfolding_all rfl, by with_unfolding_all rfl, by with_unfolding_all rfl, by with_unfolding_all rfl, by with_unfolding_all exact e6, by with_unfolding_all rfl, by with_unfolding_all rfl, hzm, hz1', hz2', hz3, rfl, rfl, rfl⟩ ?_ ?_
              · intro i v m5 news5 h5 tk5 I oI hv hJ hoff hne F5 N5
                clear e1 e2 e3 e4 e5 e6 e7 e8 hzm hz1 hz2 hz3 hz1' hz2'
                refine hJ.elim ?_
                intro r5 hJ2
                refine hJ2.elim ?_
                intro z1 t1 z2 t2 z3 t3 zm tm th tr hq e1 e2 e3 e4 e5 e6 e7 e8 hzm hz1 hz2 hz3
                refine lit_item hI hv c1 c3 ?_
                intro wv tv hve hil hwv w0 w1 wlt
                rw [hq] at N5 hoff
                rw [hve] at F5
                have F6 := fr_name (x := "number") (fr_name (x := "at") F5 e4) (by with_unfolding_all exact e3)
                clear hJ hJ2
                clear F5 F9 N9 hJq
                try dsimp only
                (repeat' ((fail_if_success (with_reducible show wpAny _ _ (pyIter _) _ _ _)); (fail_if_success (with_reducible show LoopStepV _ _ _ _ _ _ _ _ _ _)); (fail_if_success (with_reducible show wpAny _ _ (binaryOp Operator.LShift _ _) _ _ _)); (fail_if_success (with_reducible show wpAny _ _ (exec (Stmt.While _ _ _ _) _) _ _ _)); first | (k_unfold; (try dsimp only)) | (with_reducible refine wpAny_execs_nil ?_; (try dsimp only)) | (k_end; wrow_close) | (walk1; (try dsimp only)) | (dsimp only; walk1) | (dsimp only [List.cons_append, List.nil_append]; walk1) | (leave1; walk_say "STEP leave1"; try dsimp only) | fail "no step"))
                · exfalso
                  rename ((wv : Nat) : Int) = 0 => b1
                  exact w0 (litE (n := 0) b1)
                · exfalso
                  rename ((wv : Nat) : Int) = _ => b1
                  rw [show ((2 : Int) ^ Int.toNat 64 - 1) = 18446744073709551615 from by decide] at b1
                  exact w1 (litE (n := 18446744073709551615) b1)
                · have hz2' : z2 ≤ 2 ^ 10 := z210b hz2 hil c1 hwl hwc
                  refine lshift_int_small (zeq0 hz2) (Int.le_trans hz2' (by decide)) (nAbsL wlt) ?_
                  (repeat' ((fail_if_success (with_reducible show wpAny _ _ (pyIter _) _ _ _)); (fail_if_success (with_reducible show LoopStepV _ _ _ _ _ _ _ _ _ _)); (fail_if_success (with_reducible show wpAny _ _ (binaryOp Operator.LShift _ _) _ _ _)); (fail_if_success (with_reducible show wpAny _ _ (exec (Stmt.While _ _ _ _) _) _ _ _)); first | (k_unfold; (try dsimp only)) | (with_reducible refine wpAny_execs_nil ?_; (try dsimp only)) | (k_end; wrow_close) | (walk1; (try dsimp only)) | (dsimp only; walk1) | (dsimp only [List.cons_append, List.nil_append]; walk1) | (leave1; walk_say "STEP leave1"; try dsimp only) | fail "no step"))
                  rename Fr _ _ _ _ => F9
                  rename News _ _ _ _ => N9
                  rw [num_lit hz1 hz2 (kri c1 hwl hil) (congrArg _ hwv)] at F9
                  exact LoopStepV.next (LoopStepU.intro F9 N9 (fun p hp => by rw [List.mem_singleton]; exact hoff p hp) ⟨_, _, _, _, _, _, _, _, _, _, _, _, _, by with_unfolding_all exact e1, by with_unfolding_all exact e2, by with_unfolding_all rfl, by with_unfolding_all rfl, by with_unfolding_all exact e5, by with_unfolding_all exact e6, by with_unfolding_all exact e7, by with_unfolding_all exact e8, hzm, rfl, z64 hz2, hz3, rfl, rfl, rfl⟩)
              · intro m5 news5 h5 tk5 hJ F5 N5
                clear e1 e2 e3 e4 e5 e6 e7 e8 hzm hz1 hz2 hz3 hz1' hz2'
                refine hJ.elim ?_
                intro r5 hJ2
                refine hJ2.elim ?_
                intro z1 t1 z2 t2 z3 t3 zm tm th tr hq e1 e2 e3 e4 e5 e6 e7 e8 hzm hz1 hz2 hz3
                rw [hq] at N5
                clear hJ hJ2
                rw [hIl, List.length_map, List.length_take, List.length_drop, Nat.min_eq_left (lminus c1)] at hz1 hz2
                have F6 := fr_name (x := "place") (fr_name (x := "head") F5 e7) (by with_unfolding_all exact e5)
                clear F5 F9 N9
                try dsimp only
                (repeat' ((fail_if_success (with_reducible show wpAny _ _ (pyIter _) _ _ _)); (fail_if_success (with_reducible show LoopStepV _ _ _ _ _ _ _ _ _ _)); (fail_if_success (with_reducible show wpAny _ _ (binaryOp Operator.LShift _ _) _ _ _)); (fail_if_success (with_reducible show wpAny _ _ (exec (Stmt.While _ _ _ _) _) _ _ _)); first | (k_unfold; (try dsimp only)) | (with_reducible refine wpAny_execs_nil ?_; (try dsimp only)) | (k_end; wrow_close) | (walk1; (try dsimp only)) | (dsimp only; walk1) | (dsimp only [List.cons_append, List.nil_append]; walk1) | (leave1; walk_say "STEP leave1"; try dsimp only) | fail "no step"))
                rename Fr _ _ _ _ => F9
                rename News _ _ _ _ => N9
                have hpl : p + (1 + l) ≤ ne := lits_len1 hch2 c1 hne
                refine WhileStep.intro (n' := ne - (p + (1 + l))) F9 (fun p hp => N9 p (.tail _ hp)) (left_lt hn2 hpl) ⟨k + r + l, p + (1 + l), ⟨_, _, _, _, _, _, _, _, by with_unfolding_all exact e1, by with_unfolding_all exact e2, by with_unfolding_all exact e3, by with_unfolding_all exact e4, by with_unfolding_all rfl, by with_unfolding_all exact e6, hzm, hz1, hz2, by rw [hz3]; exact plus_fdiv hfd, rfl⟩, ?_, lits_after hch2 c1, hpl, rfl, Nat.le_trans c1 (Nat.le_of_eq hwl)⟩
                rcases c4 with h | h
                · exact .inr (.inl (h.trans hwl))
                · exact .inr (.inr h)
      · rename ¬ z3 < zm => hlt
        rename Fr _ _ _ _ => F9
        rename News _ _ _ _ => N9
        have hpe : p = (encW (wordsX X)).length := pe hlt hzm hz3 hpn hne
        have hke : k = wcount X := by
          have h2 := encW_drop_nil (hdr.symm.trans (List.drop_of_length_le (Nat.le_of_eq hpe.symm)))
          have hwl := wordsX_len X
          exact Nat.le_antisymm hkw (hwl ▸ h2)
        subst hpe hke
        exact Out.intro F9 N9 ⟨_, _, _, _, _, _, _, _, by with_unfolding_all rfl, by with_unfolding_all rfl, by with_unfolding_all rfl, by with_unfolding_all rfl, by with_unfolding_all rfl, by with_unfolding_all exact e6, hzm, hz1, hz2, hz3, rfl⟩
    · intro m6 news6 h6 tk6 F6 N6 hX6
      refine RdX.elim hX6 ?_
      intro z1 t1 z2 t2 z3 t3 zm tm hq e1 e2 e3 e4 e5 e6 hzm hz1 hz2 hz3
      rw [hq] at N6
      dsimp only at N6 e6
      rw [low_all] at hz1
      have F7 := fr_name (x := "many") (fr_name (x := "number") (fr_name (x := "at") (fr_name (x := "place") (fr_name (x := "count") F6 e6) (by with_unfolding_all exact e5)) (by with_unfolding_all exact e4)) (by with_unfolding_all exact e3)) (by with_unfolding_all exact e2)
      have hat : z2 = (((bl X : Nat) : Int) + 63).fdiv 64 * 64 := by
        rw [hz2, Int.fdiv_eq_ediv_of_nonneg _ (by decide)]
        unfold wcount
        exact wc64 _
      have hdv1 := dv1 hbl
      have hdv2 := dv2 (bl X)
      clear hX6 F6 hq e1 e2 e3 e4 e5
      try dsimp only
      (repeat' ((fail_if_success (with_reducible show wpAny _ _ (pyIter _) _ _ _)); (fail_if_success (with_reducible show LoopStepV _ _ _ _ _ _ _ _ _ _)); (fail_if_success (with_reducible show wpAny _ _ (binaryOp Operator.LShift _ _) _ _ _)); (fail_if_success (with_reducible show wpAny _ _ (exec (Stmt.While _ _ _ _) _) _ _ _)); first | (k_unfold; (try dsimp only)) | (with_reducible refine wpAny_execs_nil ?_; (try dsimp only)) | (k_end; wrow_close) | (walk1; (try dsimp only)) | (dsimp only; walk1) | (dsimp only [List.cons_append, List.nil_append]; walk1) | (leave1; walk_say "STEP leave1"; try dsimp only) | fail "no step"))
      · exfalso
        rename z3 ≠ zm => hb
        exact hb (hz3.trans hzm.symm)
      · exfalso
        rename z2 ≠ _ => hb
        exact hb hat
      · rename Fr h₀ _ _ _ => F9
        rename News h₀ _ _ _ => N9
        rw [hz1] at N9
        exact ret _ _ _ _ _ F9 (news_drop4 N9)
end D_F8
namespace D_F9
open D_F2
open D_F3
open D_F6
open D_F7
open D_F8
omit N in
set_option maxRecDepth 100000 in
set_option maxHeartbeats 8000000 in
theorem bread_ok {P n : Nat} {oc : Array UInt8} {bs : List Int} {t tz t1 t2 t9 : Tok} {f df : Addr} (N : News h₀ L s.heap ((f, instObj 53 df) :: (df, ioDict w oc ((P : Nat) : Int) t tz t1 t2) :: news)) (hoc : KBw.bInts oc = bs) (hP : P + n ≤ bs.length) (hb : bs.length ≤ 200) (hdf : ∀ p ∈ news, p.1 ≠ df) (hfd : f ≠ df)
    (hdp : dp + 1 < recursionLimit) (hu : un + 8 < cLine)
    (ret : ∀ (h' : Heap) (tk' : Nat) part tp tz', Fr h₀ L h' m → News h₀ L h' ((f, instObj 53 df) :: (df, ioDict w oc (((P : Nat) : Int) + ((n : Nat) : Int)) t tz' t1 t2) :: news) → KBw.bInts part = (bs.drop P).take n → Q (.bytes part tp) { s with heap := h', toks := tk' }) :
    wpAny (model prog w) (ktrTop dp un gd cn cs L a ccd cl outer) (call (.ref 36) [.ref f, .int ((n : Nat) : Int) t9]) Q E s := by
  ((refine wpAny_call ?_; (k_dflt (first | (refine' code_def ?k1 ?k2 ?k3 ?k4 ?k5 ?kA ?kF ?kK ?k6 ?k7 ?k8 ?k9 ?kB ?_ ?c2 ?c3 ?c4 ?c5; (case kA => exact rfl); (case kF => exact rfl); (case kK => first | exact rfl | assumption); (case k1 => k_asm); (case k2 => k_asm); (case k3 => k_asm); (case k4 => k_asm); (case k5 => k_asm); (case k6 => k_is); (case k7 => k_is); (case k8 => first | k_room | ktr_room); (case k9 => first | exact BindsTo.of_eq rfl | exact binds_K (by k_in) rfl (by k_is) rfl rfl rfl | fail "k_enter: no rule for these arguments"); (case c5 => decide); (case kB => exact locs rfl); (case c2 => exact rfl); (case c3 => exact rfl); (case c4 => exact rfl); k_whole; intro g' L' h' FG' F' N' B' X' T'; (try dsimp only); (try k_lift B'); (try k_fold)) | (refine' code_defC ?k1 ?k2 ?k3 ?k4 ?k5 ?kA ?kF ?kK ?k6 ?k7 ?k8 ?k9 ?kB ?kD ?_ ?c2 ?c3 ?c4; (case kA => exact rfl); (case kF => exact rfl); (case kK => first | exact rfl | assumption); (case k1 => k_asm); (case k2 => k_asm); (case k3 => k_asm); (case k4 => k_asm); (case k5 => k_asm); (case k6 => k_is); (case k7 => k_is); (case k8 => first | k_room | ktr_room); (case k9 => first | exact BindsTo.of_eq rfl | exact binds_K (by k_in) rfl (by k_is) rfl rfl rfl | fail "k_enter: no rule for these arguments"); (case kB => exact rfl); (case kD => decide +kernel); (case c2 => exact rfl); (case c3 => exact rfl); (case c4 => exact rfl); k_whole; intro g' L' h' tk' cells' FG' F' N' Y' B' X' T' l1; (try k_lt l1); k_cells Y'; (try simp only [List.cons_append, List.nil_append] at N'); (try dsimp only); (try k_lift B'); (try k_fold))))))
  have hfd := neN hfd
  (repeat' ((fail_if_success (with_reducible show wpAny _ _ (pyIter _) _ _ _)); (fail_if_success (with_reducible show LoopStepV _ _ _ _ _ _ _ _ _ _)); (fail_if_success (with_reducible show wpAny _ _ (exec (Stmt.While _ _ _ _) _) _ _ _)); first | (k_unfold; (try dsimp only)) | (with_reducible refine wpAny_execs_nil ?_; (try dsimp only)) | (k_end; wrow_close) | walk1 | (dsimp only; walk1) | (dsimp only [List.cons_append, List.nil_append]; walk1) | (leave1; walk_say "STEP leave1"; try dsimp only) | fail "no step"))
  rename KBw.bInts (KBy.picked oc _ _) = _ => hk1
  rename Fr h₀ _ _ _ => F9
  rename News h₀ _ _ _ => N9
  have hc : clipAt bs.length (((P : Nat) : Int) + ((n : Nat) : Int)) = P + n := by
    rw [show ((P : Nat) : Int) + ((n : Nat) : Int) = ((P + n : Nat) : Int) from (Int.natCast_add _ _).symm]; exact clipN _ _ hP
  have e1 : min P bs.length = P := by omega
  have e2 : P + n - P = n := by omega
  have e3 : min n (bs.length - P) = n := by omega
  rw [hc, e1, e2] at hk1
  simp only [hc, e1, e2, e3] at N9
  exact ret _ _ _ _ _ F9 N9 hk1

omit B F KI N T hk in
theorem ne3 {b x dx d : Addr} {o1 o2 o3 : Obj} {news : List (Addr × Obj)} (h : @LT.lt Nat _ b d ∧ @LT.lt Nat _ x d ∧ @LT.lt Nat _ dx d ∧ AllLt d news) : ∀ p ∈ (b, o1) :: (x, o2) :: (dx, o3) :: news, p.1 ≠ d := by
  intro p hp
  simp only [List.mem_cons] at hp
  rcases hp with rfl | rfl | rfl | hp
  · exact Nat.ne_of_lt h.1
  · exact Nat.ne_of_lt h.2.1
  · exact Nat.ne_of_lt h.2.2.1
  · exact Nat.ne_of_lt (allLt_to h.2.2.2 p hp)
section
omit B F KI N T hk
variable {prog : Program} {A : Around} {E : Value → Shared → Prop} {s : Shared} {env : Env} {x : Str} {body : List Stmt} {Q : Flow → Shared → Prop}
theorem for_rpar {α : Type} {r : Addr} {a₀ b₀ : Int} {t₀ u₀ v₀ : Tok} {n : Nat} (J : α → Nat → (Str → Option Value) → List (Addr × Obj) → Prop) (p : α) (hh : A.handled = none) (hr : IsRange s.heap r a₀ b₀ 1 t₀ u₀ v₀) (hsmall : Builtin.Range.small a₀ b₀ 1 = true) (hn : Builtin.Range.rangeSize a₀ b₀ 1 = (n : Int))
    (F : Fr h₀ env.locals s.heap m) (N : News h₀ env.locals s.heap news) (hj : J p 0 m news)
    (turn : ∀ (i : Nat) (t : Tok) m₁ news₁ h tk (I : Addr) (oI : Obj), i < n → J p i m₁ news₁ → (∀ p ∈ news₁, p.1 ≠ I) → Fr h₀ env.locals h (fun y => if y = x then some (.int (a₀ + (i : Int)) t) else m₁ y) → News h₀ env.locals h ((I, oI) :: news₁) →
      wpAny (model prog w) A (execs body env) (LoopStepV h₀ env.locals [I] [(I, oI)] (J p (i + 1)) { s with heap := h, toks := tk } (fun v s' => Q (.ret v) s') fun s' => Q .next s') E { s with heap := h, toks := tk })
    (done : ∀ m₁ news₁ h tk, J p n m₁ news₁ → Fr h₀ env.locals h m₁ → News h₀ env.locals h news₁ → Q .next { s with heap := h, toks := tk }) :
    wpAny (model prog w) A (pyIter (.ref r)) (fun it s₂ => LoopAtV prog w A h₀ env x body Q E it s₂) E s := for_range (J p) hh hr hsmall hn F N hj turn done
end
structure DP where
  f : Addr
  df : Addr
  lw : Addr
  x : Addr
  rest : List (Addr × Obj)
  t1 : Tok
  t2 : Tok
  t3 : Tok
  cb : Option Value
  mb : Option Value
def AJ (w : World) (oc : Array UInt8) (X : Nat) (q : DP) (i : Nat) (m : Str → Option Value) (news : List (Addr × Obj)) : Prop :=
  ∃ ws c tz z, m "f" = some (.ref q.f) ∧ m "self" = some (.ref q.x) ∧ m "words" = some (.ref q.lw) ∧ m "current_bit" = q.cb ∧ m "max_bits" = q.mb ∧
    news = (q.lw, listOf ws.toArray c) :: (q.f, instObj 53 q.df) :: (q.df, ioDict w oc z q.t1 tz q.t2 q.t3) :: q.rest ∧ IntsAre ws (asInts ((encW (wordsX X)).take i)) ∧ z = ((8 + 8 * i : Nat) : Int)
omit B F KI N T hk in
theorem AJ.elim {oc : Array UInt8} {X i : Nat} {f df lw x : Addr} {rest : List (Addr × Obj)} {t1 t2 t3 : Tok} {cb mb : Option Value} {m : Str → Option Value} {news : List (Addr × Obj)} {P : Prop} (h : AJ w oc X ⟨f, df, lw, x, rest, t1, t2, t3, cb, mb⟩ i m news)
    (c : ∀ ws c tz, m "f" = some (.ref f) → m "self" = some (.ref x) → m "words" = some (.ref lw) → m "current_bit" = cb → m "max_bits" = mb →
      news = (lw, listOf ws.toArray c) :: (f, instObj 53 df) :: (df, ioDict w oc ((8 + 8 * i : Nat) : Int) t1 tz t2 t3) :: rest → IntsAre ws (asInts ((encW (wordsX X)).take i)) → P) : P := by
  obtain ⟨ws, cc, tz, z, e1, e2, e3, e4, e5, hq, hi, hz⟩ := h
  subst hz
  exact c ws cc tz e1 e2 e3 e4 e5 hq hi
omit B F KI N T hk in
theorem reordA {h : Heap} {l b1 b2 f df b x dx : Addr × Obj} {r : List (Addr × Obj)} (N : News h₀ L h (l :: b1 :: b2 :: f :: df :: b :: x :: dx :: r)) : News h₀ L h (l :: f :: df :: b :: x :: dx :: r) :=
  fun p hp => N p (by simp only [List.mem_cons] at hp ⊢; rcases hp with h | h | h | h | h | h | h <;> simp [h])
omit B F KI N T hk in
theorem reordB {h : Heap} {I l f df : Addr × Obj} {r : List (Addr × Obj)} (N : News h₀ L h (I :: l :: f :: df :: r)) : News h₀ L h (f :: df :: I :: l :: r) :=
  fun p hp => N p (by simp only [List.mem_cons] at hp ⊢; rcases hp with h | h | h | h | h <;> simp [h])
omit B F KI N T hk in
theorem reordC {h : Heap} {I l f df : Addr × Obj} {r : List (Addr × Obj)} (N : News h₀ L h (f :: df :: I :: l :: r)) : News h₀ L h (I :: l :: f :: df :: r) :=
  fun p hp => N p (by simp only [List.mem_cons] at hp ⊢; rcases hp with h | h | h | h | h <;> simp [h])
omit B F KI N T hk in
theorem aj_turn {h₀ : Heap} {L I f df lw x : Addr} {oI ol : Obj} {bd : Addr × Obj} {oc : Array UInt8} {X i c cc : Nat} {ws : List Value} {z z' : Int} {t t1 t2 t3 tz tz' : Tok} {cb mb : Option Value} {m₂ : Str → Option Value} {rest : List (Addr × Obj)} {s₁ : Shared} {h' : Heap} {tk : Nat} {Qr : Value → Shared → Prop} {Qb : Shared → Prop}
    (F : Fr h₀ L h' m₂) (N : News h₀ L h' (bd :: (f, instObj 53 df) :: (df, ioDict w oc z t1 tz t2 t3) :: (I, oI) :: (lw, listOf (ws.toArray.push (.int ((c : Nat) : Int) t)) cc) :: rest)) (off : ∀ p ∈ (lw, ol) :: (f, instObj 53 df) :: (df, ioDict w oc z' t1 tz' t2 t3) :: rest, p.1 ≠ I)
    (hI : IntsAre ws (asInts ((encW (wordsX X)).take i))) (hc : (encW (wordsX X))[i]? = some c) (hz : z = ((8 + 8 * (i + 1) : Nat) : Int))
    (e1 : m₂ "f" = some (.ref f)) (e2 : m₂ "self" = some (.ref x)) (e3 : m₂ "words" = some (.ref lw)) (e4 : m₂ "current_bit" = cb) (e5 : m₂ "max_bits" = mb) :
    LoopStepV h₀ L [I] [(I, oI)] (AJ w oc X ⟨f, df, lw, x, rest, t1, t2, t3, cb, mb⟩ (i + 1)) s₁ Qr Qb .next { s₁ with heap := h', toks := tk } := by
  have hg : IntsAre (ws ++ [Value.int ((c : Nat) : Int) t]) (asInts ((encW (wordsX X)).take (i + 1))) := by
    rw [take_snoc hc, asInts, List.map_append]
    exact hI.append (.cons _ _ .nil)
  refine LoopStepV.next (LoopStepU.intro (news₂ := (lw, listOf (ws ++ [Value.int ((c : Nat) : Int) t]).toArray cc) :: (f, instObj 53 df) :: (df, ioDict w oc z t1 tz t2 t3) :: rest) F (fun p hp => ?_) (fun p hp => ?_) ⟨ws ++ [Value.int ((c : Nat) : Int) t], cc, tz, z, e1, e2, e3, e4, e5, rfl, hg, hz⟩)
  · rw [← List.push_toArray] at hp
    refine N p ?_
    simp only [List.mem_cons, List.singleton_append, List.cons_append, List.nil_append] at hp ⊢
    rcases hp with h | h | h | h | h <;> simp [h]
  · rw [List.mem_singleton]
    rcases List.mem_cons.mp hp with rfl | hp
    · exact off (lw, ol) (.head _)
    · rcases List.mem_cons.mp hp with rfl | hp
      · exact off (f, instObj 53 df) (.tail _ (.head _))
      · rcases List.mem_cons.mp hp with rfl | hp
        · exact off (df, ioDict w oc z' t1 tz' t2 t3) (.tail _ (.tail _ (.head _)))
        · exact off p (.tail _ (.tail _ (.tail _ hp)))
omit B F KI N T hk in
theorem ne5 {b x dx d I lw : Addr} {o1 o2 o3 o4 o5 : Obj} {news : List (Addr × Obj)} (h : @LT.lt Nat _ b d ∧ @LT.lt Nat _ x d ∧ @LT.lt Nat _ dx d ∧ AllLt d news) (h1 : @Ne Nat d I) (h2 : @LT.lt Nat _ d lw) : ∀ p ∈ (I, o4) :: (lw, o5) :: (b, o1) :: (x, o2) :: (dx, o3) :: news, p.1 ≠ d := by
  intro p hp
  rcases List.mem_cons.mp hp with rfl | hp
  · exact fun e => h1 e.symm
  · rcases List.mem_cons.mp hp with rfl | hp
    · exact Nat.ne_of_gt h2
    · exact ne3 h p hp
def lowS (X n j : Nat) : Bool := decide (j < n) && X.testBit j
structure WP where
  f : Addr
  of : Obj
  df : Addr
  odf : Obj
  lw : Addr
  ol : Obj
  b : Addr
  x : Addr
  rest : List (Addr × Obj)
def DX (w : World) (X : Nat) (q : WP) (k p : Nat) (m : Str → Option Value) (news : List (Addr × Obj)) : Prop :=
  ∃ z1 t1 z2 t2 zb tb ob, m "f" = some (.ref q.f) ∧ m "self" = some (.ref q.x) ∧ m "words" = some (.ref q.lw) ∧ m "current_bit" = some (.int z1 t1) ∧ m "idx" = some (.int z2 t2) ∧ m "max_bits" = some (.int zb tb) ∧
    news = (q.lw, q.ol) :: (q.f, q.of) :: (q.df, q.odf) :: (q.b, ob) :: q.rest ∧ BSet w ob (lowS X (64 * k)) ∧ z1 = ((64 * k : Nat) : Int) ∧ z2 = ((p : Nat) : Int) ∧ zb = ((64 * wcount X : Nat) : Int)
def DJ (w : World) (X ne : Nat) (q : WP) (n : Nat) (m : Str → Option Value) (news : List (Addr × Obj)) : Prop :=
  ∃ k p, DX w X q k p m news ∧ (encW (wordsX X)).drop p = encW ((wordsX X).drop k) ∧ p ≤ ne ∧ n = ne - p ∧ k ≤ wcount X
def DE (w : World) (X : Nat) (q : WP) (m : Str → Option Value) (news : List (Addr × Obj)) : Prop := DX w X q (wcount X) (encW (wordsX X)).length m news
def DY (w : World) (X : Nat) (xn : Str) (xv : Option Value) (l nb k p : Nat) (q : WP) (m : Str → Option Value) (news : List (Addr × Obj)) : Prop :=
  ∃ z1 t1 z2 t2 zb tb zl tl ob, m "f" = some (.ref q.f) ∧ m "self" = some (.ref q.x) ∧ m "words" = some (.ref q.lw) ∧ m "current_bit" = some (.int z1 t1) ∧ m "idx" = some (.int z2 t2) ∧ m "max_bits" = some (.int zb tb) ∧ m "literal_words" = some (.int zl tl) ∧ m xn = xv ∧
    news = (q.lw, q.ol) :: (q.f, q.of) :: (q.df, q.odf) :: (q.b, ob) :: q.rest ∧ BSet w ob (lowS X nb) ∧ z1 = ((64 * k : Nat) : Int) ∧ z2 = ((p : Nat) : Int) ∧ zb = ((64 * wcount X : Nat) : Int) ∧ zl = ((l : Nat) : Int)
omit B F KI N T hk in
theorem DX.elim {X k p : Nat} {f df lw b x : Addr} {of odf ol : Obj} {rest : List (Addr × Obj)} {m : Str → Option Value} {news : List (Addr × Obj)} {P : Prop} (h : DX w X ⟨f, of, df, odf, lw, ol, b, x, rest⟩ k p m news)
    (c : ∀ z1 t1 z2 t2 zb tb ob, m "f" = some (.ref f) → m "self" = some (.ref x) → m "words" = some (.ref lw) → m "current_bit" = some (.int z1 t1) → m "idx" = some (.int z2 t2) → m "max_bits" = some (.int zb tb) →
      news = (lw, ol) :: (f, of) :: (df, odf) :: (b, ob) :: rest → BSet w ob (lowS X (64 * k)) → z1 = ((64 * k : Nat) : Int) → z2 = ((p : Nat) : Int) → zb = ((64 * wcount X : Nat) : Int) → P) : P := by
  obtain ⟨z1, t1, z2, t2, zb, tb, ob, e1, e2, e3, e4, e5, e6, hq, hB, hz1, hz2, hzb⟩ := h
  exact c z1 t1 z2 t2 zb tb ob e1 e2 e3 e4 e5 e6 hq hB hz1 hz2 hzb
omit B F KI N T hk in
theorem DJ.elim {X ne n : Nat} {q : WP} {m : Str → Option Value} {news : List (Addr × Obj)} {P : Prop} (h : DJ w X ne q n m news)
    (c : ∀ k p, DX w X q k p m news → (encW (wordsX X)).drop p = encW ((wordsX X).drop k) → p ≤ ne → n = ne - p → k ≤ wcount X → P) : P := by
  obtain ⟨k, p, h1, h2, h3, h4, h5⟩ := h
  exact c k p h1 h2 h3 h4 h5
omit B F KI N T hk in
theorem DY.elim {X k p l nb : Nat} {xn : Str} {xv : Option Value} {f df lw b x : Addr} {of odf ol : Obj} {rest : List (Addr × Obj)} {m : Str → Option Value} {news : List (Addr × Obj)} {P : Prop} (h : DY w X xn xv l nb k p ⟨f, of, df, odf, lw, ol, b, x, rest⟩ m news)
    (c : ∀ z1 t1 z2 t2 zb tb zl tl ob, m "f" = some (.ref f) → m "self" = some (.ref x) → m "words" = some (.ref lw) → m "current_bit" = some (.int z1 t1) → m "idx" = some (.int z2 t2) → m "max_bits" = some (.int zb tb) → m "literal_words" = some (.int zl tl) → m xn = xv →
      news = (lw, ol) :: (f, of) :: (df, odf) :: (b, ob) :: rest → BSet w ob (lowS X nb) → z1 = ((64 * k : Nat) : Int) → z2 = ((p : Nat) : Int) → zb = ((64 * wcount X : Nat) : Int) → zl = ((l : Nat) : Int) → P) : P := by
  obtain ⟨z1, t1, z2, t2, zb, tb, zl, tl, ob, e1, e2, e3, e4, e5, e6, e7, e8, hq, hB, hz1, hz2, hzb, hzl⟩ := h
  exact c z1 t1 z2 t2 zb tb zl tl ob e1 e2 e3 e4 e5 e6 e7 e8 hq hB hz1 hz2 hzb hzl
omit B F KI N T hk in
theorem lowS_bit {X n : Nat} (h : X.testBit n = true) (j : Nat) : (lowS X n j || decide (j = n)) = lowS X (n + 1) j := by
  unfold lowS
  by_cases h1 : j = n
  · subst h1; simp [h]
  · by_cases h2 : j < n
    · have h3 : j < n + 1 := by omega
      simp [h1, h2, h3]
    · have h3 : ¬ j < n + 1 := by omega
      simp [h1, h2, h3]
omit B F KI N T hk in
theorem lowS_nobit {X n : Nat} (h : X.testBit n = false) (j : Nat) : lowS X n j = lowS X (n + 1) j := by
  unfold lowS
  by_cases h1 : j = n
  · subst h1; simp [h]
  · by_cases h2 : j < n
    · have h3 : j < n + 1 := by omega
      simp [h2, h3]
    · have h3 : ¬ j < n + 1 := by omega
      simp [h2, h3]
omit B F KI N T hk in
theorem lowS_all (X j : Nat) : lowS X (64 * wcount X) j = X.testBit j := by
  unfold lowS
  cases h : X.testBit j with
  | false => simp
  | true =>
    have h1 := bl_le X h
    have h2 : j < 64 * wcount X := by unfold wcount; omega
    simp [h2]
omit B F KI N T hk in
theorem run_bit {X k r i : Nat} (hk : k + r ≤ wcount X) (h : ∀ j < r, (wordsX X).getD (k + j) 0 = 2 ^ 64 - 1) (hi : i < 64 * r) : X.testBit (64 * k + i) = true := by
  have hb := word_bit (X := X) (k := k + i / 64) (i := i % 64) (by omega)
  rw [h _ (by omega), Nat.testBit_two_pow_sub_one] at hb
  have h6 : i % 64 < 64 := by omega
  have h5 : 64 * (k + i / 64) + i % 64 = 64 * k + i := by omega
  rw [h5] at hb
  simpa [h6] using hb.symm
omit B F KI N T hk in
theorem run_nobit {X k r i : Nat} (hk : k + r ≤ wcount X) (h : ∀ j < r, (wordsX X).getD (k + j) 0 = 0) (hi : i < 64 * r) : X.testBit (64 * k + i) = false := by
  have hb := word_bit (X := X) (k := k + i / 64) (i := i % 64) (by omega)
  rw [h _ (by omega), Nat.zero_testBit] at hb
  have h6 : i % 64 < 64 := by omega
  have h5 : 64 * (k + i / 64) + i % 64 = 64 * k + i := by omega
  rw [h5] at hb
  simpa [h6] using hb.symm
omit B F KI N T hk in
theorem lowS_run {X k r : Nat} (hk : k + r ≤ wcount X) (h : ∀ j < r, (wordsX X).getD (k + j) 0 = 0) (j : Nat) : lowS X (64 * k) j = lowS X (64 * (k + r)) j := by
  unfold lowS
  by_cases h1 : j < 64 * k
  · have h2 : j < 64 * (k + r) := by omega
    simp [h1, h2]
  · by_cases h2 : j < 64 * (k + r)
    · have := run_nobit hk h (i := j - 64 * k) (by omega)
      rw [show 64 * k + (j - 64 * k) = j by omega] at this
      simp [this]
    · simp [h1, h2]
omit B F KI N T hk in
theorem lit_test {x i : Nat} : Builtin.bitAnd ((x : Nat) : Int) (1 * 2 ^ (((i : Nat) : Int)).toNat) = 0 ↔ x.testBit i = false := by
  have e3 : (1 : Int) * (2 : Int) ^ i = ((2 ^ i : Nat) : Int) := by rw [Int.one_mul]; push_cast; rfl
  rw [Int.toNat_natCast, e3, bitAnd_nat]
  constructor
  · intro h
    have h1 : x &&& 2 ^ i = 0 := by omega
    have h2 := congrArg (fun y => y.testBit i) h1
    simp only [Nat.testBit_and, Nat.testBit_two_pow, Nat.zero_testBit, decide_true, Bool.and_true] at h2
    exact h2
  · intro h
    have h1 : x &&& 2 ^ i = 0 := by
      refine Nat.eq_of_testBit_eq fun j => ?_
      rw [Nat.testBit_and, Nat.testBit_two_pow, Nat.zero_testBit]
      by_cases hj : i = j
      · subst hj; rw [h]; rfl
      · simp [hj]
    rw [h1]; rfl
omit B F KI N T hk in
theorem lits_idx {C W R : List Nat} {p k1 l H i : Nat} {z2 : Int} (h : C.drop p = H :: ((W.drop k1).take l ++ R)) (hl : k1 + l ≤ W.length) (hi : i < l) (hz : z2 = ((p + 1 + i : Nat) : Int)) : (asInts C).getD z2.toNat 0 = ((W.getD (k1 + i) 0 : Nat) : Int) := by
  rw [hz, Int.toNat_natCast, getD_ints]
  have e : C[p + 1 + i]? = W[k1 + i]? := by
    have h1 : (C.drop p)[1 + i]? = C[p + 1 + i]? := by rw [List.getElem?_drop]; congr 1; omega
    rw [← h1, h, Nat.add_comm 1 i, List.getElem?_cons_succ, List.getElem?_append_left (by rw [List.length_take, List.length_drop]; omega), List.getElem?_take, if_pos hi, List.getElem?_drop]
  rw [List.getD_eq_getElem?_getD, List.getD_eq_getElem?_getD, e]
omit B F KI N T hk in
theorem lits_head {C W R : List Nat} {p k1 l H : Nat} {z2 : Int} (h : C.drop p = H :: ((W.drop k1).take l ++ R)) (hz : z2 = ((p : Nat) : Int)) : (asInts C).getD z2.toNat 0 = ((H : Nat) : Int) := by
  rw [hz, Int.toNat_natCast, getD_ints]
  have e : (C.drop p)[0]? = some H := by rw [h]; rfl
  rw [List.getElem?_drop, Nat.add_zero] at e
  rw [List.getD_eq_getElem?_getD, e]; rfl
omit B F KI N T hk in
theorem lits_len {C W R : List Nat} {p k1 l H : Nat} (h : C.drop p = H :: ((W.drop k1).take l ++ R)) (hl : k1 + l ≤ W.length) : p + 1 + l ≤ C.length := by
  have hL := congrArg List.length h
  simp only [List.length_drop, List.length_cons, List.length_append, List.length_take] at hL
  omega
omit B F KI N T hk in
theorem run_val2 {H r : Nat} (h : H / 2 % 2 ^ 32 = r) : Builtin.bitAnd (((H : Nat) : Int).fdiv (2 ^ Int.toNat 1)) 4294967295 = ((r : Nat) : Int) := by
  rw [show (4294967295 : Int) = 2 ^ Int.toNat 32 - 1 from by decide]
  exact run_val h
omit B F KI N T hk in
theorem lp_turn {h₀ : Heap} {L I b : Addr} {oI ob ob' : Obj} {a1 a2 a3 : Addr × Obj} {J : (Str → Option Value) → List (Addr × Obj) → Prop} {m₂ : Str → Option Value} {rest : List (Addr × Obj)} {s₁ : Shared} {h' : Heap} {tk : Nat} {Qr : Value → Shared → Prop} {Qb : Shared → Prop}
    (F : Fr h₀ L h' m₂) (N : News h₀ L h' ((I, oI) :: a1 :: a2 :: a3 :: (b, ob') :: rest)) (off : ∀ p ∈ a1 :: a2 :: a3 :: (b, ob) :: rest, p.1 ≠ I) (hJ : J m₂ (a1 :: a2 :: a3 :: (b, ob') :: rest)) :
    LoopStepV h₀ L [I] [(I, oI)] J s₁ Qr Qb .next { s₁ with heap := h', toks := tk } := by
  refine LoopStepV.next (LoopStepU.intro (news₂ := a1 :: a2 :: a3 :: (b, ob') :: rest) F N (fun p hp => ?_) hJ)
  rw [List.mem_singleton]
  simp only [List.mem_cons] at hp
  rcases hp with rfl | rfl | rfl | rfl | hp
  · exact off _ (.head _)
  · exact off _ (.tail _ (.head _))
  · exact off _ (.tail _ (.tail _ (.head _)))
  · exact off (b, ob) (.tail _ (.tail _ (.tail _ (.head _))))
  · exact off p (.tail _ (.tail _ (.tail _ (.tail _ hp))))
omit B F KI N T hk in
theorem reordI {h : Heap} {I l f df b : Addr × Obj} {r : List (Addr × Obj)} (N : News h₀ L h (I :: l :: f :: df :: b :: r)) : News h₀ L h (l :: f :: df :: b :: I :: r) :=
  fun p hp => N p (by simp only [List.mem_cons] at hp ⊢; rcases hp with h | h | h | h | h | h <;> simp [h])
omit B F KI N T hk in
theorem reordJ {h : Heap} {I l f df b : Addr × Obj} {r : List (Addr × Obj)} (N : News h₀ L h (l :: f :: df :: b :: I :: r)) : News h₀ L h (I :: l :: f :: df :: b :: r) :=
  fun p hp => N p (by simp only [List.mem_cons] at hp ⊢; rcases hp with h | h | h | h | h | h <;> simp [h])
omit B F KI N T hk in
theorem bitOf_one {x : Nat} (h : ((bitOf x : Nat) : Int) = 1) : x = 2 ^ 64 - 1 := by
  by_cases hx : x = 2 ^ 64 - 1
  · exact hx
  · unfold bitOf at h; rw [if_neg hx] at h; cases h
omit B F KI N T hk in
theorem bitOf_ne {x r : Nat} (hr : 0 < r) (c5 : isLit x = true → r = 0) (h : ((bitOf x : Nat) : Int) ≠ 1) : x = 0 := by
  refine notlit_zero ?_ fun e => h (by unfold bitOf; rw [if_pos e]; rfl)
  cases h1 : isLit x with
  | false => rfl
  | true => have := c5 h1; omega
omit B F KI N T hk in
theorem lit_bit1 {x j : Nat} {d c : Bool} (h : x.testBit j = (d && c)) (hb : Builtin.bitAnd ((x : Nat) : Int) (1 * 2 ^ (((j : Nat) : Int)).toNat) ≠ 0) : c = true := by
  cases hc : c with
  | true => rfl
  | false => rw [hc, Bool.and_false] at h; exact absurd (lit_test.mpr h) hb
omit B F KI N T hk in
theorem lit_bit0 {x j : Nat} {c : Bool} (hj : j < 64) (h : x.testBit j = (decide (j < 64) && c)) (hb : Builtin.bitAnd ((x : Nat) : Int) (1 * 2 ^ (((j : Nat) : Int)).toNat) = 0) : c = false := by
  rw [lit_test.mp hb] at h
  simpa [hj] using h.symm
omit B F KI N T hk in
theorem ne4 {b x dx d lw : Addr} {o1 o2 o3 o5 : Obj} {news : List (Addr × Obj)} (h : @LT.lt Nat _ b d ∧ @LT.lt Nat _ x d ∧ @LT.lt Nat _ dx d ∧ AllLt d news) (h2 : @LT.lt Nat _ d lw) : ∀ p ∈ (lw, o5) :: (b, o1) :: (x, o2) :: (dx, o3) :: news, p.1 ≠ d := by
  intro p hp
  rcases List.mem_cons.mp hp with rfl | hp
  · exact Nat.ne_of_gt h2
  · exact ne3 h p hp
omit B F KI N T hk in
theorem reordD {h : Heap} {l f df : Addr × Obj} {r : List (Addr × Obj)} (N : News h₀ L h (l :: f :: df :: r)) : News h₀ L h (f :: df :: l :: r) :=
  fun p hp => N p (by simp only [List.mem_cons] at hp ⊢; rcases hp with h | h | h | h <;> simp [h])
omit N in
set_option maxRecDepth 100000 in
set_option maxHeartbeats 8000000 in
theorem dec_ok {X : Nat} {oc : Array UInt8} {t9 t1 t2 t3 : Tok} {x dx b : Addr} (N : News h₀ L s.heap ((b, freshSet w) :: (x, instObj 145 dx) :: (dx, bmDict w b 0 t1 t2 t3) :: news)) (hnd : ∀ p ∈ news, p.1 ≠ dx) (hnb : ∀ p ∈ news, p.1 ≠ b) (hd1 : @LT.lt Nat _ dx x) (hd2 : @LT.lt Nat _ x b) (hX : X < 2 ^ 384) (hoc : KBw.bInts oc = octI X) (hdp : dp + 2 < recursionLimit) (hu : un + 24 < cLine)
    (ret : ∀ (h' : Heap) (tk' : Nat) ob t, Fr h₀ L h' m → News h₀ L h' ((b, ob) :: (x, instObj 145 dx) :: (dx, bmDict w b (bl X : Nat) t t2 t3) :: news) → BSet w ob (fun j => X.testBit j) → Q .none { s with heap := h', toks := tk' }) :
    wpAny (model prog w) (ktrTop dp un gd cn cs L a ccd cl outer) (call (.ref 86) [.ref x, .bytes oc t9]) Q E s := by
  have hel := encX_len hX
  have hbl := bl_le384 hX
  obtain ⟨ne, hne⟩ : ∃ ne, ne = (encW (wordsX X)).length := ⟨_, rfl⟩
  have holn : (octI X).length = 12 + 8 * ne := by rw [octI_len, hne]
  have hol : (octI X).length ≤ 200 := ol200 holn hne hel
  have hne12 : ne ≤ 12 := hne ▸ hel
  have hdv1 := dv1 hbl
  have hdv2 := dv2 (bl X)
  ((refine wpAny_call ?_; (k_dflt (first | (refine' code_def ?k1 ?k2 ?k3 ?k4 ?k5 ?kA ?kF ?kK ?k6 ?k7 ?k8 ?k9 ?kB ?_ ?c2 ?c3 ?c4 ?c5; (case kA => exact rfl); (case kF => exact rfl); (case kK => first | exact rfl | assumption); (case k1 => k_asm); (case k2 => k_asm); (case k3 => k_asm); (case k4 => k_asm); (case k5 => k_asm); (case k6 => k_is); (case k7 => k_is); (case k8 => first | k_room | ktr_room); (case k9 => first | exact BindsTo.of_eq rfl | exact binds_K (by k_in) rfl (by k_is) rfl rfl rfl | fail "k_enter: no rule for these arguments"); (case c5 => decide); (case kB => exact locs rfl); (case c2 => exact rfl); (case c3 => exact rfl); (case c4 => exact rfl); k_whole; intro g' L' h' FG' F' N' B' X' T'; (try dsimp only); (try k_lift B'); (try k_fold)) | (refine' code_defC ?k1 ?k2 ?k3 ?k4 ?k5 ?kA ?kF ?kK ?k6 ?k7 ?k8 ?k9 ?kB ?kD ?_ ?c2 ?c3 ?c4; (case kA => exact rfl); (case kF => exact rfl); (case kK => first | exact rfl | assumption); (case k1 => k_asm); (case k2 => k_asm); (case k3 => k_asm); (case k4 => k_asm); (case k5 => k_asm); (case k6 => k_is); (case k7 => k_is); (case k8 => first | k_room | ktr_room); (case k9 => first | exact BindsTo.of_eq rfl | exact binds_K (by k_in) rfl (by k_is) rfl rfl rfl | fail "k_enter: no rule for these arguments"); (case kB => exact rfl); (case kD => decide +kernel); (case c2 => exact rfl); (case c3 => exact rfl); (case c4 => exact rfl); k_whole; intro g' L' h' tk' cells' FG' F' N' Y' B' X' T' l1; (try k_lt l1); k_cells Y'; (try simp only [List.cons_append, List.nil_append] at N'); (try dsimp only); (try k_lift B'); (try k_fold))))))
  (repeat' ((fail_if_success (with_reducible show wpAny _ _ (pyIter _) _ _ _)); (fail_if_success (with_reducible show LoopStepV _ _ _ _ _ _ _ _ _ _)); (fail_if_success (with_reducible show wpAny _ _ (exec (Stmt.While _ _ _ _) _) _ _ _)); first | (k_unfold; (try dsimp only)) | (with_reducible refine wpAny_execs_nil ?_; (try dsimp only)) | (k_end; wrow_close) | walk1 | (dsimp only; walk1) | (dsimp only [List.cons_append, List.nil_append]; walk1) | (leave1; walk_say "STEP leave1"; try dsimp only) | fail "no step"))
  ((k_here; k_dflt ((refine' call_cls ?k1 ?k2 ?k3 ?k4 ?k5 ?k6 ?_; (case k1 => k_asm); (case k2 => k_asm); (case k3 => k_asm); (case k4 => k_is); (case k5 => k_is); (case k6 => k_is); k_whole; intro x' d' h' F' N' l1 l2; (try k_lt l1); (try k_lt2 l2); (try k_sweep)); (k_dflt (first | (refine' code_def ?k1 ?k2 ?k3 ?k4 ?k5 ?kA ?kF ?kK ?k6 ?k7 ?k8 ?k9 ?kB ?_ ?c2 ?c3 ?c4 ?c5; (case kA => exact rfl); (case kF => exact rfl); (case kK => first | exact rfl | assumption); (case k1 => k_asm); (case k2 => k_asm); (case k3 => k_asm); (case k4 => k_asm); (case k5 => k_asm); (case k6 => k_is); (case k7 => k_is); (case k8 => first | k_room | ktr_room); (case k9 => first | exact BindsTo.of_eq rfl | exact binds_K (by k_in) rfl (by k_is) rfl rfl rfl | fail "k_enter: no rule for these arguments"); (case c5 => decide); (case kB => exact locs rfl); (case c2 => exact rfl); (case c3 => exact rfl); (case c4 => exact rfl); k_whole; intro g' L' h' FG' F' N' B' X' T'; (try dsimp only); (try k_lift B'); (try k_fold)) | (refine' code_defC ?k1 ?k2 ?k3 ?k4 ?k5 ?kA ?kF ?kK ?k6 ?k7 ?k8 ?k9 ?kB ?kD ?_ ?c2 ?c3 ?c4; (case kA => exact rfl); (case kF => exact rfl); (case kK => first | exact rfl | assumption); (case k1 => k_asm); (case k2 => k_asm); (case k3 => k_asm); (case k4 => k_asm); (case k5 => k_asm); (case k6 => k_is); (case k7 => k_is); (case k8 => first | k_room | ktr_room); (case k9 => first | exact BindsTo.of_eq rfl | exact binds_K (by k_in) rfl (by k_is) rfl rfl rfl | fail "k_enter: no rule for these arguments"); (case kB => exact rfl); (case kD => decide +kernel); (case c2 => exact rfl); (case c3 => exact rfl); (case c4 => exact rfl); k_whole; intro g' L' h' tk' cells' FG' F' N' Y' B' X' T' l1; (try k_lt l1); k_cells Y'; (try simp only [List.cons_append, List.nil_append] at N'); (try dsimp only); (try k_lift B'); (try k_fold)))))))
  (repeat' ((fail_if_success (with_reducible show wpAny _ _ (pyIter _) _ _ _)); (fail_if_success (with_reducible show LoopStepV _ _ _ _ _ _ _ _ _ _)); (fail_if_success (with_reducible show wpAny _ _ (exec (Stmt.While _ _ _ _) _) _ _ _)); first | (k_unfold; (try dsimp only)) | (with_reducible refine wpAny_execs_nil ?_; (try dsimp only)) | (k_end; wrow_close) | walk1 | (dsimp only; walk1) | (dsimp only [List.cons_append, List.nil_append]; walk1) | (leave1; walk_say "STEP leave1"; try dsimp only) | fail "no step"))
  rename _ ∧ _ ∧ _ ∧ AllLt _ news => hAl
  rename @LT.lt Nat _ _ _ => hlx
  have nE := fun p hp => neN (Nat.ne_of_lt (allLt_to hAl.2.2.2 p hp))
  rename News _ _ _ _ => N9
  with_unfolding_all refine bread_ok (P := 0) (n := 4) (by k_asm) (by k_asm) (by k_asm) (by k_asm) rfl N9 hoc (ol12 holn rfl) hol (ne3 hAl) (Nat.ne_of_gt hlx) (by (((try dsimp only [units_in1, units_deeper, Around.mark_units, units_caller, depth_under_make, depth_under_kw, units_under_make, depth_in1, depth_deeper, depth_caller]); (try dsimp only [ktrTop]); first | with_reducible exact Mine.rB1 (by assumption) rfl | with_reducible exact Mine.rC1 (by assumption) rfl | with_reducible exact Mine.rB2 (by assumption) rfl | with_reducible exact Mine.rC2 (by assumption) rfl | with_reducible exact Mine.rB0 (by assumption) | with_reducible exact Mine.rC0 (by assumption) | exact Mine.rm1 (by assumption) rfl | exact Mine.rm2 (by assumption) rfl | exact Mine.rm3 (by assumption) rfl | exact Mine.rm0 (by assumption) | (have hcL9 := cLine_is; omega (config := {}))))) (by (((try dsimp only [units_in1, units_deeper, Around.mark_units, units_caller, depth_under_make, depth_under_kw, units_under_make, depth_in1, depth_deeper, depth_caller]); (try dsimp only [ktrTop]); first | with_reducible exact Mine.rB1 (by assumption) rfl | with_reducible exact Mine.rC1 (by assumption) rfl | with_reducible exact Mine.rB2 (by assumption) rfl | with_reducible exact Mine.rC2 (by assumption) rfl | with_reducible exact Mine.rB0 (by assumption) | with_reducible exact Mine.rC0 (by assumption) | exact Mine.rm1 (by assumption) rfl | exact Mine.rm2 (by assumption) rfl | exact Mine.rm3 (by assumption) rfl | exact Mine.rm0 (by assumption) | (have hcL9 := cLine_is; omega (config := {}))))) ?_
  intro h1 tk1 p1 tp1 tz1 F1 N1 hp1
  have hl1 : (KBw.bInts p1).length = 4 := by rw [hp1, List.length_take, List.length_drop]; exact minT (ol12 holn rfl)
  (repeat' ((fail_if_success (with_reducible show wpAny _ _ (pyIter _) _ _ _)); (fail_if_success (with_reducible show LoopStepV _ _ _ _ _ _ _ _ _ _)); (fail_if_success (with_reducible show wpAny _ _ (exec (Stmt.While _ _ _ _) _) _ _ _)); first | (k_unfold; (try dsimp only)) | (with_reducible refine wpAny_execs_nil ?_; (try dsimp only)) | (k_end; wrow_close) | walk1 | (dsimp only; walk1) | (dsimp only [List.cons_append, List.nil_append]; walk1) | (leave1; walk_say "STEP leave1"; try dsimp only) | fail "no step"))
  rename News _ _ _ _ => N9
  with_unfolding_all refine bread_ok (P := 4) (n := 4) (by k_asm) (by k_asm) (by k_asm) (by k_asm) rfl N9 hoc (ol12 holn rfl) hol (ne3 hAl) (Nat.ne_of_gt hlx) (by (((try dsimp only [units_in1, units_deeper, Around.mark_units, units_caller, depth_under_make, depth_under_kw, units_under_make, depth_in1, depth_deeper, depth_caller]); (try dsimp only [ktrTop]); first | with_reducible exact Mine.rB1 (by assumption) rfl | with_reducible exact Mine.rC1 (by assumption) rfl | with_reducible exact Mine.rB2 (by assumption) rfl | with_reducible exact Mine.rC2 (by assumption) rfl | with_reducible exact Mine.rB0 (by assumption) | with_reducible exact Mine.rC0 (by assumption) | exact Mine.rm1 (by assumption) rfl | exact Mine.rm2 (by assumption) rfl | exact Mine.rm3 (by assumption) rfl | exact Mine.rm0 (by assumption) | (have hcL9 := cLine_is; omega (config := {}))))) (by (((try dsimp only [units_in1, units_deeper, Around.mark_units, units_caller, depth_under_make, depth_under_kw, units_under_make, depth_in1, depth_deeper, depth_caller]); (try dsimp only [ktrTop]); first | with_reducible exact Mine.rB1 (by assumption) rfl | with_reducible exact Mine.rC1 (by assumption) rfl | with_reducible exact Mine.rB2 (by assumption) rfl | with_reducible exact Mine.rC2 (by assumption) rfl | with_reducible exact Mine.rB0 (by assumption) | with_reducible exact Mine.rC0 (by assumption) | exact Mine.rm1 (by assumption) rfl | exact Mine.rm2 (by assumption) rfl | exact Mine.rm3 (by assumption) rfl | exact Mine.rm0 (by assumption) | (have hcL9 := cLine_is; omega (config := {}))))) ?_
  intro h2 tk2 p2 tp2 tz2 F2 N2 hp2
  have hl2 : (KBw.bInts p2).length = 4 := by rw [hp2, List.length_take, List.length_drop]; exact minT (ol12 holn rfl)
  (repeat' ((fail_if_success (with_reducible show wpAny _ _ (pyIter _) _ _ _)); (fail_if_success (with_reducible show LoopStepV _ _ _ _ _ _ _ _ _ _)); (fail_if_success (with_reducible show wpAny _ _ (exec (Stmt.While _ _ _ _) _) _ _ _)); first | (k_unfold; (try dsimp only)) | (with_reducible refine wpAny_execs_nil ?_; (try dsimp only)) | (k_end; wrow_close) | walk1 | (dsimp only; walk1) | (dsimp only [List.cons_append, List.nil_append]; walk1) | (leave1; walk_say "STEP leave1"; try dsimp only) | fail "no step"))
  have hk1 : KBw.bInts p1 = be 4 ((bl X : Nat) : Int) := by rw [hp1]; exact oct_a X
  k_dflt (refine' KFB.call_big ?a1 ?a2 hk1 (by rw [be_len]; decide) ?_; (case a1 => k_asm); (case a2 => (repeat (first | assumption | exact List.Mem.head _ | refine' List.Mem.tail _ ?_))))
  rw [value_be (z0 _) (lt4b hbl rfl)]
  intro t1' k1'
  (repeat' ((fail_if_success (with_reducible show wpAny _ _ (pyIter _) _ _ _)); (fail_if_success (with_reducible show LoopStepV _ _ _ _ _ _ _ _ _ _)); (fail_if_success (with_reducible show wpAny _ _ (exec (Stmt.While _ _ _ _) _) _ _ _)); first | (k_unfold; (try dsimp only)) | (with_reducible refine wpAny_execs_nil ?_; (try dsimp only)) | (k_end; wrow_close) | walk1 | (dsimp only; walk1) | (dsimp only [List.cons_append, List.nil_append]; walk1) | (leave1; walk_say "STEP leave1"; try dsimp only) | fail "no step"))
  have hk2 : KBw.bInts p2 = be 4 ((ne : Nat) : Int) := by rw [hp2, hne]; exact oct_b X
  k_dflt (refine' KFB.call_big ?a1 ?a2 hk2 (by rw [be_len]; decide) ?_; (case a1 => k_asm); (case a2 => (repeat (first | assumption | exact List.Mem.head _ | refine' List.Mem.tail _ ?_))))
  rw [value_be (z0 _) (lt4b hne12 rfl)]
  intro t2' k2'
  (repeat' ((fail_if_success (with_reducible show wpAny _ _ (pyIter _) _ _ _)); (fail_if_success (with_reducible show LoopStepV _ _ _ _ _ _ _ _ _ _)); (fail_if_success (with_reducible show wpAny _ _ (binaryOp Operator.LShift _ _) _ _ _)); (fail_if_success (with_reducible show wpAny _ _ (exec (Stmt.While _ _ _ _) _) _ _ _)); first | (k_unfold; (try dsimp only)) | (with_reducible refine wpAny_execs_nil ?_; (try dsimp only)) | (k_end; wrow_close) | (walk1; (try dsimp only)) | (dsimp only; walk1) | (dsimp only [List.cons_append, List.nil_append]; walk1) | (leave1; walk_say "STEP leave1"; try dsimp only) | fail "no step"))
  rename IsRange _ _ _ _ _ _ _ _ => hR
  rename News _ _ _ _ => NN
  rename Fr _ _ _ _ => FF
  rename _ ∧ _ ∧ _ ∧ _ ∧ _ ∧ _ ∧ _ ∧ AllLt _ news => hLl
  have nlw := fun p hp => neN (Nat.ne_of_lt (allLt_to hLl.2.2.2.2.2.2.2 p hp))
  have hdl := hLl.2.2.2.1
  refine for_rpar (n := ne) (AJ w oc X) ⟨_, _, _, _, _, _, _, _, _, _⟩ (by with_unfolding_all rfl) hR (small_one (by decide) (by decide) (s62a _) (s62b hne12)) (by rw [rangeSize_nat]; exact rs1 _) FF (reordA NN) ⟨[], 0, _, _, by with_unfolding_all rfl, by with_unfolding_all rfl, by with_unfolding_all rfl, by with_unfolding_all rfl, by with_unfolding_all rfl, rfl, .nil, by rfl⟩ ?_ ?_
  · intro i t m5 news5 h5 tk5 I oI hi hJ hoff F5 N5
    refine hJ.elim ?_
    intro ws c tz e1 e2 e3 e4 e5 hq hI
    rw [hq] at N5 hoff
    clear hJ FF NN hR
    have F6 := fr_name (x := "f") (fr_name (x := "words") F5 e3) (by with_unfolding_all exact e1)
    have f1 := neN (hoff _ (.head _))
    have f2 := neN (hoff _ (.tail _ (.head _)))
    have f3 := neN (hoff _ (.tail _ (.tail _ (.head _))))
    have f4 := neN (hoff _ (.tail _ (.tail _ (.tail _ (.head _)))))
    have f5 := neN (hoff _ (.tail _ (.tail _ (.tail _ (.tail _ (.head _))))))
    have f6 := neN (hoff _ (.tail _ (.tail _ (.tail _ (.tail _ (.tail _ (.head _)))))))
    have f7 : ∀ p ∈ news, p.1 ≠ I := fun p hp => hoff p (.tail _ (.tail _ (.tail _ (.tail _ (.tail _ (.tail _ hp))))))
    clear F5
    try dsimp only at f1 f2 f3 f4 f5 f6
    try dsimp only
    (repeat' ((fail_if_success (with_reducible show wpAny _ _ (pyIter _) _ _ _)); (fail_if_success (with_reducible show LoopStepV _ _ _ _ _ _ _ _ _ _)); (fail_if_success (with_reducible show wpAny _ _ (binaryOp Operator.LShift _ _) _ _ _)); (fail_if_success (with_reducible show wpAny _ _ (exec (Stmt.While _ _ _ _) _) _ _ _)); first | (k_unfold; (try dsimp only)) | (with_reducible refine wpAny_execs_nil ?_; (try dsimp only)) | (k_end; wrow_close) | (walk1; (try dsimp only)) | (dsimp only; walk1) | (dsimp only [List.cons_append, List.nil_append]; walk1) | (leave1; walk_say "STEP leave1"; try dsimp only) | fail "no step"))
    with_unfolding_all refine bread_ok (P := 8 + 8 * i) (n := 8) (by k_asm) (by k_asm) (by k_asm) (by k_asm) rfl (reordB N5) hoc (okkn holn hi) hol (ne5 hAl f3 hdl) (Nat.ne_of_gt hlx) (by (((try dsimp only [units_in1, units_deeper, Around.mark_units, units_caller, depth_under_make, depth_under_kw, units_under_make, depth_in1, depth_deeper, depth_caller]); (try dsimp only [ktrTop]); first | with_reducible exact Mine.rB1 (by assumption) rfl | with_reducible exact Mine.rC1 (by assumption) rfl | with_reducible exact Mine.rB2 (by assumption) rfl | with_reducible exact Mine.rC2 (by assumption) rfl | with_reducible exact Mine.rB0 (by assumption) | with_reducible exact Mine.rC0 (by assumption) | exact Mine.rm1 (by assumption) rfl | exact Mine.rm2 (by assumption) rfl | exact Mine.rm3 (by assumption) rfl | exact Mine.rm0 (by assumption) | (have hcL9 := cLine_is; omega (config := {}))))) (by (((try dsimp only [units_in1, units_deeper, Around.mark_units, units_caller, depth_under_make, depth_under_kw, units_under_make, depth_in1, depth_deeper, depth_caller]); (try dsimp only [ktrTop]); first | with_reducible exact Mine.rB1 (by assumption) rfl | with_reducible exact Mine.rC1 (by assumption) rfl | with_reducible exact Mine.rB2 (by assumption) rfl | with_reducible exact Mine.rC2 (by assumption) rfl | with_reducible exact Mine.rB0 (by assumption) | with_reducible exact Mine.rC0 (by assumption) | exact Mine.rm1 (by assumption) rfl | exact Mine.rm2 (by assumption) rfl | exact Mine.rm3 (by assumption) rfl | exact Mine.rm0 (by assumption) | (have hcL9 := cLine_is; omega (config := {}))))) ?_
    intro h7 tk7 p7 tp7 tz7 F7 N7 hp7
    have hget : (encW (wordsX X))[i]? = some ((encW (wordsX X)).getD i 0) := by rw [List.getD_eq_getElem?_getD, List.getElem?_eq_getElem (hne ▸ hi)]; rfl
    have hclt := encX_lt hX _ (List.mem_of_getElem? hget)
    try dsimp only
    (repeat' ((fail_if_success (with_reducible show wpAny _ _ (pyIter _) _ _ _)); (fail_if_success (with_reducible show LoopStepV _ _ _ _ _ _ _ _ _ _)); (fail_if_success (with_reducible show wpAny _ _ (binaryOp Operator.LShift _ _) _ _ _)); (fail_if_success (with_reducible show wpAny _ _ (exec (Stmt.While _ _ _ _) _) _ _ _)); first | (k_unfold; (try dsimp only)) | (with_reducible refine wpAny_execs_nil ?_; (try dsimp only)) | (k_end; wrow_close) | (walk1; (try dsimp only)) | (dsimp only; walk1) | (dsimp only [List.cons_append, List.nil_append]; walk1) | (leave1; walk_say "STEP leave1"; try dsimp only) | fail "no step"))
    have hk7 : KBw.bInts p7 = be 8 (((encW (wordsX X)).getD i 0 : Nat) : Int) := by rw [hp7]; exact oct_c hget
    k_dflt (refine' KFB.call_big ?a1 ?a2 hk7 (by rw [be_len]; decide) ?_; (case a1 => k_asm); (case a2 => (repeat (first | assumption | exact List.Mem.head _ | refine' List.Mem.tail _ ?_))))
    rw [value_be (z0 _) (lt8b hclt)]
    intro t7' k7'
    have hwl : ws.length ≤ 12 := by have := hI.length; rw [List.length_map, List.length_take] at this; exact m12 this hel
    (repeat' ((fail_if_success (with_reducible show wpAny _ _ (pyIter _) _ _ _)); (fail_if_success (with_reducible show LoopStepV _ _ _ _ _ _ _ _ _ _)); (fail_if_success (with_reducible show wpAny _ _ (binaryOp Operator.LShift _ _) _ _ _)); (fail_if_success (with_reducible show wpAny _ _ (exec (Stmt.While _ _ _ _) _) _ _ _)); first | (k_unfold; (try dsimp only)) | (with_reducible refine wpAny_execs_nil ?_; (try dsimp only)) | (k_end; wrow_close) | (walk1; (try dsimp only)) | (dsimp only; walk1) | (dsimp only [List.cons_append, List.nil_append]; walk1) | (leave1; walk_say "STEP leave1"; try dsimp only) | fail "no step"))
    rename Fr _ _ _ _ => F9
    rename News _ _ _ _ => N9
    exact aj_turn F9 N9 hoff hI hget (z88 _) (by with_unfolding_all rfl) (by with_unfolding_all exact e2) (by with_unfolding_all rfl) (by with_unfolding_all exact e4) (by with_unfolding_all exact e5)
  · intro m5 news5 h5 tk5 hJ F5 N5
    refine hJ.elim ?_
    intro ws c tz e1 e2 e3 e4 e5 hq hI
    rw [hq] at N5
    rw [hne, List.take_length] at hI
    clear hJ hq FF NN hR
    have F6 := fr_name (x := "f") (fr_name (x := "self") (fr_name (x := "words") (fr_name (x := "current_bit") (fr_name (x := "max_bits") F5 e5) (by with_unfolding_all exact e4)) (by with_unfolding_all exact e3)) (by with_unfolding_all exact e2)) (by with_unfolding_all exact e1)
    clear F5
    try dsimp only
    (repeat' ((fail_if_success (with_reducible show wpAny _ _ (pyIter _) _ _ _)); (fail_if_success (with_reducible show LoopStepV _ _ _ _ _ _ _ _ _ _)); (fail_if_success (with_reducible show wpAny _ _ (binaryOp Operator.LShift _ _) _ _ _)); (fail_if_success (with_reducible show wpAny _ _ (exec (Stmt.While _ _ _ _) _) _ _ _)); first | (k_unfold; (try dsimp only)) | (with_reducible refine wpAny_execs_nil ?_; (try dsimp only)) | (k_end; wrow_close) | (walk1; (try dsimp only)) | (dsimp only; walk1) | (dsimp only [List.cons_append, List.nil_append]; walk1) | (leave1; walk_say "STEP leave1"; try dsimp only) | fail "no step"))
    rename Fr _ _ _ _ => F7
    rename News _ _ _ _ => N7
    have hwc := wcount_le hX
    have hwl := wordsX_len X
    have hmb : (((bl X : Nat) : Int) + 63).fdiv 64 * 64 = ((64 * wcount X : Nat) : Int) := by
      rw [Int.fdiv_eq_ediv_of_nonneg _ (by decide)]
      unfold wcount
      exact (wc64 _).symm
    rw [hmb] at F7
    clear hmb e1 e2 e3 e4 e5 F6
    refine While_par (n₀ := ne) (DJ w X ne) (DE w X) ⟨_, _, _, _, _, _, _, _, _⟩ F7 N7 ⟨0, 0, ⟨_, _, _, _, _, _, _, by with_unfolding_all rfl, by with_unfolding_all rfl, by with_unfolding_all rfl, by with_unfolding_all rfl, by with_unfolding_all rfl, by with_unfolding_all rfl, rfl, BSet.congr (bset_fresh _) (fun j => by simp [lowS]), by rfl, by rfl, by rfl⟩, rfl, Nat.zero_le _, rfl, Nat.zero_le _⟩ ?_ ?_
    · intro n m8 news8 h8 tk8 F8 N8 hJq
      refine hJq.elim ?_
      intro k p hXq hdr hpn hn2 hkw
      refine hXq.elim ?_
      intro z1 t1 z2 t2 zb tb ob e1 e2 e3 e4 e5 e6 hq hB hz1 hz2 hzb
      rw [hq] at N8
      clear hXq F7 N7
      have F9 := fr_name (x := "f") (fr_name (x := "self") (fr_name (x := "words") (fr_name (x := "current_bit") (fr_name (x := "idx") (fr_name (x := "max_bits") F8 e6) (by with_unfolding_all exact e5)) (by with_unfolding_all exact e4)) (by with_unfolding_all exact e3)) (by with_unfolding_all exact e2)) (by with_unfolding_all exact e1)
      clear F8
      try dsimp only
      (repeat' ((fail_if_success (with_reducible show wpAny _ _ (pyIter _) _ _ _)); (fail_if_success (with_reducible show LoopStepV _ _ _ _ _ _ _ _ _ _)); (fail_if_success (with_reducible show wpAny _ _ (binaryOp Operator.LShift _ _) _ _ _)); (fail_if_success (with_reducible show wpAny _ _ (exec (Stmt.While _ _ _ _) _) _ _ _)); (fail_if_success (with_reducible show wpAny _ _ (exec (Stmt.If _ _ _ _) _) _ _ _)); first | (k_unfold; (try dsimp only)) | (with_reducible refine wpAny_execs_nil ?_; (try dsimp only)) | (k_end; wrow_close) | (walk1; (try dsimp only)) | (dsimp only; walk1) | (dsimp only [List.cons_append, List.nil_append]; walk1) | (leave1; walk_say "STEP leave1"; try dsimp only) | fail "no step"))
      · rename z2 < _ => hlt
        rename Fr _ _ _ _ => F7
        rename News _ _ _ _ => N7
        have hal : (asInts (encW (wordsX X))).length = ne := by rw [List.length_map, hne]
        rw [hal] at hlt
        have hkW : k < (wordsX X).length := by
          refine Nat.lt_of_not_le fun hle => ?_
          rw [List.drop_of_length_le hle, encW_nil, List.drop_eq_nil_iff] at hdr
          exact absurd (zN hz2 hlt hne) (Nat.not_lt.mpr hdr)
        refine chunk_elim hkW ?_
        intro r l H hH1 hH2 hH3 hch c1 c2 c3 c4 c5 c6 c7
        have hr6 : r ≤ 6 := le6 c1 hwl hwc
        have hr32 : r < 2 ^ 32 := llt62 hr6 rfl
        replace hH1 := hH1 hr32
        replace hH2 := hH2 hr32
        replace hH3 := hH3 hr32
        have hch2 := hdr.trans hch
        have hpl := lits_len hch2 c1
        rw [← hne] at hpl
        have hfd : ((H : Nat) : Int).fdiv (2 ^ Int.toNat 33) = ((l : Nat) : Int) := by
          rw [show ((2 : Int) ^ Int.toNat 33) = ((2 ^ 33 : Nat) : Int) from rfl, Int.fdiv_eq_ediv_of_nonneg _ (by decide), ← Int.natCast_ediv, hH1]
        rw [lits_head hch2 hz2, run_val2 hH2, hfd, bit_val hH3] at F7
        have hkr : k + r + l ≤ wcount X := Nat.le_trans c1 (Nat.le_of_eq hwl)
        clear hch hdr hH1 hH2 hq e1 e2 e3 e4 e5 e6
        refine cut_par (s := ⟨_, _, _, _, _⟩) (DJ w X ne) hJq (fun q => DY w X "words" (some (.ref q.lw)) l (64 * (k + r)) (k + r) (p + 1) q) F7 N7 ?h1 ?h2
        case h1 =>
          walk1
          (repeat' ((fail_if_success (with_reducible show wpAny _ _ (pyIter _) _ _ _)); (fail_if_success (with_reducible show LoopStepV _ _ _ _ _ _ _ _ _ _)); (fail_if_success (with_reducible show wpAny _ _ (binaryOp Operator.LShift _ _) _ _ _)); (fail_if_success (with_reducible show wpAny _ _ (exec (Stmt.While _ _ _ _) _) _ _ _)); first | (k_unfold; (try dsimp only)) | (with_reducible refine wpAny_execs_nil ?_; (try dsimp only)) | (k_end; wrow_close) | (walk1; (try dsimp only)) | (dsimp only; walk1) | (dsimp only [List.cons_append, List.nil_append]; walk1) | (leave1; walk_say "STEP leave1"; try dsimp only) | fail "no step"))
          · rename IsRange _ _ _ _ _ _ _ _ => hR
            rename Fr _ _ _ _ => F8
            rename News _ _ _ _ => N8
            rename ((bitOf _ : Nat) : Int) = 1 => hb
            have hones : ∀ j < r, (wordsX X).getD (k + j) 0 = 2 ^ 64 - 1 := fun j hj => (c2 j hj).trans (bitOf_one hb)
            (try clear F7); (try clear N7)
            refine for_rpar (n := 64 * r) (fun (qv : WP × Option Value) i => DY w X "run_bits" qv.2 l (64 * k + i) k (p + 1) qv.1) (⟨_, _, _, _, _, _, _, _, _⟩, _) (by with_unfolding_all rfl) hR (small_one (by decide) (by decide) (s62c _) (s62d hr6)) (by rw [rangeSize_nat]; exact rs2 _) F8 N8 ⟨_, _, _, _, _, _, _, _, _, by with_unfolding_all rfl, by with_unfolding_all rfl, by with_unfolding_all rfl, by with_unfolding_all rfl, by with_unfolding_all rfl, by with_unfolding_all rfl, by with_unfolding_all rfl, by with_unfolding_all rfl, rfl, hB, hz1, sx1 hz2, hzb, rfl⟩ ?_ ?_
            · intro i t m5 news5 h5 tk5 I oI hi hJ hoff F5 N5
              refine DY.elim hJ ?_
              intro z1 t1 z2 t2 zb tb zl tl ob e1 e2 e3 e4 e5 e6 e7 e8 hq hB hz1 hz2 hzb hzl
              rw [hq] at N5 hoff
              have F6 := fr_name (x := "self") (fr_name (x := "current_bit") F5 e4) (by with_unfolding_all exact e2)
              have f4 := neN (hoff _ (.tail _ (.tail _ (.tail _ (.head _)))))
              have hbt := run_bit (kr c1 hwl) hones hi
              have hzi : z1 + (0 + ((i : Nat) : Int)) = ((64 * k + i : Nat) : Int) := zi hz1
              have h1024 : 64 * k + i < 1024 := h1024a hi c1 hwl hwc
              clear F5 hJ F8 N8 hJq
              try dsimp only at f4
              try dsimp only
              (repeat' ((fail_if_success (with_reducible show wpAny _ _ (pyIter _) _ _ _)); (fail_if_success (with_reducible show LoopStepV _ _ _ _ _ _ _ _ _ _)); (fail_if_success (with_reducible show wpAny _ _ (binaryOp Operator.LShift _ _) _ _ _)); (fail_if_success (with_reducible show wpAny _ _ (exec (Stmt.While _ _ _ _) _) _ _ _)); first | (k_unfold; (try dsimp only)) | (with_reducible refine wpAny_execs_nil ?_; (try dsimp only)) | (k_end; wrow_close) | (walk1; (try dsimp only)) | (dsimp only; walk1) | (dsimp only [List.cons_append, List.nil_append]; walk1) | (leave1; walk_say "STEP leave1"; try dsimp only) | fail "no step"))
              rw [hzi]
              (repeat' ((fail_if_success (with_reducible show wpAny _ _ (pyIter _) _ _ _)); (fail_if_success (with_reducible show LoopStepV _ _ _ _ _ _ _ _ _ _)); (fail_if_success (with_reducible show wpAny _ _ (binaryOp Operator.LShift _ _) _ _ _)); (fail_if_success (with_reducible show wpAny _ _ (exec (Stmt.While _ _ _ _) _) _ _ _)); first | (k_unfold; (try dsimp only)) | (with_reducible refine wpAny_execs_nil ?_; (try dsimp only)) | (k_end; wrow_close) | (walk1; (try dsimp only)) | (dsimp only; walk1) | (dsimp only [List.cons_append, List.nil_append]; walk1) | (leave1; walk_say "STEP leave1"; try dsimp only) | fail "no step"))
              rename Fr _ _ _ _ => F9
              rename News _ _ _ _ => N9
              rename BSet _ _ _ => hB9
              exact lp_turn F9 N9 hoff ⟨_, _, _, _, _, _, _, _, _, by with_unfolding_all exact e1, by with_unfolding_all rfl, by with_unfolding_all exact e3, by with_unfolding_all rfl, by with_unfolding_all exact e5, by with_unfolding_all exact e6, by with_unfolding_all exact e7, by with_unfolding_all exact e8, rfl, BSet.congr hB9 (lowS_bit hbt), hz1, hz2, hzb, hzl⟩
            · intro m5 news5 h5 tk5 hJ F5 N5
              refine DY.elim hJ ?_
              intro z1 t1 z2 t2 zb tb zl tl ob e1 e2 e3 e4 e5 e6 e7 e8 hq hB hz1 hz2 hzb hzl
              rw [hq] at N5
              have F6 := fr_name (x := "current_bit") (fr_name (x := "run_bits") F5 e8) (by with_unfolding_all exact e4)
              clear F5 hJ F8 N8 hJq
              try dsimp only
              (repeat' ((fail_if_success (with_reducible show wpAny _ _ (pyIter _) _ _ _)); (fail_if_success (with_reducible show LoopStepV _ _ _ _ _ _ _ _ _ _)); (fail_if_success (with_reducible show wpAny _ _ (binaryOp Operator.LShift _ _) _ _ _)); (fail_if_success (with_reducible show wpAny _ _ (exec (Stmt.While _ _ _ _) _) _ _ _)); first | (k_unfold; (try dsimp only)) | (with_reducible refine wpAny_execs_nil ?_; (try dsimp only)) | (k_end; wrow_close) | (walk1; (try dsimp only)) | (dsimp only; walk1) | (dsimp only [List.cons_append, List.nil_append]; walk1) | (leave1; walk_say "STEP leave1"; try dsimp only) | fail "no step"))
              rename Fr _ _ _ _ => F9
              rename News _ _ _ _ => N9
              exact Out.intro F9 N9 ⟨_, _, _, _, _, _, _, _, _, by with_unfolding_all exact e1, by with_unfolding_all exact e2, by with_unfolding_all exact e3, by with_unfolding_all rfl, by with_unfolding_all exact e5, by with_unfolding_all exact e6, by with_unfolding_all exact e7, by with_unfolding_all exact e3, rfl, by rw [Nat.mul_add]; exact hB, zr64 hz1, hz2, hzb, hzl⟩
          · rename Fr _ _ _ _ => F8
            rename News _ _ _ _ => N8
            rename ((bitOf _ : Nat) : Int) ≠ 1 => hb
            rename (0 : Int) < ((r : Nat) : Int) => hr9
            have hzer : ∀ j < r, (wordsX X).getD (k + j) 0 = 0 := fun j hj => (c2 j hj).trans (bitOf_ne (pos9 hr9) c5 hb)
            exact Out.intro F8 N8 ⟨_, _, _, _, _, _, _, _, _, by with_unfolding_all rfl, by with_unfolding_all rfl, by with_unfolding_all rfl, by with_unfolding_all rfl, by with_unfolding_all rfl, by with_unfolding_all rfl, by with_unfolding_all rfl, by with_unfolding_all rfl, rfl, BSet.congr hB (lowS_run (kr c1 hwl) hzer), zr64 hz1, sx1 hz2, hzb, rfl⟩
          · rename Fr _ _ _ _ => F8
            rename News _ _ _ _ => N8
            rename ¬ (0 : Int) < ((r : Nat) : Int) => hr9
            have hr0 : r = 0 := r00 hr9
            exact Out.intro F8 N8 ⟨_, _, _, _, _, _, _, _, _, by with_unfolding_all rfl, by with_unfolding_all rfl, by with_unfolding_all rfl, by with_unfolding_all rfl, by with_unfolding_all rfl, by with_unfolding_all rfl, by with_unfolding_all rfl, by with_unfolding_all rfl, rfl, by rw [hr0]; exact hB, z10 hz1 hr0, sx1 hz2, hzb, rfl⟩
        case h2 =>
          (try clear F7)
          (try clear N7)
          clear hz1 hz2 hzb hB c2 c5 c6 hH3
          intro m9 news9 h9 tk9 F9 N9 hY
          refine DY.elim hY ?_
          intro z1 t1 z2 t2 zb tb zl tl ob e1 e2 e3 e4 e5 e6 e7 e8 hq hB hz1 hz2 hzb hzl
          rw [hq] at N9
          clear hY
          have F6 := fr_name (x := "literal_words") F9 e7
          clear F9
          have hl6 : l ≤ 6 := kl6 c1 hwl hwc
          have hp12 : p + 1 + l ≤ 12 := Nat.le_trans hpl hne12
          try dsimp only
          (repeat' ((fail_if_success (with_reducible show wpAny _ _ (pyIter _) _ _ _)); (fail_if_success (with_reducible show LoopStepV _ _ _ _ _ _ _ _ _ _)); (fail_if_success (with_reducible show wpAny _ _ (binaryOp Operator.LShift _ _) _ _ _)); (fail_if_success (with_reducible show wpAny _ _ (exec (Stmt.While _ _ _ _) _) _ _ _)); first | (k_unfold; (try dsimp only)) | (with_reducible refine wpAny_execs_nil ?_; (try dsimp only)) | (k_end; wrow_close) | (walk1; (try dsimp only)) | (dsimp only; walk1) | (dsimp only [List.cons_append, List.nil_append]; walk1) | (leave1; walk_say "STEP leave1"; try dsimp only) | fail "no step"))
          rename IsRange _ _ _ _ _ _ _ _ => hR
          rename Fr _ _ _ _ => F8
          rename News _ _ _ _ => N8
          refine for_rpar (n := l) (fun (qv : WP × Option Value) i => DY w X "words" qv.2 l (64 * (k + r + i)) (k + r + i) (p + 1 + i) qv.1) (⟨_, _, _, _, _, _, _, _, _⟩, _) (by with_unfolding_all rfl) hR (small_one (by decide) (by decide) (hzl ▸ s62a _) (hzl ▸ s62b (Nat.le_trans hl6 (by decide)))) (by rw [rangeSize_nat]; exact rs3 hzl) F8 N8 ⟨_, _, _, _, _, _, _, _, _, by with_unfolding_all exact e1, by with_unfolding_all exact e2, by with_unfolding_all exact e3, by with_unfolding_all exact e4, by with_unfolding_all exact e5, by with_unfolding_all exact e6, by with_unfolding_all rfl, by with_unfolding_all exact e8, rfl, hB, hz1, hz2, hzb, hzl⟩ ?_ ?_
          · intro i t m5 news5 h5 tk5 I oI hi hJ hoff F5 N5
            refine DY.elim hJ ?_
            clear hz1 hz2 hzb hB e1 e2 e3 e4 e5 e6 e7 e8 hq hzl
            intro z1 t1 z2 t2 zb tb zl tl ob e1 e2 e3 e4 e5 e6 e7 e8 hq hB hz1 hz2 hzb hzl
            rw [hq] at N5 hoff
            have F6 := fr_name (x := "idx") (fr_name (x := "words") (fr_name (x := "max_bits") (fr_name (x := "current_bit") F5 e4) (by with_unfolding_all exact e6)) (by with_unfolding_all exact e3)) (by with_unfolding_all exact e5)
            have f1 := neN (hoff _ (.head _))
            have f4 := neN (hoff _ (.tail _ (.tail _ (.tail _ (.head _)))))
            have hki : k + r + i < wcount X := kri c1 hwl hi
            have hpi : p + 1 + i < ne := pi9 hpl hi
            have hlit := lits_idx hch2 c1 hi hz2
            clear F5 hJ F8 N8 hJq hR
            try dsimp only at f1 f4
            try dsimp only
            (repeat' ((fail_if_success (with_reducible show wpAny _ _ (pyIter _) _ _ _)); (fail_if_success (with_reducible show LoopStepV _ _ _ _ _ _ _ _ _ _)); (fail_if_success (with_reducible show wpAny _ _ (binaryOp Operator.LShift _ _) _ _ _)); (fail_if_success (with_reducible show wpAny _ _ (exec (Stmt.While _ _ _ _) _) _ _ _)); first | (k_unfold; (try dsimp only)) | (with_reducible refine wpAny_execs_nil ?_; (try dsimp only)) | (k_end; wrow_close) | (walk1; (try dsimp only)) | (dsimp only; walk1) | (dsimp only [List.cons_append, List.nil_append]; walk1) | (leave1; walk_say "STEP leave1"; try dsimp only) | fail "no step"))
            rename IsRange _ _ _ _ _ _ _ _ => hR
            rename Fr _ _ _ _ => F8
            rename News _ _ _ _ => N8
            rw [hlit] at F8
            have hz2' : z2 + 1 = ((p + 1 + i + 1 : Nat) : Int) := sx1 hz2
            refine for_rpar (n := 64) (fun (qv : WP × Option Value) j => DY w X "literal" qv.2 l (64 * (k + r + i) + j) (k + r + i) (p + 1 + i + 1) qv.1) (⟨_, _, _, _, _, _, _, _, _⟩, _) (by with_unfolding_all rfl) hR (small_one (by decide) (by decide) (by decide) (by decide)) (by rw [rangeSize_nat]; rfl) F8 (reordI N8) ⟨_, _, _, _, _, _, _, _, _, by with_unfolding_all exact e1, by with_unfolding_all exact e2, by with_unfolding_all rfl, by with_unfolding_all rfl, by with_unfolding_all rfl, by with_unfolding_all rfl, by with_unfolding_all exact e7, by with_unfolding_all rfl, rfl, BSet.congr hB (fun j => by rw [Nat.add_zero]), hz1, hz2', hzb, hzl⟩ ?_ ?_
            · intro j t m6 news6 h6 tk6 I2 oI2 hj hJ hoff2 F5 N5
              refine DY.elim hJ ?_
              clear hz1 hz2 hz2' hlit hzb hB e1 e2 e3 e4 e5 e6 e7 e8 hq hzl
              intro z1 t1 z2 t2 zb tb zl tl ob e1 e2 e3 e4 e5 e6 e7 e8 hq hB hz1 hz2 hzb hzl
              rw [hq] at N5 hoff2
              have F6 := fr_name (x := "self") (fr_name (x := "literal") (fr_name (x := "current_bit") F5 e4) (by with_unfolding_all exact e8)) (by with_unfolding_all exact e2)
              have f4 := neN (hoff2 _ (.tail _ (.tail _ (.tail _ (.head _)))))
              have hwb := word_bit (X := X) (i := j) hki
              have hzi : z1 + (0 + ((j : Nat) : Int)) = ((64 * (k + r + i) + j : Nat) : Int) := zi hz1
              have h1024 : 64 * (k + r + i) + j < 1024 := h1024b hki hwc hj
              obtain ⟨wv, hwv⟩ : ∃ wv, wv = (wordsX X).getD (k + r + i) 0 := ⟨_, rfl⟩
              rw [← hwv] at F6 hwb
              clear F5 hJ F8 N8 hR
              try dsimp only at f4
              try dsimp only
              (repeat' ((fail_if_success (with_reducible show wpAny _ _ (pyIter _) _ _ _)); (fail_if_success (with_reducible show LoopStepV _ _ _ _ _ _ _ _ _ _)); (fail_if_success (with_reducible show wpAny _ _ (binaryOp Operator.LShift _ _) _ _ _)); (fail_if_success (with_reducible show wpAny _ _ (exec (Stmt.While _ _ _ _) _) _ _ _)); first | (k_unfold; (try dsimp only)) | (with_reducible refine wpAny_execs_nil ?_; (try dsimp only)) | (k_end; wrow_close) | (walk1; (try dsimp only)) | (dsimp only; walk1) | (dsimp only [List.cons_append, List.nil_append]; walk1) | (leave1; walk_say "STEP leave1"; try dsimp only) | fail "no step"))
              refine lshift_int_small (zj0 j) (zj1 hj) (by decide) ?_
              try dsimp only
              (repeat' ((fail_if_success (with_reducible show wpAny _ _ (pyIter _) _ _ _)); (fail_if_success (with_reducible show LoopStepV _ _ _ _ _ _ _ _ _ _)); (fail_if_success (with_reducible show wpAny _ _ (binaryOp Operator.LShift _ _) _ _ _)); (fail_if_success (with_reducible show wpAny _ _ (exec (Stmt.While _ _ _ _) _) _ _ _)); first | (k_unfold; (try dsimp only)) | (with_reducible refine wpAny_execs_nil ?_; (try dsimp only)) | (k_end; wrow_close) | (walk1; (try dsimp only)) | (dsimp only; walk1) | (dsimp only [List.cons_append, List.nil_append]; walk1) | (leave1; walk_say "STEP leave1"; try dsimp only) | fail "no step"))
              · rename Builtin.bitAnd _ _ ≠ 0 => hb
                rw [Int.zero_add] at hb
                have hbt := lit_bit1 hwb hb
                rw [hzi]
                (repeat' ((fail_if_success (with_reducible show wpAny _ _ (pyIter _) _ _ _)); (fail_if_success (with_reducible show LoopStepV _ _ _ _ _ _ _ _ _ _)); (fail_if_success (with_reducible show wpAny _ _ (binaryOp Operator.LShift _ _) _ _ _)); (fail_if_success (with_reducible show wpAny _ _ (exec (Stmt.While _ _ _ _) _) _ _ _)); first | (k_unfold; (try dsimp only)) | (with_reducible refine wpAny_execs_nil ?_; (try dsimp only)) | (k_end; wrow_close) | (walk1; (try dsimp only)) | (dsimp only; walk1) | (dsimp only [List.cons_append, List.nil_append]; walk1) | (leave1; walk_say "STEP leave1"; try dsimp only) | fail "no step"))
                rename Fr _ _ _ _ => F9
                rename News _ _ _ _ => N9
                rename BSet _ _ _ => hB9
                exact lp_turn F9 N9 hoff2 ⟨_, _, _, _, _, _, _, _, _, by with_unfolding_all exact e1, by with_unfolding_all rfl, by with_unfolding_all exact e3, by with_unfolding_all rfl, by with_unfolding_all exact e5, by with_unfolding_all exact e6, by with_unfolding_all exact e7, by with_unfolding_all exact congrArg (fun y : Nat => some (Value.int ((y : Nat) : Int) _)) hwv, rfl, BSet.congr hB9 (lowS_bit hbt), hz1, hz2, hzb, hzl⟩
              · rename Builtin.bitAnd _ _ = 0 => hb
                rw [Int.zero_add] at hb
                have hbt := lit_bit0 hj hwb hb
                rename Fr _ _ _ _ => F9
                rename News _ _ _ _ => N9
                exact lp_turn F9 N9 hoff2 ⟨_, _, _, _, _, _, _, _, _, by with_unfolding_all exact e1, by with_unfolding_all rfl, by with_unfolding_all exact e3, by with_unfolding_all rfl, by with_unfolding_all exact e5, by with_unfolding_all exact e6, by with_unfolding_all exact e7, by with_unfolding_all exact congrArg (fun y : Nat => some (Value.int ((y : Nat) : Int) _)) hwv, rfl, BSet.congr hB (lowS_nobit hbt), hz1, hz2, hzb, hzl⟩
            · intro m6 news6 h6 tk6 hJ F5 N5
              refine DY.elim hJ ?_
              clear hz1 hz2 hz2' hlit hzb hB e1 e2 e3 e4 e5 e6 e7 e8 hq hzl
              intro z1 t1 z2 t2 zb tb zl tl ob e1 e2 e3 e4 e5 e6 e7 e8 hq hB hz1 hz2 hzb hzl
              rw [hq] at N5
              have F6 := fr_name (x := "current_bit") F5 e4
              clear F5 hJ F8 N8 hR
              try dsimp only
              (repeat' ((fail_if_success (with_reducible show wpAny _ _ (pyIter _) _ _ _)); (fail_if_success (with_reducible show LoopStepV _ _ _ _ _ _ _ _ _ _)); (fail_if_success (with_reducible show wpAny _ _ (binaryOp Operator.LShift _ _) _ _ _)); (fail_if_success (with_reducible show wpAny _ _ (exec (Stmt.While _ _ _ _) _) _ _ _)); first | (k_unfold; (try dsimp only)) | (with_reducible refine wpAny_execs_nil ?_; (try dsimp only)) | (k_end; wrow_close) | (walk1; (try dsimp only)) | (dsimp only; walk1) | (dsimp only [List.cons_append, List.nil_append]; walk1) | (leave1; walk_say "STEP leave1"; try dsimp only) | fail "no step"))
              rename Fr _ _ _ _ => F9
              rename News _ _ _ _ => N9
              exact lp_turn F9 (reordJ N9) hoff ⟨_, _, _, _, _, _, _, _, _, by with_unfolding_all exact e1, by with_unfolding_all exact e2, by with_unfolding_all exact e3, by with_unfolding_all rfl, by with_unfolding_all exact e5, by with_unfolding_all exact e6, by with_unfolding_all exact e7, by with_unfolding_all exact e3, rfl, BSet.congr hB (fun j => by rw [← Nat.add_assoc, Nat.mul_add _ _ 1]), z64 hz1, hz2, hzb, hzl⟩
          · intro m5 news5 h5 tk5 hJ F5 N5
            refine DY.elim hJ ?_
            clear hz1 hz2 hzb hB e1 e2 e3 e4 e5 e6 e7 e8 hq hzl
            intro z1 t1 z2 t2 zb tb zl tl ob e1 e2 e3 e4 e5 e6 e7 e8 hq hB hz1 hz2 hzb hzl
            rw [hq] at N5
            try dsimp only
            (repeat' ((fail_if_success (with_reducible show wpAny _ _ (pyIter _) _ _ _)); (fail_if_success (with_reducible show LoopStepV _ _ _ _ _ _ _ _ _ _)); (fail_if_success (with_reducible show wpAny _ _ (binaryOp Operator.LShift _ _) _ _ _)); (fail_if_success (with_reducible show wpAny _ _ (exec (Stmt.While _ _ _ _) _) _ _ _)); first | (k_unfold; (try dsimp only)) | (with_reducible refine wpAny_execs_nil ?_; (try dsimp only)) | (k_end; wrow_close) | (walk1; (try dsimp only)) | (dsimp only; walk1) | (dsimp only [List.cons_append, List.nil_append]; walk1) | (leave1; walk_say "STEP leave1"; try dsimp only) | fail "no step"))
            refine WhileStep.intro (n' := ne - (p + 1 + l)) F5 N5 (ms9 hn2 hpl) ⟨k + r + l, p + 1 + l, ⟨_, _, _, _, _, _, _, by with_unfolding_all exact e1, by with_unfolding_all exact e2, by with_unfolding_all exact e3, by with_unfolding_all exact e4, by with_unfolding_all exact e5, by with_unfolding_all exact e6, rfl, hB, hz1, hz2, hzb⟩, (by rw [Nat.add_assoc]; exact lits_after hch2 c1), hpl, rfl, hkr⟩
      · rename ¬ z2 < _ => hlt
        rename Fr _ _ _ _ => F9
        rename News _ _ _ _ => N9
        have hal : (asInts (encW (wordsX X))).length = ne := by rw [List.length_map, hne]
        rw [hal] at hlt
        have hpe : p = (encW (wordsX X)).length := (znN hz2 hlt rfl hpn).trans hne
        have hke : k = wcount X := by
          have h2 := encW_drop_nil (hdr.symm.trans (List.drop_of_length_le (Nat.le_of_eq hpe.symm)))
          exact Nat.le_antisymm hkw (hwl ▸ h2)
        subst hpe hke
        exact Out.intro F9 N9 ⟨_, _, _, _, _, _, _, by with_unfolding_all rfl, by with_unfolding_all rfl, by with_unfolding_all rfl, by with_unfolding_all rfl, by with_unfolding_all rfl, by with_unfolding_all rfl, rfl, hB, hz1, hz2, hzb⟩
    · intro m6 news6 h6 tk6 F6 N6 hX6
      refine DX.elim hX6 ?_
      intro z1 t1 z2 t2 zb tb ob e1 e2 e3 e4 e5 e6 hq hB hz1 hz2 hzb
      rw [hq] at N6
      have F8 := fr_name (x := "f") F6 e1
      clear hX6 F6 hq e1 e2 e3 e4 e5 e6
      try dsimp only
      (repeat' ((fail_if_success (with_reducible show wpAny _ _ (pyIter _) _ _ _)); (fail_if_success (with_reducible show LoopStepV _ _ _ _ _ _ _ _ _ _)); (fail_if_success (with_reducible show wpAny _ _ (binaryOp Operator.LShift _ _) _ _ _)); (fail_if_success (with_reducible show wpAny _ _ (exec (Stmt.While _ _ _ _) _) _ _ _)); first | (k_unfold; (try dsimp only)) | (with_reducible refine wpAny_execs_nil ?_; (try dsimp only)) | (k_end; wrow_close) | (walk1; (try dsimp only)) | (dsimp only; walk1) | (dsimp only [List.cons_append, List.nil_append]; walk1) | (leave1; walk_say "STEP leave1"; try dsimp only) | fail "no step"))
      with_unfolding_all refine bread_ok (P := 8 + 8 * ne) (n := 4) (by k_asm) (by k_asm) (by k_asm) (by k_asm) rfl (reordD N6) hoc (oke holn) hol (ne4 hAl hdl) (Nat.ne_of_gt hlx) (by (((try dsimp only [units_in1, units_deeper, Around.mark_units, units_caller, depth_under_make, depth_under_kw, units_under_make, depth_in1, depth_deeper, depth_caller]); (try dsimp only [ktrTop]); first | with_reducible exact Mine.rB1 (by assumption) rfl | with_reducible exact Mine.rC1 (by assumption) rfl | with_reducible exact Mine.rB2 (by assumption) rfl | with_reducible exact Mine.rC2 (by assumption) rfl | with_reducible exact Mine.rB0 (by assumption) | with_reducible exact Mine.rC0 (by assumption) | exact Mine.rm1 (by assumption) rfl | exact Mine.rm2 (by assumption) rfl | exact Mine.rm3 (by assumption) rfl | exact Mine.rm0 (by assumption) | (have hcL9 := cLine_is; omega (config := {}))))) (by (((try dsimp only [units_in1, units_deeper, Around.mark_units, units_caller, depth_under_make, depth_under_kw, units_under_make, depth_in1, depth_deeper, depth_caller]); (try dsimp only [ktrTop]); first | with_reducible exact Mine.rB1 (by assumption) rfl | with_reducible exact Mine.rC1 (by assumption) rfl | with_reducible exact Mine.rB2 (by assumption) rfl | with_reducible exact Mine.rC2 (by assumption) rfl | with_reducible exact Mine.rB0 (by assumption) | with_reducible exact Mine.rC0 (by assumption) | exact Mine.rm1 (by assumption) rfl | exact Mine.rm2 (by assumption) rfl | exact Mine.rm3 (by assumption) rfl | exact Mine.rm0 (by assumption) | (have hcL9 := cLine_is; omega (config := {}))))) ?_
      intro h7 tk7 p7 tp7 tz7 F7 N7 hp7
      try dsimp only
      (repeat' ((fail_if_success (with_reducible show wpAny _ _ (pyIter _) _ _ _)); (fail_if_success (with_reducible show LoopStepV _ _ _ _ _ _ _ _ _ _)); (fail_if_success (with_reducible show wpAny _ _ (binaryOp Operator.LShift _ _) _ _ _)); (fail_if_success (with_reducible show wpAny _ _ (exec (Stmt.While _ _ _ _) _) _ _ _)); first | (k_unfold; (try dsimp only)) | (with_reducible refine wpAny_execs_nil ?_; (try dsimp only)) | (k_end; wrow_close) | (walk1; (try dsimp only)) | (dsimp only; walk1) | (dsimp only [List.cons_append, List.nil_append]; walk1) | (leave1; walk_say "STEP leave1"; try dsimp only) | fail "no step"))
      rename Fr h₀ _ _ _ => F9
      rename News h₀ _ _ _ => N9
      exact ret _ _ _ _ F9 (fun p hp => N9 p (.tail _ (.tail _ (.tail _ hp)))) (BSet.congr hB (lowS_all X))
end D_F9
namespace D_F10
open D_F2
open D_F3
open D_F6
open D_F7
open D_F8
open D_F9
omit B F KI N T hk in
theorem news_rot {h₀ h : Heap} {L : Addr} {a b c : Addr × Obj} {news : List (Addr × Obj)} (N : News h₀ L h (a :: b :: c :: news)) : News h₀ L h (b :: c :: a :: news) :=
  fun p hp => N p (by simp only [List.mem_cons] at hp ⊢; rcases hp with h | h | h | h <;> simp [h])
set_option maxRecDepth 100000 in
set_option maxHeartbeats 8000000 in
theorem new1_ok {X : Nat} {oc : Array UInt8} {t9 : Tok} (hX : X < 2 ^ 384) (hoc : KBw.bInts oc = octI X) (hdp : dp + 4 < recursionLimit) (hu : un + 64 < cLine)
    (ret : ∀ (h' : Heap) (tk' : Nat) x dx b ob t t1 t2, Fr h₀ L h' m → News h₀ L h' ((x, instObj 145 dx) :: (dx, bmDict w b (bl X : Nat) t t1 t2) :: (b, ob) :: news) → BSet w ob (fun j => X.testBit j) → (∀ p ∈ news, p.1 < dx) → dx < x → x < b → Q (.ref x) { s with heap := h', toks := tk' }) :
    wpAny (model prog w) (ktrTop dp un gd cn cs L a ccd cl outer) (call (.ref 145) [.bytes oc t9]) Q E s := by
  have holn : (octI X).length = 12 + 8 * (encW (wordsX X)).length := octI_len X
  have hel := encX_len hX
  have hol : (octI X).length ≤ 200 := by omega
  ((k_here; k_dflt ((refine' call_cls ?k1 ?k2 ?k3 ?k4 ?k5 ?k6 ?_; (case k1 => k_asm); (case k2 => k_asm); (case k3 => k_asm); (case k4 => k_is); (case k5 => k_is); (case k6 => k_is); k_whole; intro x' d' h' F' N' l1 l2; (try k_lt l1); (try k_lt2 l2); (try k_sweep)); (k_dflt (first | (refine' code_def ?k1 ?k2 ?k3 ?k4 ?k5 ?kA ?kF ?kK ?k6 ?k7 ?k8 ?k9 ?kB ?_ ?c2 ?c3 ?c4 ?c5; (case kA => exact rfl); (case kF => exact rfl); (case kK => first | exact rfl | assumption); (case k1 => k_asm); (case k2 => k_asm); (case k3 => k_asm); (case k4 => k_asm); (case k5 => k_asm); (case k6 => k_is); (case k7 => k_is); (case k8 => first | k_room | ktr_room); (case k9 => first | exact BindsTo.of_eq rfl | exact binds_K (by k_in) rfl (by k_is) rfl rfl rfl | fail "k_enter: no rule for these arguments"); (case c5 => decide); (case kB => exact locs rfl); (case c2 => exact rfl); (case c3 => exact rfl); (case c4 => exact rfl); k_whole; intro g' L' h' FG' F' N' B' X' T'; (try dsimp only); (try k_lift B'); (try k_fold)) | (refine' code_defC ?k1 ?k2 ?k3 ?k4 ?k5 ?kA ?kF ?kK ?k6 ?k7 ?k8 ?k9 ?kB ?kD ?_ ?c2 ?c3 ?c4; (case kA => exact rfl); (case kF => exact rfl); (case kK => first | exact rfl | assumption); (case k1 => k_asm); (case k2 => k_asm); (case k3 => k_asm); (case k4 => k_asm); (case k5 => k_asm); (case k6 => k_is); (case k7 => k_is); (case k8 => first | k_room | ktr_room); (case k9 => first | exact BindsTo.of_eq rfl | exact binds_K (by k_in) rfl (by k_is) rfl rfl rfl | fail "k_enter: no rule for these arguments"); (case kB => exact rfl); (case kD => decide +kernel); (case c2 => exact rfl); (case c3 => exact rfl); (case c4 => exact rfl); k_whole; intro g' L' h' tk' cells' FG' F' N' Y' B' X' T' l1; (try k_lt l1); k_cells Y'; (try simp only [List.cons_append, List.nil_append] at N'); (try dsimp only); (try k_lift B'); (try k_fold)))))))
  (repeat' ((fail_if_success (with_reducible show wpAny _ _ (pyIter _) _ _ _)); (fail_if_success (with_reducible show LoopStepV _ _ _ _ _ _ _ _ _ _)); (fail_if_success (with_reducible show wpAny _ _ (exec (Stmt.While _ _ _ _) _) _ _ _)); first | (k_unfold; (try dsimp only)) | (with_reducible refine wpAny_execs_nil ?_; (try dsimp only)) | (k_end; wrow_close) | walk1 | (dsimp only; walk1) | (dsimp only [List.cons_append, List.nil_append]; walk1) | (leave1; walk_say "STEP leave1"; try dsimp only) | fail "no step"))
  rename ∀ p ∈ news, p.fst < _ => l1
  rename @LT.lt Nat _ _ _ => l2
  rename _ ∧ _ ∧ AllLt _ news => l3
  rename News _ _ _ _ => N9
  with_unfolding_all refine dec_ok (by k_asm) (by k_asm) (by k_asm) (by k_asm) rfl N9 (fun p hp => Nat.ne_of_lt (l1 p hp)) (fun p hp => Nat.ne_of_lt (allLt_to l3.2.2 p hp)) l2 l3.1 hX hoc (by (((try dsimp only [units_in1, units_deeper, Around.mark_units, units_caller, depth_under_make, depth_under_kw, units_under_make, depth_in1, depth_deeper, depth_caller]); (try dsimp only [ktrTop]); first | with_reducible exact Mine.rB1 (by assumption) rfl | with_reducible exact Mine.rC1 (by assumption) rfl | with_reducible exact Mine.rB2 (by assumption) rfl | with_reducible exact Mine.rC2 (by assumption) rfl | with_reducible exact Mine.rB0 (by assumption) | with_reducible exact Mine.rC0 (by assumption) | exact Mine.rm1 (by assumption) rfl | exact Mine.rm2 (by assumption) rfl | exact Mine.rm3 (by assumption) rfl | exact Mine.rm0 (by assumption) | (have hcL9 := cLine_is; omega (config := {}))))) (by (((try dsimp only [units_in1, units_deeper, Around.mark_units, units_caller, depth_under_make, depth_under_kw, units_under_make, depth_in1, depth_deeper, depth_caller]); (try dsimp only [ktrTop]); first | with_reducible exact Mine.rB1 (by assumption) rfl | with_reducible exact Mine.rC1 (by assumption) rfl | with_reducible exact Mine.rB2 (by assumption) rfl | with_reducible exact Mine.rC2 (by assumption) rfl | with_reducible exact Mine.rB0 (by assumption) | with_reducible exact Mine.rC0 (by assumption) | exact Mine.rm1 (by assumption) rfl | exact Mine.rm2 (by assumption) rfl | exact Mine.rm3 (by assumption) rfl | exact Mine.rm0 (by assumption) | (have hcL9 := cLine_is; omega (config := {}))))) ?_
  intro h1 tk1 ob t F1 N1 Bs
  try dsimp only
  (repeat' ((fail_if_success (with_reducible show wpAny _ _ (pyIter _) _ _ _)); (fail_if_success (with_reducible show LoopStepV _ _ _ _ _ _ _ _ _ _)); (fail_if_success (with_reducible show wpAny _ _ (binaryOp Operator.LShift _ _) _ _ _)); (fail_if_success (with_reducible show wpAny _ _ (exec (Stmt.While _ _ _ _) _) _ _ _)); first | (k_unfold; (try dsimp only)) | (with_reducible refine wpAny_execs_nil ?_; (try dsimp only)) | (k_end; wrow_close) | (walk1; (try dsimp only)) | (dsimp only; walk1) | (dsimp only [List.cons_append, List.nil_append]; walk1) | (leave1; walk_say "STEP leave1"; try dsimp only) | fail "no step"))
  rename Fr h₀ _ _ _ => F9
  rename News h₀ _ _ _ => N9
  exact ret _ _ _ _ _ _ _ _ _ F9 (news_rot N9) Bs l1 l2 l3.1
end D_F10
namespace D_F11
open D_F2
open D_F3
open D_F5
open D_F6
open D_F7
open D_F8
open D_F9
open D_F10
set_option maxRecDepth 100000 in
set_option maxHeartbeats 8000000 in
theorem cont_ok {x1 d1 b1 : Addr} {o1 : Obj} {n1 : Int} {s1 s2 s3 t9 : Tok} {S1 : Nat → Bool} {k : Nat} (M1 : Bm w x1 d1 b1 o1 S1 n1 s1 s2 s3 news) (hdp : dp + 2 < recursionLimit) (hu : un + 16 < cLine)
    (ret : ∀ (h' : Heap) (tk' : Nat), Fr h₀ L h' m → News h₀ L h' news → Q (.bool (S1 k)) { s with heap := h', toks := tk' }) :
    wpAny (model prog w) (ktrTop dp un gd cn cs L a ccd cl outer) (call (.ref 100) [.ref x1, .int ((k : Nat) : Int) t9]) Q E s := by
  obtain ⟨a1, a2, a3, B1⟩ := M1
  have N0 : News h₀ L s.heap ((x1, instObj 145 d1) :: (d1, bmDict w b1 n1 s1 s2 s3) :: (b1, o1) :: news) := fun p hp => by
    simp only [List.mem_cons] at hp
    rcases hp with rfl | rfl | rfl | hp <;> exact N _ (by assumption)
  clear N
  ((refine wpAny_call ?_; (k_dflt (first | (refine' code_def ?k1 ?k2 ?k3 ?k4 ?k5 ?kA ?kF ?kK ?k6 ?k7 ?k8 ?k9 ?kB ?_ ?c2 ?c3 ?c4 ?c5; (case kA => exact rfl); (case kF => exact rfl); (case kK => first | exact rfl | assumption); (case k1 => k_asm); (case k2 => k_asm); (case k3 => k_asm); (case k4 => k_asm); (case k5 => k_asm); (case k6 => k_is); (case k7 => k_is); (case k8 => first | k_room | ktr_room); (case k9 => first | exact BindsTo.of_eq rfl | exact binds_K (by k_in) rfl (by k_is) rfl rfl rfl | fail "k_enter: no rule for these arguments"); (case c5 => decide); (case kB => exact locs rfl); (case c2 => exact rfl); (case c3 => exact rfl); (case c4 => exact rfl); k_whole; intro g' L' h' FG' F' N' B' X' T'; (try dsimp only); (try k_lift B'); (try k_fold)) | (refine' code_defC ?k1 ?k2 ?k3 ?k4 ?k5 ?kA ?kF ?kK ?k6 ?k7 ?k8 ?k9 ?kB ?kD ?_ ?c2 ?c3 ?c4; (case kA => exact rfl); (case kF => exact rfl); (case kK => first | exact rfl | assumption); (case k1 => k_asm); (case k2 => k_asm); (case k3 => k_asm); (case k4 => k_asm); (case k5 => k_asm); (case k6 => k_is); (case k7 => k_is); (case k8 => first | k_room | ktr_room); (case k9 => first | exact BindsTo.of_eq rfl | exact binds_K (by k_in) rfl (by k_is) rfl rfl rfl | fail "k_enter: no rule for these arguments"); (case kB => exact rfl); (case kD => decide +kernel); (case c2 => exact rfl); (case c3 => exact rfl); (case c4 => exact rfl); k_whole; intro g' L' h' tk' cells' FG' F' N' Y' B' X' T' l1; (try k_lt l1); k_cells Y'; (try simp only [List.cons_append, List.nil_append] at N'); (try dsimp only); (try k_lift B'); (try k_fold))))))
  (repeat' ((fail_if_success (with_reducible show wpAny _ _ (pyIter _) _ _ _)); (fail_if_success (with_reducible show LoopStepV _ _ _ _ _ _ _ _ _ _)); (fail_if_success (with_reducible show wpAny _ _ (binaryOp Operator.LShift _ _) _ _ _)); (fail_if_success (with_reducible show wpAny _ _ (exec (Stmt.While _ _ _ _) _) _ _ _)); first | (k_unfold; (try dsimp only)) | (with_reducible refine wpAny_execs_nil ?_; (try dsimp only)) | (k_end; wrow_close) | (walk1; (try dsimp only)) | (dsimp only; walk1) | (dsimp only [List.cons_append, List.nil_append]; walk1) | (leave1; walk_say "STEP leave1"; try dsimp only) | fail "no step"))
  rw [decide_eq_true (Int.natCast_nonneg k), Bool.true_and, Int.toNat_natCast]
  rename Fr h₀ _ _ _ => F9
  rename News h₀ _ _ _ => N9
  exact ret _ _ F9 (fun p hp => N9 p (.tail _ (.tail _ (.tail _ hp))))
set_option maxRecDepth 100000 in
set_option maxHeartbeats 8000000 in
theorem back_ok {x1 d1 b1 : Addr} {o1 : Obj} {n1 : Int} {s1 s2 s3 t9 : Tok} {X : Nat} {S1 : Nat → Bool} (M1 : Bm w x1 d1 b1 o1 S1 n1 s1 s2 s3 news) (hX : X < 2 ^ 384) (hS : ∀ k, S1 k = X.testBit k) (hdp : dp + 6 < recursionLimit) (hu : un + 100 < cLine)
    (ret : ∀ (h' : Heap) (tk' : Nat), Fr h₀ L h' m → News h₀ L h' news → Q (.bool true) { s with heap := h', toks := tk' }) :
    wpAny (model prog w) (ktrTop dp un gd cn cs L a ccd cl outer) (call (.ref 187) [.ref x1, .int ((X : Nat) : Int) t9]) Q E s := by
  obtain ⟨a1, a2, a3, B1⟩ := M1
  have N0 : News h₀ L s.heap ((x1, instObj 145 d1) :: (d1, bmDict w b1 n1 s1 s2 s3) :: (b1, o1) :: news) := fun p hp => by
    simp only [List.mem_cons] at hp
    rcases hp with rfl | rfl | rfl | hp <;> exact N _ (by assumption)
  clear N
  ((refine wpAny_call ?_; (k_dflt (first | (refine' code_def ?k1 ?k2 ?k3 ?k4 ?k5 ?kA ?kF ?kK ?k6 ?k7 ?k8 ?k9 ?kB ?_ ?c2 ?c3 ?c4 ?c5; (case kA => exact rfl); (case kF => exact rfl); (case kK => first | exact rfl | assumption); (case k1 => k_asm); (case k2 => k_asm); (case k3 => k_asm); (case k4 => k_asm); (case k5 => k_asm); (case k6 => k_is); (case k7 => k_is); (case k8 => first | k_room | ktr_room); (case k9 => first | exact BindsTo.of_eq rfl | exact binds_K (by k_in) rfl (by k_is) rfl rfl rfl | fail "k_enter: no rule for these arguments"); (case c5 => decide); (case kB => exact locs rfl); (case c2 => exact rfl); (case c3 => exact rfl); (case c4 => exact rfl); k_whole; intro g' L' h' FG' F' N' B' X' T'; (try dsimp only); (try k_lift B'); (try k_fold)) | (refine' code_defC ?k1 ?k2 ?k3 ?k4 ?k5 ?kA ?kF ?kK ?k6 ?k7 ?k8 ?k9 ?kB ?kD ?_ ?c2 ?c3 ?c4; (case kA => exact rfl); (case kF => exact rfl); (case kK => first | exact rfl | assumption); (case k1 => k_asm); (case k2 => k_asm); (case k3 => k_asm); (case k4 => k_asm); (case k5 => k_asm); (case k6 => k_is); (case k7 => k_is); (case k8 => first | k_room | ktr_room); (case k9 => first | exact BindsTo.of_eq rfl | exact binds_K (by k_in) rfl (by k_is) rfl rfl rfl | fail "k_enter: no rule for these arguments"); (case kB => exact rfl); (case kD => decide +kernel); (case c2 => exact rfl); (case c3 => exact rfl); (case c4 => exact rfl); k_whole; intro g' L' h' tk' cells' FG' F' N' Y' B' X' T' l1; (try k_lt l1); k_cells Y'; (try simp only [List.cons_append, List.nil_append] at N'); (try dsimp only); (try k_lift B'); (try k_fold))))))
  (repeat' ((fail_if_success (with_reducible show wpAny _ _ (pyIter _) _ _ _)); (fail_if_success (with_reducible show LoopStepV _ _ _ _ _ _ _ _ _ _)); (fail_if_success (with_reducible show wpAny _ _ (binaryOp Operator.LShift _ _) _ _ _)); (fail_if_success (with_reducible show wpAny _ _ (exec (Stmt.While _ _ _ _) _) _ _ _)); first | (k_unfold; (try dsimp only)) | (with_reducible refine wpAny_execs_nil ?_; (try dsimp only)) | (k_end; wrow_close) | (walk1; (try dsimp only)) | (dsimp only; walk1) | (dsimp only [List.cons_append, List.nil_append]; walk1) | (leave1; walk_say "STEP leave1"; try dsimp only) | fail "no step"))
  with_unfolding_all refine encode_ok (by k_asm) (by k_asm) (by k_asm) (by k_asm) (by k_asm) rfl ⟨.head _, .tail _ (.head _), .tail _ (.tail _ (.head _)), B1⟩ hX hS (by (((try dsimp only [units_in1, units_deeper, Around.mark_units, units_caller, depth_under_make, depth_under_kw, units_under_make, depth_in1, depth_deeper, depth_caller]); (try dsimp only [ktrTop]); first | with_reducible exact Mine.rB1 (by assumption) rfl | with_reducible exact Mine.rC1 (by assumption) rfl | with_reducible exact Mine.rB2 (by assumption) rfl | with_reducible exact Mine.rC2 (by assumption) rfl | with_reducible exact Mine.rB0 (by assumption) | with_reducible exact Mine.rC0 (by assumption) | exact Mine.rm1 (by assumption) rfl | exact Mine.rm2 (by assumption) rfl | exact Mine.rm3 (by assumption) rfl | exact Mine.rm0 (by assumption) | (have hcL9 := cLine_is; omega (config := {}))))) (by (((try dsimp only [units_in1, units_deeper, Around.mark_units, units_caller, depth_under_make, depth_under_kw, units_under_make, depth_in1, depth_deeper, depth_caller]); (try dsimp only [ktrTop]); first | with_reducible exact Mine.rB1 (by assumption) rfl | with_reducible exact Mine.rC1 (by assumption) rfl | with_reducible exact Mine.rB2 (by assumption) rfl | with_reducible exact Mine.rC2 (by assumption) rfl | with_reducible exact Mine.rB0 (by assumption) | with_reducible exact Mine.rC0 (by assumption) | exact Mine.rm1 (by assumption) rfl | exact Mine.rm2 (by assumption) rfl | exact Mine.rm3 (by assumption) rfl | exact Mine.rm0 (by assumption) | (have hcL9 := cLine_is; omega (config := {}))))) ?_
  intro h2 tk2 oc t2 F2 N2 hoc
  try dsimp only
  (repeat' ((fail_if_success (with_reducible show wpAny _ _ (pyIter _) _ _ _)); (fail_if_success (with_reducible show LoopStepV _ _ _ _ _ _ _ _ _ _)); (fail_if_success (with_reducible show wpAny _ _ (binaryOp Operator.LShift _ _) _ _ _)); (fail_if_success (with_reducible show wpAny _ _ (exec (Stmt.While _ _ _ _) _) _ _ _)); first | (k_unfold; (try dsimp only)) | (with_reducible refine wpAny_execs_nil ?_; (try dsimp only)) | (k_end; wrow_close) | (walk1; (try dsimp only)) | (dsimp only; walk1) | (dsimp only [List.cons_append, List.nil_append]; walk1) | (leave1; walk_say "STEP leave1"; try dsimp only) | fail "no step"))
  with_unfolding_all refine read_ok (by k_asm) (by k_asm) (by k_asm) (by k_asm) (by k_asm) rfl hX hoc (by (((try dsimp only [units_in1, units_deeper, Around.mark_units, units_caller, depth_under_make, depth_under_kw, units_under_make, depth_in1, depth_deeper, depth_caller]); (try dsimp only [ktrTop]); first | with_reducible exact Mine.rB1 (by assumption) rfl | with_reducible exact Mine.rC1 (by assumption) rfl | with_reducible exact Mine.rB2 (by assumption) rfl | with_reducible exact Mine.rC2 (by assumption) rfl | with_reducible exact Mine.rB0 (by assumption) | with_reducible exact Mine.rC0 (by assumption) | exact Mine.rm1 (by assumption) rfl | exact Mine.rm2 (by assumption) rfl | exact Mine.rm3 (by assumption) rfl | exact Mine.rm0 (by assumption) | (have hcL9 := cLine_is; omega (config := {}))))) (by (((try dsimp only [units_in1, units_deeper, Around.mark_units, units_caller, depth_under_make, depth_under_kw, units_under_make, depth_in1, depth_deeper, depth_caller]); (try dsimp only [ktrTop]); first | with_reducible exact Mine.rB1 (by assumption) rfl | with_reducible exact Mine.rC1 (by assumption) rfl | with_reducible exact Mine.rB2 (by assumption) rfl | with_reducible exact Mine.rC2 (by assumption) rfl | with_reducible exact Mine.rB0 (by assumption) | with_reducible exact Mine.rC0 (by assumption) | exact Mine.rm1 (by assumption) rfl | exact Mine.rm2 (by assumption) rfl | exact Mine.rm3 (by assumption) rfl | exact Mine.rm0 (by assumption) | (have hcL9 := cLine_is; omega (config := {}))))) ?_
  intro h3 tk3 lt tu tu2 F3 N3
  try dsimp only
  (repeat' ((fail_if_success (with_reducible show wpAny _ _ (pyIter _) _ _ _)); (fail_if_success (with_reducible show LoopStepV _ _ _ _ _ _ _ _ _ _)); (fail_if_success (with_reducible show wpAny _ _ (binaryOp Operator.LShift _ _) _ _ _)); (fail_if_success (with_reducible show wpAny _ _ (exec (Stmt.While _ _ _ _) _) _ _ _)); first | (k_unfold; (try dsimp only)) | (with_reducible refine wpAny_execs_nil ?_; (try dsimp only)) | (k_end; wrow_close) | (walk1; (try dsimp only)) | (dsimp only; walk1) | (dsimp only [List.cons_append, List.nil_append]; walk1) | (leave1; walk_say "STEP leave1"; try dsimp only) | fail "no step"))
  with_unfolding_all refine new1_ok (by k_asm) (by k_asm) (by k_asm) (by k_asm) (by k_asm) rfl hX hoc (by (((try dsimp only [units_in1, units_deeper, Around.mark_units, units_caller, depth_under_make, depth_under_kw, units_under_make, depth_in1, depth_deeper, depth_caller]); (try dsimp only [ktrTop]); first | with_reducible exact Mine.rB1 (by assumption) rfl | with_reducible exact Mine.rC1 (by assumption) rfl | with_reducible exact Mine.rB2 (by assumption) rfl | with_reducible exact Mine.rC2 (by assumption) rfl | with_reducible exact Mine.rB0 (by assumption) | with_reducible exact Mine.rC0 (by assumption) | exact Mine.rm1 (by assumption) rfl | exact Mine.rm2 (by assumption) rfl | exact Mine.rm3 (by assumption) rfl | exact Mine.rm0 (by assumption) | (have hcL9 := cLine_is; omega (config := {}))))) (by (((try dsimp only [units_in1, units_deeper, Around.mark_units, units_caller, depth_under_make, depth_under_kw, units_under_make, depth_in1, depth_deeper, depth_caller]); (try dsimp only [ktrTop]); first | with_reducible exact Mine.rB1 (by assumption) rfl | with_reducible exact Mine.rC1 (by assumption) rfl | with_reducible exact Mine.rB2 (by assumption) rfl | with_reducible exact Mine.rC2 (by assumption) rfl | with_reducible exact Mine.rB0 (by assumption) | with_reducible exact Mine.rC0 (by assumption) | exact Mine.rm1 (by assumption) rfl | exact Mine.rm2 (by assumption) rfl | exact Mine.rm3 (by assumption) rfl | exact Mine.rm0 (by assumption) | (have hcL9 := cLine_is; omega (config := {}))))) ?_
  intro h4 tk4 x2 d2 b2 o2 u1 u2 u3 F4 N4 B4 l1 l2 l3
  try dsimp only
  (repeat' ((fail_if_success (with_reducible show wpAny _ _ (pyIter _) _ _ _)); (fail_if_success (with_reducible show LoopStepV _ _ _ _ _ _ _ _ _ _)); (fail_if_success (with_reducible show wpAny _ _ (binaryOp Operator.LShift _ _) _ _ _)); (fail_if_success (with_reducible show wpAny _ _ (exec (Stmt.While _ _ _ _) _) _ _ _)); first | (k_unfold; (try dsimp only)) | (with_reducible refine wpAny_execs_nil ?_; (try dsimp only)) | (k_end; wrow_close) | (walk1; (try dsimp only)) | (dsimp only; walk1) | (dsimp only [List.cons_append, List.nil_append]; walk1) | (leave1; walk_say "STEP leave1"; try dsimp only) | fail "no step"))
  with_unfolding_all refine is_ok (by k_asm) (by k_asm) (by k_asm) (by k_asm) (by k_asm) rfl ⟨.head _, .tail _ (.head _), .tail _ (.tail _ (.head _)), B4⟩ hX (fun k => rfl) (by (((try dsimp only [units_in1, units_deeper, Around.mark_units, units_caller, depth_under_make, depth_under_kw, units_under_make, depth_in1, depth_deeper, depth_caller]); (try dsimp only [ktrTop]); first | with_reducible exact Mine.rB1 (by assumption) rfl | with_reducible exact Mine.rC1 (by assumption) rfl | with_reducible exact Mine.rB2 (by assumption) rfl | with_reducible exact Mine.rC2 (by assumption) rfl | with_reducible exact Mine.rB0 (by assumption) | with_reducible exact Mine.rC0 (by assumption) | exact Mine.rm1 (by assumption) rfl | exact Mine.rm2 (by assumption) rfl | exact Mine.rm3 (by assumption) rfl | exact Mine.rm0 (by assumption) | (have hcL9 := cLine_is; omega (config := {}))))) (by (((try dsimp only [units_in1, units_deeper, Around.mark_units, units_caller, depth_under_make, depth_under_kw, units_under_make, depth_in1, depth_deeper, depth_caller]); (try dsimp only [ktrTop]); first | with_reducible exact Mine.rB1 (by assumption) rfl | with_reducible exact Mine.rC1 (by assumption) rfl | with_reducible exact Mine.rB2 (by assumption) rfl | with_reducible exact Mine.rC2 (by assumption) rfl | with_reducible exact Mine.rB0 (by assumption) | with_reducible exact Mine.rC0 (by assumption) | exact Mine.rm1 (by assumption) rfl | exact Mine.rm2 (by assumption) rfl | exact Mine.rm3 (by assumption) rfl | exact Mine.rm0 (by assumption) | (have hcL9 := cLine_is; omega (config := {}))))) ?_
  intro h5 tk5 F5 N5
  try dsimp only
  (repeat' ((fail_if_success (with_reducible show wpAny _ _ (pyIter _) _ _ _)); (fail_if_success (with_reducible show LoopStepV _ _ _ _ _ _ _ _ _ _)); (fail_if_success (with_reducible show wpAny _ _ (binaryOp Operator.LShift _ _) _ _ _)); (fail_if_success (with_reducible show wpAny _ _ (exec (Stmt.While _ _ _ _) _) _ _ _)); first | (k_unfold; (try dsimp only)) | (with_reducible refine wpAny_execs_nil ?_; (try dsimp only)) | (k_end; wrow_close) | (walk1; (try dsimp only)) | (dsimp only; walk1) | (dsimp only [List.cons_append, List.nil_append]; walk1) | (leave1; walk_say "STEP leave1"; try dsimp only) | fail "no step"))
  rename Fr h₀ _ _ _ => F9
  rename News h₀ _ _ _ => N9
  exact ret _ _ F9 (fun p hp => N9 p (.tail _ (.tail _ (.tail _ (.tail _ (.tail _ (.tail _ (.tail _ (.tail _ hp)))))))))
end D_F11
end
section
open D_F2
theorem bit_val {H b : Nat} (h : H % 2 = b) : Builtin.bitAnd ((H : Nat) : Int) 1 = ((b : Nat) : Int) := by
  rw [show (1 : Int) = ((2 ^ 1 - 1 : Nat) : Int) from rfl, bitAnd_nat, Nat.and_two_pow_sub_one_eq_mod, ← h]
theorem numTo_lt {W : List Nat} (h : ∀ x ∈ W, x < 2 ^ 64) : ∀ k, numTo W k < 2 ^ (64 * k)
  | 0 => by show 0 < 2 ^ 0; decide
  | k + 1 => by
    rw [numTo_succ]
    refine Nat.or_lt_two_pow (Nat.lt_of_lt_of_le (numTo_lt h k) (Nat.pow_le_pow_right (by decide) (by omega))) ?_
    rw [Nat.shiftLeft_eq, show 64 * (k + 1) = 64 + 64 * k by omega, Nat.pow_add]
    exact Nat.mul_lt_mul_of_pos_right (getD_lt h (by decide) k) (Nat.two_pow_pos _)
theorem numOf_lt {ns : List Int} (h : ns.length ≤ 3) : numOf (wordsOf ns) < 2 ^ 384 := by
  have h1 := wordsOf_len ns
  exact Nat.lt_of_lt_of_le (numTo_lt (wordsOf_lt ns) _) (Nat.pow_le_pow_right (by decide) (by omega))
/-- the bits of y that x has not -/
def less (y x : Nat) : Nat := y ^^^ (y &&& x)
theorem less_bit (y x k : Nat) : (less y x).testBit k = (y.testBit k && !x.testBit k) := by
  unfold less
  rw [Nat.testBit_xor, Nat.testBit_and]
  cases y.testBit k <;> cases x.testBit k <;> rfl
theorem less_lt {y x n : Nat} (h : y < 2 ^ n) : less y x < 2 ^ n := Nat.xor_lt_two_pow h (Nat.lt_of_le_of_lt Nat.and_le_left h)
theorem less_split : ∀ (n x y : Nat), y ≤ n → y = (y ^^^ (y &&& x)) + (y &&& x)
  | 0, x, y, h => by
    have : y = 0 := by omega
    subst this; simp
  | n + 1, x, y, h => by
    by_cases hy : y = 0
    · subst hy; simp
    · have ih := less_split n (x / 2) (y / 2) (by omega)
      have h2 := Nat.div_add_mod (y ^^^ (y &&& x)) 2
      have h3 := Nat.div_add_mod (y &&& x) 2
      have h4 := Nat.div_add_mod y 2
      rw [Nat.xor_div_two, Nat.and_div_two] at h2
      rw [Nat.and_div_two] at h3
      have m : y % 2 = (y ^^^ (y &&& x)) % 2 + (y &&& x) % 2 := by
        rw [mod_bit, mod_bit (y ^^^ (y &&& x)), mod_bit (y &&& x), Nat.testBit_xor, Nat.testBit_and]
        cases x.testBit 0 <;> cases y.testBit 0 <;> rfl
      omega
theorem less_int (y x : Nat) : Builtin.bitAnd ((y : Nat) : Int) (Builtin.bitNot ((x : Nat) : Int)) = ((less y x : Nat) : Int) := by
  have h := less_split y x y (Nat.le_refl _)
  have e : Builtin.bitNot (Builtin.bitNot ((x : Nat) : Int)) = ((x : Nat) : Int) := by unfold Builtin.bitNot; omega
  have n : ¬ (0 ≤ Builtin.bitNot ((x : Nat) : Int)) := by unfold Builtin.bitNot; omega
  unfold Builtin.bitAnd
  rw [decide_eq_true (Int.natCast_nonneg y), decide_eq_false n]
  simp only [e, Int.toNat_natCast]
  unfold less
  omega
theorem shr_test {x k : Nat} : Builtin.bitAnd (((x : Nat) : Int).fdiv (2 ^ k)) 1 = (((x.testBit k).toNat : Nat) : Int) := by
  rw [show ((2 : Int) ^ k) = ((2 ^ k : Nat) : Int) from by push_cast; rfl, Int.fdiv_eq_ediv_of_nonneg _ (Int.natCast_nonneg _), ← Int.natCast_ediv, bit_val rfl, mod_bit, ← Nat.shiftRight_eq_div_pow, Nat.testBit_shiftRight, Nat.add_zero]
theorem pick_e (ns : List Int) : (pickNums ns none (some 6) (some 2)).length ≤ 3 := by
  unfold pickNums
  refine Nat.le_trans (List.length_filterMap_le _ _) ?_
  unfold sliceRange sliceBounds
  rw [List.length_map, List.length_range]
  simp only [Option.getD, show ((2 : Int) > 0) = True from by simp, show ((6 : Int) < 0) = False from by simp, if_true, if_false]
  split <;> omega
theorem pick_o (ns : List Int) : (pickNums ns (some 1) (some 6) (some 2)).length ≤ 3 := by
  unfold pickNums
  refine Nat.le_trans (List.length_filterMap_le _ _) ?_
  unfold sliceRange sliceBounds
  rw [List.length_map, List.length_range]
  simp only [Option.getD, show ((2 : Int) > 0) = True from by simp, show ((6 : Int) < 0) = False from by simp, show ((1 : Int) < 0) = False from by simp, if_true, if_false]
  split <;> omega

end
namespace D_Law
open D_F2
open D_F3
open D_F4
open D_F5
open D_F6
open D_F7
open D_F8
open D_F9
open D_F10
open D_F11
local macro_rules | `(tactic| walk_at "binaryOp BitXor") => `(tactic| (k_here; (with_reducible show wpAny _ _ (binaryOp Operator.BitXor (Value.ref _) (Value.ref _)) _ _ _); k_dflt (refine' binop_K ?bF ?bX ?bI ?bT ?bC ?bS ?bG ?_; (case bF => k_asm); (case bX => k_asm); (case bI => k_inst); (case bT => k_typeOf); (case bC => k_is); (case bS => k_is); (case bG => k_is); k_whole)))
theorem news_drop3 {h₀ h : Heap} {L : Addr} {a b c : Addr × Obj} {news : List (Addr × Obj)} (N : News h₀ L h (a :: b :: c :: news)) : News h₀ L h news := fun p hp => N p (.tail _ (.tail _ (.tail _ hp)))
theorem cmpBack_ref {Q : Value → Shared → Prop} {x : Addr} {s : Shared} (h : Q (.ref x) s) : W.CmpBack Q (.ref x) s := h
def LJ (one two : Addr) (x y : Int) (tx ty : Tok) (nA : List (Addr × Obj)) (i : Nat) (m : Str → Option Value) (news : List (Addr × Obj)) : Prop :=
  m "one" = some (.ref one) ∧ m "two" = some (.ref two) ∧ m "x" = some (.int x tx) ∧ m "y" = some (.int y ty) ∧ news = nA
theorem bits_item {S : Int} {ta tb tc td te : Tok} {i : Nat} {v : Value} (h : [Value.int 0 ta, Value.int 63 tb, Value.int 64 tc, Value.int 130 td, Value.int (S.fmod 300) te][i]? = some v) : ∃ (k : Nat) (t : Tok), v = .int ((k : Nat) : Int) t ∧ k < 300 := by
  have hm := List.mem_of_getElem? h
  simp only [List.mem_cons, List.not_mem_nil, or_false] at hm
  rcases hm with rfl | rfl | rfl | rfl | rfl
  · exact ⟨0, _, rfl, by decide⟩
  · exact ⟨63, _, rfl, by decide⟩
  · exact ⟨64, _, rfl, by decide⟩
  · exact ⟨130, _, rfl, by decide⟩
  · rw [Int.fmod_eq_emod_of_nonneg _ (by decide)]
    refine ⟨(S % 300).toNat, te, ?_, by omega⟩
    rw [Int.toNat_of_nonneg (by omega)]
theorem bit_same (X k : Nat) : (X.testBit k != (Builtin.bitAnd (((X : Nat) : Int).fdiv (2 ^ (((k : Nat) : Int)).toNat)) 1 == 1)) = false := by
  rw [Int.toNat_natCast, shr_test]
  cases X.testBit k <;> rfl
theorem conv_K {K : Params → Frag} {w : World} {h : Heap} (e : K = hd.heap_1) (X : (K w.params).In h) : (hd.heap_1 w.params).In h := e ▸ X
theorem conv_T {q : Program} {l : List Str} {mean : ExcName → Option Value} {mg mb : Str → Option Value} {h : Heap} (e : q = hd.view_1) (T : Top q (looseW q l) mean mg mb h) : Top hd.view_1 (looseW hd.view_1 l) mean mg mb h := e ▸ T
theorem law_holds.tw10426152571416030785 : True := trivial
theorem law_holds.tw1052438699513300207 : True := trivial
theorem law_holds.tw2854520126345806438 : True := trivial
theorem law_holds.tw1156940897716426448 : True := trivial
theorem law_holds.tw7188578181523857649 : True := trivial
theorem law_holds.tw14882184283076267924 : True := trivial
theorem law_holds.tw1687251955637238514 : True := trivial
theorem law_holds.tw1671894134189337604 : True := trivial
theorem law_holds.tw11690292528688897941 : True := trivial
theorem law_holds.tw12367635715955190543 : True := trivial
theorem law_holds.tw15618980816646968522 : True := trivial
theorem law_holds.tw16436953041551278908 : True := trivial
theorem law_holds.tw10509616300711704270 : True := trivial
theorem law_holds.tw14373909837371778509 : True := trivial
theorem law_holds.tw14346890676936102700 : True := trivial
theorem law_holds.tw8552182944651586164 : True := trivial
theorem law_holds.tw7532019244368489988 : True := trivial
theorem law_holds.tw11870420349143430498 : True := trivial
theorem law_holds.tw10550375836334711121 : True := trivial
theorem law_holds.tw1798220044867766674 : True := trivial
theorem law_holds.tw6443567328074127067 : True := trivial
theorem law_holds.tw6556337780281603506 : True := trivial
theorem law_holds.tw10544274616180323913 : True := trivial
theorem law_holds.tw414077637893704837 : True := trivial
theorem law_holds.tw1169669806670339604 : True := trivial
theorem law_holds.tw5854137178972313671 : True := trivial
theorem law_holds.tw8670609955396532265 : True := trivial
theorem law_holds.tw12972780191419772548 : True := trivial
theorem law_holds.tw482112105570391069 : True := trivial
theorem law_holds.tw15379737802570815520 : True := trivial
theorem law_holds.tw12518938842379838253 : True := trivial
theorem law_holds.tw3575356265754673199 : True := trivial
theorem law_holds.tw6557094984646744421 : True := trivial
theorem law_holds.tw8721476721527950502 : True := trivial
theorem law_holds.tw124680545404448162 : True := trivial
theorem law_holds.tw3029164381757145016 : True := trivial
theorem law_holds.tw6903720230220537284 : True := trivial
theorem law_holds.tw11669724959046104972 : True := trivial
theorem law_holds.tw21348561282486645 : True := trivial
theorem law_holds.tw7421618360776840067 : True := trivial
theorem law_holds.tw13663363238166027662 : True := trivial
theorem law_holds.tw4169354814715154617 : True := trivial
theorem law_holds.tw16285669314287022744 : True := trivial
theorem law_holds.tw9384805410248001342 : True := trivial
theorem law_holds.tw5344889369520528508 : True := trivial
theorem law_holds.tw4394060243741035955 : True := trivial
theorem law_holds.tw5432265919550851076 : True := trivial
theorem law_holds.tw10880669133605753627 : True := trivial
theorem law_holds.tw14323606019231027435 : True := trivial
theorem law_holds.tw16962915414949450547 : True := trivial
theorem law_holds.tw2405461054929031238 : True := trivial
theorem law_holds.tw9310262528417100434 : True := trivial
theorem law_holds.tw12641482005922167789 : True := trivial
theorem law_holds.tw2911590342922120940 : True := trivial
theorem law_holds.tw649759394546644920 : True := trivial
theorem law_holds.tw5282848239489437565 : True := trivial
theorem law_holds.tw4340377067961347490 : True := trivial
theorem law_holds.tw11298613955142947787 : True := trivial
theorem law_holds.tw8309695462631662041 : True := trivial
theorem law_holds.tw16605032516231766706 : True := trivial
theorem law_holds.tw13526818752112777598 : True := trivial
theorem law_holds.tw17829509599881748111 : True := trivial
theorem law_holds.tw11233395843181098339 : True := trivial
theorem law_holds.tw13258106351859762119 : True := trivial
theorem law_holds.tw16342490083376183642 : True := trivial
theorem law_holds.tw7131673117375912401 : True := trivial
theorem law_holds.tw15354391829063537003 : True := trivial
theorem law_holds.tw15127451847775846794 : True := trivial
theorem law_holds.tw3955291471553666374 : True := trivial
theorem law_holds.tw2811858487900868917 : True := trivial
theorem law_holds.tw10784188040362909525 : True := trivial
theorem law_holds.tw7985642366084972666 : True := trivial
theorem law_holds.tw7528611564182967347 : True := trivial
theorem law_holds.tw2202583667005043575 : True := trivial
theorem law_holds.tw2189107894575796256 : True := trivial
theorem law_holds.tw1103459309061987019 : True := trivial
theorem law_holds.tw1408235861526781893 : True := trivial
theorem law_holds.tw12492220902259104473 : True := trivial
theorem law_holds.tw17474622315947861916 : True := trivial
theorem law_holds.tw11837073941928553971 : True := trivial
theorem law_holds.tw12781752310269612842 : True := trivial
theorem law_holds.tw12765865590686820395 : True := trivial
theorem law_holds.tw15341402023746865837 : True := trivial
theorem law_holds.tw14370593458745421878 : True := trivial
theorem law_holds.tw13853262363154549661 : True := trivial
theorem law_holds.tw18101850146121082795 : True := trivial
theorem law_holds.tw3260556244328742137 : True := trivial
theorem law_holds.tw14959698787670904263 : True := trivial
theorem law_holds.tw2093994614826283983 : True := trivial
theorem law_holds.tw4930412850513826660 : True := trivial
theorem law_holds.tw2396871629868582126 : True := trivial
theorem law_holds.tw17383367716509094600 : True := trivial
theorem law_holds.tw2332604466965375892 : True := trivial
theorem law_holds.tw3633154678234331778 : True := trivial
theorem law_holds.tw13647937500183155508 : True := trivial
theorem law_holds.tw1517351988610802706 : True := trivial
theorem law_holds.tw15522414248486036428 : True := trivial
theorem law_holds.tw1689838882374043501 : True := trivial
theorem law_holds.tw15601898852019911196 : True := trivial
theorem law_holds.tw1946665917937558686 : True := trivial
theorem law_holds.tw14059586403485811025 : True := trivial
theorem law_holds.tw11252300733088880311 : True := trivial
theorem law_holds.tw10281646464007729861 : True := trivial
theorem law_holds.tw18392333083966430399 : True := trivial
theorem law_holds.tw5927593522332347850 : True := trivial
theorem law_holds.tw4218801549196167342 : True := trivial
theorem law_holds.tw1517566481915921479 : True := trivial
theorem law_holds.tw4435316103133598614 : True := trivial
theorem law_holds.tw3980990311021947595 : True := trivial
theorem law_holds.tw15157074521916768128 : True := trivial
theorem law_holds.tw18237687404658705098 : True := trivial
theorem law_holds.tw6001348775031732350 : True := trivial
theorem law_holds.tw2204449669718487947 : True := trivial
theorem law_holds.tw14939289170738299537 : True := trivial
theorem law_holds.tw5525647430339545283 : True := trivial
theorem law_holds.tw3863774467417705620 : True := trivial
theorem law_holds.tw13310964740677959913 : True := trivial
theorem law_holds.tw13801218419109822740 : True := trivial
theorem law_holds.tw16480951452214520067 : True := trivial
theorem law_holds.tw18281190172718700318 : True := trivial
theorem law_holds.tw678608594732428981 : True := trivial
theorem law_holds.tw8915762061431318488 : True := trivial
theorem law_holds.tw11481313717009146299 : True := trivial
theorem law_holds.tw5127959065479261095 : True := trivial
theorem law_holds.tw16087949878691062886 : True := trivial
theorem law_holds.tw18342099628096781993 : True := trivial
theorem law_holds.tw9500890181304934108 : True := trivial
theorem law_holds.tw11424732086360972700 : True := trivial
theorem law_holds.tw169715596140365639 : True := trivial
theorem law_holds.tw14779428031754010559 : True := trivial
theorem law_holds.tw10989905889985262887 : True := trivial
theorem law_holds.tw11819829536114932245 : True := trivial
theorem law_holds.tw1905904603130237543 : True := trivial
theorem law_holds.tw5783355722859329510 : True := trivial
theorem law_holds.tw29139905104349357 : True := trivial
theorem law_holds.tw8046397126000106880 : True := trivial
theorem law_holds.tw17295539151105204275 : True := trivial
theorem law_holds.tw2873669893143283529 : True := trivial
theorem law_holds.tw10923986538875878268 : True := trivial
theorem law_holds.tw14955547114033223630 : True := trivial
theorem law_holds.tw4741763204739981782 : True := trivial
theorem law_holds.tw10970178478645445065 : True := trivial
theorem law_holds.tw15475768886876292765 : True := trivial
theorem law_holds.tw13452567539432749515 : True := trivial
theorem law_holds.tw13883374993047487392 : True := trivial
theorem law_holds.tw12484913961375959436 : True := trivial
theorem law_holds.tw11559200463237931310 : True := trivial
theorem law_holds.tw9417273167351003320 : True := trivial
theorem law_holds.tw13090290290649837296 : True := trivial
theorem law_holds.tw16092313627930927930 : True := trivial
theorem law_holds.tw1096882304650884645 : True := trivial
theorem law_holds.tw12330615201998171997 : True := trivial
theorem law_holds.tw6226683648077573004 : True := trivial
theorem law_holds.tw17889703866008856348 : True := trivial
theorem law_holds.tw7914516967449644274 : True := trivial
theorem law_holds.tw17247948805211222641 : True := trivial
theorem law_holds.tw6959536780282604741 : True := trivial
theorem law_holds.tw6244012832173139899 : True := trivial
theorem law_holds.tw12004030454529411259 : True := trivial
theorem law_holds.tw9775677356498680169 : True := trivial
theorem law_holds.tw14507120259854047806 : True := trivial
theorem law_holds.tw17381649851301557462 : True := trivial
theorem law_holds.tw1535433256620502486 : True := trivial
theorem law_holds.tw926588535762936754 : True := trivial
theorem law_holds.tw6262706910294595067 : True := trivial
theorem law_holds.tw10663073085907705061 : True := trivial
theorem law_holds.tw5031690041152010778 : True := trivial
theorem law_holds.tw14125127635623392499 : True := trivial
theorem law_holds.tw17405152182579824676 : True := trivial
theorem law_holds.tw153211041619868365 : True := trivial
theorem law_holds.tw10811560612389105450 : True := trivial
theorem law_holds.tw5166936407342753198 : True := trivial
theorem law_holds.tw1284142393153823311 : True := trivial
theorem law_holds.tw17863254366585915439 : True := trivial
theorem law_holds.tw18394008137783461082 : True := trivial
theorem law_holds.tw1054621039356621327 : True := trivial
theorem law_holds.tw17153405707336374643 : True := trivial
theorem law_holds.tw11957675713235858084 : True := trivial
theorem law_holds.tw14683718994171169449 : True := trivial
theorem law_holds.tw6556789096620932254 : True := trivial
theorem law_holds.tw5609541052763801308 : True := trivial
theorem law_holds.tw1318078360163777340 : True := trivial
theorem law_holds.tw13448484499558953608 : True := trivial
theorem law_holds.tw16108262701158560774 : True := trivial
theorem law_holds.tw12536992457297655885 : True := trivial
theorem law_holds.tw17171392926877530642 : True := trivial
theorem law_holds.tw976255513093006922 : True := trivial
theorem law_holds.tw2352214175033079791 : True := trivial
theorem law_holds.tw16387936433261076697 : True := trivial
theorem law_holds.tw14267023350632957988 : True := trivial
theorem law_holds.tw5683402958813670560 : True := trivial
theorem law_holds.tw9725215707094016821 : True := trivial
theorem law_holds.tw5667597744332145543 : True := trivial
theorem law_holds.tw6720394597571034983 : True := trivial
theorem law_holds.tw4735554791095477340 : True := trivial
theorem law_holds.tw4925953140077892544 : True := trivial
theorem law_holds.tw5577528626916778784 : True := trivial
theorem law_holds.tw6229577569546237107 : True := trivial
theorem law_holds.tw3517289798962588858 : True := trivial
theorem law_holds.tw2686150459368450821 : True := trivial
theorem law_holds.tw8506755105833149032 : True := trivial
theorem law_holds.tw17287691208057587931 : True := trivial
theorem law_holds.tw18329167938022873437 : True := trivial
theorem law_holds.tw16975801633838932291 : True := trivial
theorem law_holds.tw4419833369192902061 : True := trivial
theorem law_holds.tw9653865117615054132 : True := trivial
theorem law_holds.tw1490438727299865300 : True := trivial
theorem law_holds.tw11058752434459332183 : True := trivial
theorem law_holds.tw16282564347015942656 : True := trivial
theorem law_holds.tw1322507667710753238 : True := trivial
theorem law_holds.tw15558401178803425322 : True := trivial
theorem law_holds.tw9586570928363618756 : True := trivial
theorem law_holds.tw13542067139921255151 : True := trivial
theorem law_holds.tw14194175223860571061 : True := trivial
theorem law_holds.tw6395658028604826352 : True := trivial
theorem law_holds.tw14853154019498754889 : True := trivial
theorem law_holds.tw712086844490588580 : True := trivial
theorem law_holds.tw2963282448420899638 : True := trivial
set_option Elab.async true in
set_option maxRecDepth 100000 in
set_option maxHeartbeats 8000000 in
theorem law_holds : PySem.Challenge.rw_iy0007_01.Holds := by
  w_on
  o_law
  k_head
  case hw => w_witness2
  k_go0
  all_goals (try k_fold)
  try dsimp only
  rename IntsAre _ _ => hI
  rename Frag.In _ _ => KX0
  rename Top _ _ _ _ _ _ => TX0
  have KX1 := conv_K (by rfl) KX0
  have TX1 := conv_T (by rfl) TX0
  clear KX0
  (repeat' ((fail_if_success (with_reducible show wpAny _ _ (call (Value.ref _) _) _ _ _)); (fail_if_success (with_reducible show wpAny _ _ (pyIter _) _ _ _)); (fail_if_success (with_reducible show LoopStepV _ _ _ _ _ _ _ _ _ _)); first | (k_unfold; (try dsimp only)) | (with_reducible refine wpAny_execs_nil ?_; (try dsimp only)) | walk1 | (dsimp only; walk1) | (dsimp only [List.cons_append, List.nil_append]; walk1) | fail "no step"))
  with_unfolding_all refine words_ok (by k_asm) (by k_asm) (by k_asm) (by k_asm) (by k_asm) rfl (.head _) (hI.pick _ _ _) (pick_e _) (by (first | decide | decide +kernel | (((try dsimp only [units_in1, units_deeper, Around.mark_units, units_caller, depth_under_make, depth_under_kw, units_under_make, depth_in1, depth_deeper, depth_caller]); (try dsimp only [ktrTop]); first | with_reducible exact Mine.rB1 (by assumption) rfl | with_reducible exact Mine.rC1 (by assumption) rfl | with_reducible exact Mine.rB2 (by assumption) rfl | with_reducible exact Mine.rC2 (by assumption) rfl | with_reducible exact Mine.rB0 (by assumption) | with_reducible exact Mine.rC0 (by assumption) | exact Mine.rm1 (by assumption) rfl | exact Mine.rm2 (by assumption) rfl | exact Mine.rm3 (by assumption) rfl | exact Mine.rm0 (by assumption) | (have hcL9 := cLine_is; omega (config := {})))))) (by (first | decide | decide +kernel | (((try dsimp only [units_in1, units_deeper, Around.mark_units, units_caller, depth_under_make, depth_under_kw, units_under_make, depth_in1, depth_deeper, depth_caller]); (try dsimp only [ktrTop]); first | with_reducible exact Mine.rB1 (by assumption) rfl | with_reducible exact Mine.rC1 (by assumption) rfl | with_reducible exact Mine.rB2 (by assumption) rfl | with_reducible exact Mine.rC2 (by assumption) rfl | with_reducible exact Mine.rB0 (by assumption) | with_reducible exact Mine.rC0 (by assumption) | exact Mine.rm1 (by assumption) rfl | exact Mine.rm2 (by assumption) rfl | exact Mine.rm3 (by assumption) rfl | exact Mine.rm0 (by assumption) | (have hcL9 := cLine_is; omega (config := {})))))) ?_
  intro t1 h1 tk1 F1 N1
  have hx := numOf_lt (pick_e (by assumption))
  generalize D_F2.numOf (D_F2.wordsOf (pickNums _ none (some 6) (some 2))) = X at *
  (repeat' ((fail_if_success (with_reducible show wpAny _ _ (call (Value.ref _) _) _ _ _)); (fail_if_success (with_reducible show wpAny _ _ (pyIter _) _ _ _)); (fail_if_success (with_reducible show LoopStepV _ _ _ _ _ _ _ _ _ _)); first | (k_unfold; (try dsimp only)) | (with_reducible refine wpAny_execs_nil ?_; (try dsimp only)) | walk1 | (dsimp only; walk1) | (dsimp only [List.cons_append, List.nil_append]; walk1) | fail "no step"))
  with_unfolding_all refine words_ok (by k_asm) (by k_asm) (by k_asm) (by k_asm) (by k_asm) rfl (.head _) (hI.pick _ _ _) (pick_o _) (by (first | decide | decide +kernel | (((try dsimp only [units_in1, units_deeper, Around.mark_units, units_caller, depth_under_make, depth_under_kw, units_under_make, depth_in1, depth_deeper, depth_caller]); (try dsimp only [ktrTop]); first | with_reducible exact Mine.rB1 (by assumption) rfl | with_reducible exact Mine.rC1 (by assumption) rfl | with_reducible exact Mine.rB2 (by assumption) rfl | with_reducible exact Mine.rC2 (by assumption) rfl | with_reducible exact Mine.rB0 (by assumption) | with_reducible exact Mine.rC0 (by assumption) | exact Mine.rm1 (by assumption) rfl | exact Mine.rm2 (by assumption) rfl | exact Mine.rm3 (by assumption) rfl | exact Mine.rm0 (by assumption) | (have hcL9 := cLine_is; omega (config := {})))))) (by (first | decide | decide +kernel | (((try dsimp only [units_in1, units_deeper, Around.mark_units, units_caller, depth_under_make, depth_under_kw, units_under_make, depth_in1, depth_deeper, depth_caller]); (try dsimp only [ktrTop]); first | with_reducible exact Mine.rB1 (by assumption) rfl | with_reducible exact Mine.rC1 (by assumption) rfl | with_reducible exact Mine.rB2 (by assumption) rfl | with_reducible exact Mine.rC2 (by assumption) rfl | with_reducible exact Mine.rB0 (by assumption) | with_reducible exact Mine.rC0 (by assumption) | exact Mine.rm1 (by assumption) rfl | exact Mine.rm2 (by assumption) rfl | exact Mine.rm3 (by assumption) rfl | exact Mine.rm0 (by assumption) | (have hcL9 := cLine_is; omega (config := {})))))) ?_
  intro t2 h2 tk2 F2 N2
  have hy := numOf_lt (pick_o (by assumption))
  generalize D_F2.numOf (D_F2.wordsOf (pickNums _ (some 1) (some 6) (some 2))) = Y at *
  (repeat' ((fail_if_success (with_reducible show wpAny _ _ (call (Value.ref _) _) _ _ _)); (fail_if_success (with_reducible show wpAny _ _ (pyIter _) _ _ _)); (fail_if_success (with_reducible show LoopStepV _ _ _ _ _ _ _ _ _ _)); first | (k_unfold; (try dsimp only)) | (with_reducible refine wpAny_execs_nil ?_; (try dsimp only)) | walk1 | (dsimp only; walk1) | (dsimp only [List.cons_append, List.nil_append]; walk1) | fail "no step"))
  generalize (_ == (1 : Int)) = down at *
  with_unfolding_all refine made_ok (by k_asm) (by k_asm) (by k_asm) (by k_asm) (by k_asm) rfl hx (by (first | decide | decide +kernel | (((try dsimp only [units_in1, units_deeper, Around.mark_units, units_caller, depth_under_make, depth_under_kw, units_under_make, depth_in1, depth_deeper, depth_caller]); (try dsimp only [ktrTop]); first | with_reducible exact Mine.rB1 (by assumption) rfl | with_reducible exact Mine.rC1 (by assumption) rfl | with_reducible exact Mine.rB2 (by assumption) rfl | with_reducible exact Mine.rC2 (by assumption) rfl | with_reducible exact Mine.rB0 (by assumption) | with_reducible exact Mine.rC0 (by assumption) | exact Mine.rm1 (by assumption) rfl | exact Mine.rm2 (by assumption) rfl | exact Mine.rm3 (by assumption) rfl | exact Mine.rm0 (by assumption) | (have hcL9 := cLine_is; omega (config := {})))))) (by (first | decide | decide +kernel | (((try dsimp only [units_in1, units_deeper, Around.mark_units, units_caller, depth_under_make, depth_under_kw, units_under_make, depth_in1, depth_deeper, depth_caller]); (try dsimp only [ktrTop]); first | with_reducible exact Mine.rB1 (by assumption) rfl | with_reducible exact Mine.rC1 (by assumption) rfl | with_reducible exact Mine.rB2 (by assumption) rfl | with_reducible exact Mine.rC2 (by assumption) rfl | with_reducible exact Mine.rB0 (by assumption) | with_reducible exact Mine.rC0 (by assumption) | exact Mine.rm1 (by assumption) rfl | exact Mine.rm2 (by assumption) rfl | exact Mine.rm3 (by assumption) rfl | exact Mine.rm0 (by assumption) | (have hcL9 := cLine_is; omega (config := {})))))) ?_
  intro h3 tk3 x1 d1 b1 o1 n1 u1 u2 u3 F3 N3 B1 hn1 l1 l2 l3
  (repeat' ((fail_if_success (with_reducible show wpAny _ _ (call (Value.ref _) _) _ _ _)); (fail_if_success (with_reducible show wpAny _ _ (pyIter _) _ _ _)); (fail_if_success (with_reducible show LoopStepV _ _ _ _ _ _ _ _ _ _)); first | (k_unfold; (try dsimp only)) | (with_reducible refine wpAny_execs_nil ?_; (try dsimp only)) | walk1 | (dsimp only; walk1) | (dsimp only [List.cons_append, List.nil_append]; walk1) | fail "no step"))
  with_unfolding_all refine made_ok (by k_asm) (by k_asm) (by k_asm) (by k_asm) (by k_asm) rfl hy (by (first | decide | decide +kernel | (((try dsimp only [units_in1, units_deeper, Around.mark_units, units_caller, depth_under_make, depth_under_kw, units_under_make, depth_in1, depth_deeper, depth_caller]); (try dsimp only [ktrTop]); first | with_reducible exact Mine.rB1 (by assumption) rfl | with_reducible exact Mine.rC1 (by assumption) rfl | with_reducible exact Mine.rB2 (by assumption) rfl | with_reducible exact Mine.rC2 (by assumption) rfl | with_reducible exact Mine.rB0 (by assumption) | with_reducible exact Mine.rC0 (by assumption) | exact Mine.rm1 (by assumption) rfl | exact Mine.rm2 (by assumption) rfl | exact Mine.rm3 (by assumption) rfl | exact Mine.rm0 (by assumption) | (have hcL9 := cLine_is; omega (config := {})))))) (by (first | decide | decide +kernel | (((try dsimp only [units_in1, units_deeper, Around.mark_units, units_caller, depth_under_make, depth_under_kw, units_under_make, depth_in1, depth_deeper, depth_caller]); (try dsimp only [ktrTop]); first | with_reducible exact Mine.rB1 (by assumption) rfl | with_reducible exact Mine.rC1 (by assumption) rfl | with_reducible exact Mine.rB2 (by assumption) rfl | with_reducible exact Mine.rC2 (by assumption) rfl | with_reducible exact Mine.rB0 (by assumption) | with_reducible exact Mine.rC0 (by assumption) | exact Mine.rm1 (by assumption) rfl | exact Mine.rm2 (by assumption) rfl | exact Mine.rm3 (by assumption) rfl | exact Mine.rm0 (by assumption) | (have hcL9 := cLine_is; omega (config := {})))))) ?_
  intro h4 tk4 x2 d2 b2 o2 n2 v1 v2 v3 F4 N4 B2 hn2 l4 l5 l6
  subst hn1 hn2
  (repeat' ((fail_if_success (with_reducible show wpAny _ _ (call (Value.ref _) _) _ _ _)); (fail_if_success (with_reducible show wpAny _ _ (pyIter _) _ _ _)); (fail_if_success (with_reducible show LoopStepV _ _ _ _ _ _ _ _ _ _)); first | (k_unfold; (try dsimp only)) | (with_reducible refine wpAny_execs_nil ?_; (try dsimp only)) | walk1 | (dsimp only; walk1) | (dsimp only [List.cons_append, List.nil_append]; walk1) | fail "no step"))
  with_unfolding_all refine is_ok (by k_asm) (by k_asm) (by k_asm) (by k_asm) (by k_asm) rfl ⟨by (repeat (first | assumption | exact List.Mem.head _ | refine' List.Mem.tail _ ?_)), by (repeat (first | assumption | exact List.Mem.head _ | refine' List.Mem.tail _ ?_)), by (repeat (first | assumption | exact List.Mem.head _ | refine' List.Mem.tail _ ?_)), B1⟩ hx (fun k => rfl) (by (first | decide | decide +kernel | (((try dsimp only [units_in1, units_deeper, Around.mark_units, units_caller, depth_under_make, depth_under_kw, units_under_make, depth_in1, depth_deeper, depth_caller]); (try dsimp only [ktrTop]); first | with_reducible exact Mine.rB1 (by assumption) rfl | with_reducible exact Mine.rC1 (by assumption) rfl | with_reducible exact Mine.rB2 (by assumption) rfl | with_reducible exact Mine.rC2 (by assumption) rfl | with_reducible exact Mine.rB0 (by assumption) | with_reducible exact Mine.rC0 (by assumption) | exact Mine.rm1 (by assumption) rfl | exact Mine.rm2 (by assumption) rfl | exact Mine.rm3 (by assumption) rfl | exact Mine.rm0 (by assumption) | (have hcL9 := cLine_is; omega (config := {})))))) (by (first | decide | decide +kernel | (((try dsimp only [units_in1, units_deeper, Around.mark_units, units_caller, depth_under_make, depth_under_kw, units_under_make, depth_in1, depth_deeper, depth_caller]); (try dsimp only [ktrTop]); first | with_reducible exact Mine.rB1 (by assumption) rfl | with_reducible exact Mine.rC1 (by assumption) rfl | with_reducible exact Mine.rB2 (by assumption) rfl | with_reducible exact Mine.rC2 (by assumption) rfl | with_reducible exact Mine.rB0 (by assumption) | with_reducible exact Mine.rC0 (by assumption) | exact Mine.rm1 (by assumption) rfl | exact Mine.rm2 (by assumption) rfl | exact Mine.rm3 (by assumption) rfl | exact Mine.rm0 (by assumption) | (have hcL9 := cLine_is; omega (config := {})))))) ?_
  intro h5 tk5 F5 N5
  have q1 := ltN (l4 (b1, o1) (.tail _ (.tail _ (.head _))))
  have q5 := ltN l5
  have q6 := ltN l6
  try dsimp only at q1
  have hb21 : @Ne Nat b2 b1 := by omega
  have hb12 : @Ne Nat b1 b2 := by omega
  (repeat' ((fail_if_success (with_reducible show wpAny _ _ (call (Value.ref _) _) _ _ _)); (fail_if_success (with_reducible show wpAny _ _ (pyIter _) _ _ _)); (fail_if_success (with_reducible show LoopStepV _ _ _ _ _ _ _ _ _ _)); first | (k_unfold; (try dsimp only)) | (with_reducible refine wpAny_execs_nil ?_; (try dsimp only)) | walk1 | (dsimp only; walk1) | (dsimp only [List.cons_append, List.nil_append]; walk1) | fail "no step"))
  with_unfolding_all refine or_ok (by k_asm) (by k_asm) (by k_asm) (by k_asm) (by k_asm) rfl ⟨by (repeat (first | assumption | exact List.Mem.head _ | refine' List.Mem.tail _ ?_)), by (repeat (first | assumption | exact List.Mem.head _ | refine' List.Mem.tail _ ?_)), by (repeat (first | assumption | exact List.Mem.head _ | refine' List.Mem.tail _ ?_)), B1⟩ ⟨by (repeat (first | assumption | exact List.Mem.head _ | refine' List.Mem.tail _ ?_)), by (repeat (first | assumption | exact List.Mem.head _ | refine' List.Mem.tail _ ?_)), by (repeat (first | assumption | exact List.Mem.head _ | refine' List.Mem.tail _ ?_)), B2⟩ hb21 (by (first | decide | decide +kernel | (((try dsimp only [units_in1, units_deeper, Around.mark_units, units_caller, depth_under_make, depth_under_kw, units_under_make, depth_in1, depth_deeper, depth_caller]); (try dsimp only [ktrTop]); first | with_reducible exact Mine.rB1 (by assumption) rfl | with_reducible exact Mine.rC1 (by assumption) rfl | with_reducible exact Mine.rB2 (by assumption) rfl | with_reducible exact Mine.rC2 (by assumption) rfl | with_reducible exact Mine.rB0 (by assumption) | with_reducible exact Mine.rC0 (by assumption) | exact Mine.rm1 (by assumption) rfl | exact Mine.rm2 (by assumption) rfl | exact Mine.rm3 (by assumption) rfl | exact Mine.rm0 (by assumption) | (have hcL9 := cLine_is; omega (config := {})))))) (by (first | decide | decide +kernel | (((try dsimp only [units_in1, units_deeper, Around.mark_units, units_caller, depth_under_make, depth_under_kw, units_under_make, depth_in1, depth_deeper, depth_caller]); (try dsimp only [ktrTop]); first | with_reducible exact Mine.rB1 (by assumption) rfl | with_reducible exact Mine.rC1 (by assumption) rfl | with_reducible exact Mine.rB2 (by assumption) rfl | with_reducible exact Mine.rC2 (by assumption) rfl | with_reducible exact Mine.rB0 (by assumption) | with_reducible exact Mine.rC0 (by assumption) | exact Mine.rm1 (by assumption) rfl | exact Mine.rm2 (by assumption) rfl | exact Mine.rm3 (by assumption) rfl | exact Mine.rm0 (by assumption) | (have hcL9 := cLine_is; omega (config := {})))))) ?_
  intro h6 tk6 x6 d6 b6 o6 u6a u6b u6c F6 N6 B6 l6a l6b l6c
  refine cmpBack_ref ?_
  (repeat' ((fail_if_success (with_reducible show wpAny _ _ (call (Value.ref _) _) _ _ _)); (fail_if_success (with_reducible show wpAny _ _ (pyIter _) _ _ _)); (fail_if_success (with_reducible show LoopStepV _ _ _ _ _ _ _ _ _ _)); first | (k_unfold; (try dsimp only)) | (with_reducible refine wpAny_execs_nil ?_; (try dsimp only)) | walk1 | (dsimp only; walk1) | (dsimp only [List.cons_append, List.nil_append]; walk1) | fail "no step"))
  rw [bitOr_nat]
  with_unfolding_all refine is_ok (by k_asm) (by k_asm) (by k_asm) (by k_asm) (by k_asm) rfl ⟨by (repeat (first | assumption | exact List.Mem.head _ | refine' List.Mem.tail _ ?_)), by (repeat (first | assumption | exact List.Mem.head _ | refine' List.Mem.tail _ ?_)), by (repeat (first | assumption | exact List.Mem.head _ | refine' List.Mem.tail _ ?_)), B6⟩ (Nat.or_lt_two_pow hx hy) (fun k => by rw [Nat.testBit_or]) (by (first | decide | decide +kernel | (((try dsimp only [units_in1, units_deeper, Around.mark_units, units_caller, depth_under_make, depth_under_kw, units_under_make, depth_in1, depth_deeper, depth_caller]); (try dsimp only [ktrTop]); first | with_reducible exact Mine.rB1 (by assumption) rfl | with_reducible exact Mine.rC1 (by assumption) rfl | with_reducible exact Mine.rB2 (by assumption) rfl | with_reducible exact Mine.rC2 (by assumption) rfl | with_reducible exact Mine.rB0 (by assumption) | with_reducible exact Mine.rC0 (by assumption) | exact Mine.rm1 (by assumption) rfl | exact Mine.rm2 (by assumption) rfl | exact Mine.rm3 (by assumption) rfl | exact Mine.rm0 (by assumption) | (have hcL9 := cLine_is; omega (config := {})))))) (by (first | decide | decide +kernel | (((try dsimp only [units_in1, units_deeper, Around.mark_units, units_caller, depth_under_make, depth_under_kw, units_under_make, depth_in1, depth_deeper, depth_caller]); (try dsimp only [ktrTop]); first | with_reducible exact Mine.rB1 (by assumption) rfl | with_reducible exact Mine.rC1 (by assumption) rfl | with_reducible exact Mine.rB2 (by assumption) rfl | with_reducible exact Mine.rC2 (by assumption) rfl | with_reducible exact Mine.rB0 (by assumption) | with_reducible exact Mine.rC0 (by assumption) | exact Mine.rm1 (by assumption) rfl | exact Mine.rm2 (by assumption) rfl | exact Mine.rm3 (by assumption) rfl | exact Mine.rm0 (by assumption) | (have hcL9 := cLine_is; omega (config := {})))))) ?_
  intro h7 tk7 F7 N7
  replace N7 := news_drop3 N7
  (repeat' ((fail_if_success (with_reducible show wpAny _ _ (call (Value.ref _) _) _ _ _)); (fail_if_success (with_reducible show wpAny _ _ (pyIter _) _ _ _)); (fail_if_success (with_reducible show LoopStepV _ _ _ _ _ _ _ _ _ _)); first | (k_unfold; (try dsimp only)) | (with_reducible refine wpAny_execs_nil ?_; (try dsimp only)) | walk1 | (dsimp only; walk1) | (dsimp only [List.cons_append, List.nil_append]; walk1) | fail "no step"))
  with_unfolding_all refine and_ok (by k_asm) (by k_asm) (by k_asm) (by k_asm) (by k_asm) rfl ⟨by (repeat (first | assumption | exact List.Mem.head _ | refine' List.Mem.tail _ ?_)), by (repeat (first | assumption | exact List.Mem.head _ | refine' List.Mem.tail _ ?_)), by (repeat (first | assumption | exact List.Mem.head _ | refine' List.Mem.tail _ ?_)), B1⟩ ⟨by (repeat (first | assumption | exact List.Mem.head _ | refine' List.Mem.tail _ ?_)), by (repeat (first | assumption | exact List.Mem.head _ | refine' List.Mem.tail _ ?_)), by (repeat (first | assumption | exact List.Mem.head _ | refine' List.Mem.tail _ ?_)), B2⟩ hb21 (by (first | decide | decide +kernel | (((try dsimp only [units_in1, units_deeper, Around.mark_units, units_caller, depth_under_make, depth_under_kw, units_under_make, depth_in1, depth_deeper, depth_caller]); (try dsimp only [ktrTop]); first | with_reducible exact Mine.rB1 (by assumption) rfl | with_reducible exact Mine.rC1 (by assumption) rfl | with_reducible exact Mine.rB2 (by assumption) rfl | with_reducible exact Mine.rC2 (by assumption) rfl | with_reducible exact Mine.rB0 (by assumption) | with_reducible exact Mine.rC0 (by assumption) | exact Mine.rm1 (by assumption) rfl | exact Mine.rm2 (by assumption) rfl | exact Mine.rm3 (by assumption) rfl | exact Mine.rm0 (by assumption) | (have hcL9 := cLine_is; omega (config := {})))))) (by (first | decide | decide +kernel | (((try dsimp only [units_in1, units_deeper, Around.mark_units, units_caller, depth_under_make, depth_under_kw, units_under_make, depth_in1, depth_deeper, depth_caller]); (try dsimp only [ktrTop]); first | with_reducible exact Mine.rB1 (by assumption) rfl | with_reducible exact Mine.rC1 (by assumption) rfl | with_reducible exact Mine.rB2 (by assumption) rfl | with_reducible exact Mine.rC2 (by assumption) rfl | with_reducible exact Mine.rB0 (by assumption) | with_reducible exact Mine.rC0 (by assumption) | exact Mine.rm1 (by assumption) rfl | exact Mine.rm2 (by assumption) rfl | exact Mine.rm3 (by assumption) rfl | exact Mine.rm0 (by assumption) | (have hcL9 := cLine_is; omega (config := {})))))) ?_
  intro h8 tk8 x8 d8 b8 o8 u8a u8b u8c F8 N8 B8 l8a l8b l8c
  refine cmpBack_ref ?_
  (repeat' ((fail_if_success (with_reducible show wpAny _ _ (call (Value.ref _) _) _ _ _)); (fail_if_success (with_reducible show wpAny _ _ (pyIter _) _ _ _)); (fail_if_success (with_reducible show LoopStepV _ _ _ _ _ _ _ _ _ _)); first | (k_unfold; (try dsimp only)) | (with_reducible refine wpAny_execs_nil ?_; (try dsimp only)) | walk1 | (dsimp only; walk1) | (dsimp only [List.cons_append, List.nil_append]; walk1) | fail "no step"))
  rw [bitAnd_nat]
  with_unfolding_all refine is_ok (by k_asm) (by k_asm) (by k_asm) (by k_asm) (by k_asm) rfl ⟨by (repeat (first | assumption | exact List.Mem.head _ | refine' List.Mem.tail _ ?_)), by (repeat (first | assumption | exact List.Mem.head _ | refine' List.Mem.tail _ ?_)), by (repeat (first | assumption | exact List.Mem.head _ | refine' List.Mem.tail _ ?_)), B8⟩ (Nat.and_lt_two_pow _ hy) (fun k => by rw [Nat.testBit_and]) (by (first | decide | decide +kernel | (((try dsimp only [units_in1, units_deeper, Around.mark_units, units_caller, depth_under_make, depth_under_kw, units_under_make, depth_in1, depth_deeper, depth_caller]); (try dsimp only [ktrTop]); first | with_reducible exact Mine.rB1 (by assumption) rfl | with_reducible exact Mine.rC1 (by assumption) rfl | with_reducible exact Mine.rB2 (by assumption) rfl | with_reducible exact Mine.rC2 (by assumption) rfl | with_reducible exact Mine.rB0 (by assumption) | with_reducible exact Mine.rC0 (by assumption) | exact Mine.rm1 (by assumption) rfl | exact Mine.rm2 (by assumption) rfl | exact Mine.rm3 (by assumption) rfl | exact Mine.rm0 (by assumption) | (have hcL9 := cLine_is; omega (config := {})))))) (by (first | decide | decide +kernel | (((try dsimp only [units_in1, units_deeper, Around.mark_units, units_caller, depth_under_make, depth_under_kw, units_under_make, depth_in1, depth_deeper, depth_caller]); (try dsimp only [ktrTop]); first | with_reducible exact Mine.rB1 (by assumption) rfl | with_reducible exact Mine.rC1 (by assumption) rfl | with_reducible exact Mine.rB2 (by assumption) rfl | with_reducible exact Mine.rC2 (by assumption) rfl | with_reducible exact Mine.rB0 (by assumption) | with_reducible exact Mine.rC0 (by assumption) | exact Mine.rm1 (by assumption) rfl | exact Mine.rm2 (by assumption) rfl | exact Mine.rm3 (by assumption) rfl | exact Mine.rm0 (by assumption) | (have hcL9 := cLine_is; omega (config := {})))))) ?_
  intro h9 tk9 F9 N9
  replace N9 := news_drop3 N9
  (repeat' ((fail_if_success (with_reducible show wpAny _ _ (call (Value.ref _) _) _ _ _)); (fail_if_success (with_reducible show wpAny _ _ (pyIter _) _ _ _)); (fail_if_success (with_reducible show LoopStepV _ _ _ _ _ _ _ _ _ _)); first | (k_unfold; (try dsimp only)) | (with_reducible refine wpAny_execs_nil ?_; (try dsimp only)) | walk1 | (dsimp only; walk1) | (dsimp only [List.cons_append, List.nil_append]; walk1) | fail "no step"))
  with_unfolding_all refine xor_ok (by k_asm) (by k_asm) (by k_asm) (by k_asm) (by k_asm) rfl ⟨by (repeat (first | assumption | exact List.Mem.head _ | refine' List.Mem.tail _ ?_)), by (repeat (first | assumption | exact List.Mem.head _ | refine' List.Mem.tail _ ?_)), by (repeat (first | assumption | exact List.Mem.head _ | refine' List.Mem.tail _ ?_)), B1⟩ ⟨by (repeat (first | assumption | exact List.Mem.head _ | refine' List.Mem.tail _ ?_)), by (repeat (first | assumption | exact List.Mem.head _ | refine' List.Mem.tail _ ?_)), by (repeat (first | assumption | exact List.Mem.head _ | refine' List.Mem.tail _ ?_)), B2⟩ hb21 (by (first | decide | decide +kernel | (((try dsimp only [units_in1, units_deeper, Around.mark_units, units_caller, depth_under_make, depth_under_kw, units_under_make, depth_in1, depth_deeper, depth_caller]); (try dsimp only [ktrTop]); first | with_reducible exact Mine.rB1 (by assumption) rfl | with_reducible exact Mine.rC1 (by assumption) rfl | with_reducible exact Mine.rB2 (by assumption) rfl | with_reducible exact Mine.rC2 (by assumption) rfl | with_reducible exact Mine.rB0 (by assumption) | with_reducible exact Mine.rC0 (by assumption) | exact Mine.rm1 (by assumption) rfl | exact Mine.rm2 (by assumption) rfl | exact Mine.rm3 (by assumption) rfl | exact Mine.rm0 (by assumption) | (have hcL9 := cLine_is; omega (config := {})))))) (by (first | decide | decide +kernel | (((try dsimp only [units_in1, units_deeper, Around.mark_units, units_caller, depth_under_make, depth_under_kw, units_under_make, depth_in1, depth_deeper, depth_caller]); (try dsimp only [ktrTop]); first | with_reducible exact Mine.rB1 (by assumption) rfl | with_reducible exact Mine.rC1 (by assumption) rfl | with_reducible exact Mine.rB2 (by assumption) rfl | with_reducible exact Mine.rC2 (by assumption) rfl | with_reducible exact Mine.rB0 (by assumption) | with_reducible exact Mine.rC0 (by assumption) | exact Mine.rm1 (by assumption) rfl | exact Mine.rm2 (by assumption) rfl | exact Mine.rm3 (by assumption) rfl | exact Mine.rm0 (by assumption) | (have hcL9 := cLine_is; omega (config := {})))))) ?_
  intro h10 tk10 x10 d10 b10 o10 u10a u10b u10c F10 N10 B10 l10a l10b l10c
  refine cmpBack_ref ?_
  (repeat' ((fail_if_success (with_reducible show wpAny _ _ (call (Value.ref _) _) _ _ _)); (fail_if_success (with_reducible show wpAny _ _ (pyIter _) _ _ _)); (fail_if_success (with_reducible show LoopStepV _ _ _ _ _ _ _ _ _ _)); first | (k_unfold; (try dsimp only)) | (with_reducible refine wpAny_execs_nil ?_; (try dsimp only)) | walk1 | (dsimp only; walk1) | (dsimp only [List.cons_append, List.nil_append]; walk1) | fail "no step"))
  rw [bitXor_nat]
  with_unfolding_all refine is_ok (by k_asm) (by k_asm) (by k_asm) (by k_asm) (by k_asm) rfl ⟨by (repeat (first | assumption | exact List.Mem.head _ | refine' List.Mem.tail _ ?_)), by (repeat (first | assumption | exact List.Mem.head _ | refine' List.Mem.tail _ ?_)), by (repeat (first | assumption | exact List.Mem.head _ | refine' List.Mem.tail _ ?_)), B10⟩ (Nat.xor_lt_two_pow hx hy) (fun k => by rw [Nat.testBit_xor]) (by (first | decide | decide +kernel | (((try dsimp only [units_in1, units_deeper, Around.mark_units, units_caller, depth_under_make, depth_under_kw, units_under_make, depth_in1, depth_deeper, depth_caller]); (try dsimp only [ktrTop]); first | with_reducible exact Mine.rB1 (by assumption) rfl | with_reducible exact Mine.rC1 (by assumption) rfl | with_reducible exact Mine.rB2 (by assumption) rfl | with_reducible exact Mine.rC2 (by assumption) rfl | with_reducible exact Mine.rB0 (by assumption) | with_reducible exact Mine.rC0 (by assumption) | exact Mine.rm1 (by assumption) rfl | exact Mine.rm2 (by assumption) rfl | exact Mine.rm3 (by assumption) rfl | exact Mine.rm0 (by assumption) | (have hcL9 := cLine_is; omega (config := {})))))) (by (first | decide | decide +kernel | (((try dsimp only [units_in1, units_deeper, Around.mark_units, units_caller, depth_under_make, depth_under_kw, units_under_make, depth_in1, depth_deeper, depth_caller]); (try dsimp only [ktrTop]); first | with_reducible exact Mine.rB1 (by assumption) rfl | with_reducible exact Mine.rC1 (by assumption) rfl | with_reducible exact Mine.rB2 (by assumption) rfl | with_reducible exact Mine.rC2 (by assumption) rfl | with_reducible exact Mine.rB0 (by assumption) | with_reducible exact Mine.rC0 (by assumption) | exact Mine.rm1 (by assumption) rfl | exact Mine.rm2 (by assumption) rfl | exact Mine.rm3 (by assumption) rfl | exact Mine.rm0 (by assumption) | (have hcL9 := cLine_is; omega (config := {})))))) ?_
  intro h11 tk11 F11 N11
  replace N11 := news_drop3 N11
  (repeat' ((fail_if_success (with_reducible show wpAny _ _ (call (Value.ref _) _) _ _ _)); (fail_if_success (with_reducible show wpAny _ _ (pyIter _) _ _ _)); (fail_if_success (with_reducible show LoopStepV _ _ _ _ _ _ _ _ _ _)); first | (k_unfold; (try dsimp only)) | (with_reducible refine wpAny_execs_nil ?_; (try dsimp only)) | walk1 | (dsimp only; walk1) | (dsimp only [List.cons_append, List.nil_append]; walk1) | fail "no step"))
  with_unfolding_all refine sub_ok (by k_asm) (by k_asm) (by k_asm) (by k_asm) (by k_asm) rfl ⟨by (repeat (first | assumption | exact List.Mem.head _ | refine' List.Mem.tail _ ?_)), by (repeat (first | assumption | exact List.Mem.head _ | refine' List.Mem.tail _ ?_)), by (repeat (first | assumption | exact List.Mem.head _ | refine' List.Mem.tail _ ?_)), B2⟩ ⟨by (repeat (first | assumption | exact List.Mem.head _ | refine' List.Mem.tail _ ?_)), by (repeat (first | assumption | exact List.Mem.head _ | refine' List.Mem.tail _ ?_)), by (repeat (first | assumption | exact List.Mem.head _ | refine' List.Mem.tail _ ?_)), B1⟩ hb12 (by (first | decide | decide +kernel | (((try dsimp only [units_in1, units_deeper, Around.mark_units, units_caller, depth_under_make, depth_under_kw, units_under_make, depth_in1, depth_deeper, depth_caller]); (try dsimp only [ktrTop]); first | with_reducible exact Mine.rB1 (by assumption) rfl | with_reducible exact Mine.rC1 (by assumption) rfl | with_reducible exact Mine.rB2 (by assumption) rfl | with_reducible exact Mine.rC2 (by assumption) rfl | with_reducible exact Mine.rB0 (by assumption) | with_reducible exact Mine.rC0 (by assumption) | exact Mine.rm1 (by assumption) rfl | exact Mine.rm2 (by assumption) rfl | exact Mine.rm3 (by assumption) rfl | exact Mine.rm0 (by assumption) | (have hcL9 := cLine_is; omega (config := {})))))) (by (first | decide | decide +kernel | (((try dsimp only [units_in1, units_deeper, Around.mark_units, units_caller, depth_under_make, depth_under_kw, units_under_make, depth_in1, depth_deeper, depth_caller]); (try dsimp only [ktrTop]); first | with_reducible exact Mine.rB1 (by assumption) rfl | with_reducible exact Mine.rC1 (by assumption) rfl | with_reducible exact Mine.rB2 (by assumption) rfl | with_reducible exact Mine.rC2 (by assumption) rfl | with_reducible exact Mine.rB0 (by assumption) | with_reducible exact Mine.rC0 (by assumption) | exact Mine.rm1 (by assumption) rfl | exact Mine.rm2 (by assumption) rfl | exact Mine.rm3 (by assumption) rfl | exact Mine.rm0 (by assumption) | (have hcL9 := cLine_is; omega (config := {})))))) ?_
  intro h12 tk12 x12 d12 b12 o12 u12a u12b u12c F12 N12 B12 l12a l12b l12c
  refine cmpBack_ref ?_
  (repeat' ((fail_if_success (with_reducible show wpAny _ _ (call (Value.ref _) _) _ _ _)); (fail_if_success (with_reducible show wpAny _ _ (pyIter _) _ _ _)); (fail_if_success (with_reducible show LoopStepV _ _ _ _ _ _ _ _ _ _)); first | (k_unfold; (try dsimp only)) | (with_reducible refine wpAny_execs_nil ?_; (try dsimp only)) | walk1 | (dsimp only; walk1) | (dsimp only [List.cons_append, List.nil_append]; walk1) | fail "no step"))
  rw [less_int]
  with_unfolding_all refine is_ok (by k_asm) (by k_asm) (by k_asm) (by k_asm) (by k_asm) rfl ⟨by (repeat (first | assumption | exact List.Mem.head _ | refine' List.Mem.tail _ ?_)), by (repeat (first | assumption | exact List.Mem.head _ | refine' List.Mem.tail _ ?_)), by (repeat (first | assumption | exact List.Mem.head _ | refine' List.Mem.tail _ ?_)), B12⟩ (less_lt hy) (fun k => by rw [less_bit]) (by (first | decide | decide +kernel | (((try dsimp only [units_in1, units_deeper, Around.mark_units, units_caller, depth_under_make, depth_under_kw, units_under_make, depth_in1, depth_deeper, depth_caller]); (try dsimp only [ktrTop]); first | with_reducible exact Mine.rB1 (by assumption) rfl | with_reducible exact Mine.rC1 (by assumption) rfl | with_reducible exact Mine.rB2 (by assumption) rfl | with_reducible exact Mine.rC2 (by assumption) rfl | with_reducible exact Mine.rB0 (by assumption) | with_reducible exact Mine.rC0 (by assumption) | exact Mine.rm1 (by assumption) rfl | exact Mine.rm2 (by assumption) rfl | exact Mine.rm3 (by assumption) rfl | exact Mine.rm0 (by assumption) | (have hcL9 := cLine_is; omega (config := {})))))) (by (first | decide | decide +kernel | (((try dsimp only [units_in1, units_deeper, Around.mark_units, units_caller, depth_under_make, depth_under_kw, units_under_make, depth_in1, depth_deeper, depth_caller]); (try dsimp only [ktrTop]); first | with_reducible exact Mine.rB1 (by assumption) rfl | with_reducible exact Mine.rC1 (by assumption) rfl | with_reducible exact Mine.rB2 (by assumption) rfl | with_reducible exact Mine.rC2 (by assumption) rfl | with_reducible exact Mine.rB0 (by assumption) | with_reducible exact Mine.rC0 (by assumption) | exact Mine.rm1 (by assumption) rfl | exact Mine.rm2 (by assumption) rfl | exact Mine.rm3 (by assumption) rfl | exact Mine.rm0 (by assumption) | (have hcL9 := cLine_is; omega (config := {})))))) ?_
  intro h13 tk13 F13 N13
  replace N13 := news_drop3 N13
  (repeat' ((fail_if_success (with_reducible show wpAny _ _ (call (Value.ref _) _) _ _ _)); (fail_if_success (with_reducible show wpAny _ _ (pyIter _) _ _ _)); (fail_if_success (with_reducible show LoopStepV _ _ _ _ _ _ _ _ _ _)); first | (k_unfold; (try dsimp only)) | (with_reducible refine wpAny_execs_nil ?_; (try dsimp only)) | walk1 | (dsimp only; walk1) | (dsimp only [List.cons_append, List.nil_append]; walk1) | fail "no step"))
  with_unfolding_all refine back_ok (by k_asm) (by k_asm) (by k_asm) (by k_asm) (by k_asm) rfl ⟨by (repeat (first | assumption | exact List.Mem.head _ | refine' List.Mem.tail _ ?_)), by (repeat (first | assumption | exact List.Mem.head _ | refine' List.Mem.tail _ ?_)), by (repeat (first | assumption | exact List.Mem.head _ | refine' List.Mem.tail _ ?_)), B1⟩ hx (fun k => rfl) (by (first | decide | decide +kernel | (((try dsimp only [units_in1, units_deeper, Around.mark_units, units_caller, depth_under_make, depth_under_kw, units_under_make, depth_in1, depth_deeper, depth_caller]); (try dsimp only [ktrTop]); first | with_reducible exact Mine.rB1 (by assumption) rfl | with_reducible exact Mine.rC1 (by assumption) rfl | with_reducible exact Mine.rB2 (by assumption) rfl | with_reducible exact Mine.rC2 (by assumption) rfl | with_reducible exact Mine.rB0 (by assumption) | with_reducible exact Mine.rC0 (by assumption) | exact Mine.rm1 (by assumption) rfl | exact Mine.rm2 (by assumption) rfl | exact Mine.rm3 (by assumption) rfl | exact Mine.rm0 (by assumption) | (have hcL9 := cLine_is; omega (config := {})))))) (by (first | decide | decide +kernel | (((try dsimp only [units_in1, units_deeper, Around.mark_units, units_caller, depth_under_make, depth_under_kw, units_under_make, depth_in1, depth_deeper, depth_caller]); (try dsimp only [ktrTop]); first | with_reducible exact Mine.rB1 (by assumption) rfl | with_reducible exact Mine.rC1 (by assumption) rfl | with_reducible exact Mine.rB2 (by assumption) rfl | with_reducible exact Mine.rC2 (by assumption) rfl | with_reducible exact Mine.rB0 (by assumption) | with_reducible exact Mine.rC0 (by assumption) | exact Mine.rm1 (by assumption) rfl | exact Mine.rm2 (by assumption) rfl | exact Mine.rm3 (by assumption) rfl | exact Mine.rm0 (by assumption) | (have hcL9 := cLine_is; omega (config := {})))))) ?_
  intro h14 tk14 F14 N14
  (repeat' ((fail_if_success (with_reducible show wpAny _ _ (call (Value.ref _) _) _ _ _)); (fail_if_success (with_reducible show wpAny _ _ (pyIter _) _ _ _)); (fail_if_success (with_reducible show LoopStepV _ _ _ _ _ _ _ _ _ _)); first | (k_unfold; (try dsimp only)) | (with_reducible refine wpAny_execs_nil ?_; (try dsimp only)) | walk1 | (dsimp only; walk1) | (dsimp only [List.cons_append, List.nil_append]; walk1) | fail "no step"))
  with_unfolding_all refine xor_ok (by k_asm) (by k_asm) (by k_asm) (by k_asm) (by k_asm) rfl ⟨by (repeat (first | assumption | exact List.Mem.head _ | refine' List.Mem.tail _ ?_)), by (repeat (first | assumption | exact List.Mem.head _ | refine' List.Mem.tail _ ?_)), by (repeat (first | assumption | exact List.Mem.head _ | refine' List.Mem.tail _ ?_)), B1⟩ ⟨by (repeat (first | assumption | exact List.Mem.head _ | refine' List.Mem.tail _ ?_)), by (repeat (first | assumption | exact List.Mem.head _ | refine' List.Mem.tail _ ?_)), by (repeat (first | assumption | exact List.Mem.head _ | refine' List.Mem.tail _ ?_)), B2⟩ hb21 (by (first | decide | decide +kernel | (((try dsimp only [units_in1, units_deeper, Around.mark_units, units_caller, depth_under_make, depth_under_kw, units_under_make, depth_in1, depth_deeper, depth_caller]); (try dsimp only [ktrTop]); first | with_reducible exact Mine.rB1 (by assumption) rfl | with_reducible exact Mine.rC1 (by assumption) rfl | with_reducible exact Mine.rB2 (by assumption) rfl | with_reducible exact Mine.rC2 (by assumption) rfl | with_reducible exact Mine.rB0 (by assumption) | with_reducible exact Mine.rC0 (by assumption) | exact Mine.rm1 (by assumption) rfl | exact Mine.rm2 (by assumption) rfl | exact Mine.rm3 (by assumption) rfl | exact Mine.rm0 (by assumption) | (have hcL9 := cLine_is; omega (config := {})))))) (by (first | decide | decide +kernel | (((try dsimp only [units_in1, units_deeper, Around.mark_units, units_caller, depth_under_make, depth_under_kw, units_under_make, depth_in1, depth_deeper, depth_caller]); (try dsimp only [ktrTop]); first | with_reducible exact Mine.rB1 (by assumption) rfl | with_reducible exact Mine.rC1 (by assumption) rfl | with_reducible exact Mine.rB2 (by assumption) rfl | with_reducible exact Mine.rC2 (by assumption) rfl | with_reducible exact Mine.rB0 (by assumption) | with_reducible exact Mine.rC0 (by assumption) | exact Mine.rm1 (by assumption) rfl | exact Mine.rm2 (by assumption) rfl | exact Mine.rm3 (by assumption) rfl | exact Mine.rm0 (by assumption) | (have hcL9 := cLine_is; omega (config := {})))))) ?_
  intro h15 tk15 x15 d15 b15 o15 u15a u15b u15c F15 N15 B15 l15a l15b l15c
  refine cmpBack_ref ?_
  (repeat' ((fail_if_success (with_reducible show wpAny _ _ (call (Value.ref _) _) _ _ _)); (fail_if_success (with_reducible show wpAny _ _ (pyIter _) _ _ _)); (fail_if_success (with_reducible show LoopStepV _ _ _ _ _ _ _ _ _ _)); first | (k_unfold; (try dsimp only)) | (with_reducible refine wpAny_execs_nil ?_; (try dsimp only)) | walk1 | (dsimp only; walk1) | (dsimp only [List.cons_append, List.nil_append]; walk1) | fail "no step"))
  rw [bitXor_nat]
  with_unfolding_all refine back_ok (by k_asm) (by k_asm) (by k_asm) (by k_asm) (by k_asm) rfl ⟨by (repeat (first | assumption | exact List.Mem.head _ | refine' List.Mem.tail _ ?_)), by (repeat (first | assumption | exact List.Mem.head _ | refine' List.Mem.tail _ ?_)), by (repeat (first | assumption | exact List.Mem.head _ | refine' List.Mem.tail _ ?_)), B15⟩ (Nat.xor_lt_two_pow hx hy) (fun k => by rw [Nat.testBit_xor]) (by (first | decide | decide +kernel | (((try dsimp only [units_in1, units_deeper, Around.mark_units, units_caller, depth_under_make, depth_under_kw, units_under_make, depth_in1, depth_deeper, depth_caller]); (try dsimp only [ktrTop]); first | with_reducible exact Mine.rB1 (by assumption) rfl | with_reducible exact Mine.rC1 (by assumption) rfl | with_reducible exact Mine.rB2 (by assumption) rfl | with_reducible exact Mine.rC2 (by assumption) rfl | with_reducible exact Mine.rB0 (by assumption) | with_reducible exact Mine.rC0 (by assumption) | exact Mine.rm1 (by assumption) rfl | exact Mine.rm2 (by assumption) rfl | exact Mine.rm3 (by assumption) rfl | exact Mine.rm0 (by assumption) | (have hcL9 := cLine_is; omega (config := {})))))) (by (first | decide | decide +kernel | (((try dsimp only [units_in1, units_deeper, Around.mark_units, units_caller, depth_under_make, depth_under_kw, units_under_make, depth_in1, depth_deeper, depth_caller]); (try dsimp only [ktrTop]); first | with_reducible exact Mine.rB1 (by assumption) rfl | with_reducible exact Mine.rC1 (by assumption) rfl | with_reducible exact Mine.rB2 (by assumption) rfl | with_reducible exact Mine.rC2 (by assumption) rfl | with_reducible exact Mine.rB0 (by assumption) | with_reducible exact Mine.rC0 (by assumption) | exact Mine.rm1 (by assumption) rfl | exact Mine.rm2 (by assumption) rfl | exact Mine.rm3 (by assumption) rfl | exact Mine.rm0 (by assumption) | (have hcL9 := cLine_is; omega (config := {})))))) ?_
  intro h16 tk16 F16 N16
  replace N16 := news_drop3 N16
  (repeat' ((fail_if_success (with_reducible show wpAny _ _ (call (Value.ref _) _) _ _ _)); (fail_if_success (with_reducible show wpAny _ _ (pyIter _) _ _ _)); (fail_if_success (with_reducible show LoopStepV _ _ _ _ _ _ _ _ _ _)); first | (k_unfold; (try dsimp only)) | (with_reducible refine wpAny_execs_nil ?_; (try dsimp only)) | walk1 | (dsimp only; walk1) | (dsimp only [List.cons_append, List.nil_append]; walk1) | fail "no step"))
  rename Fr _ _ _ _ => F17
  rename News _ _ _ _ => N17
  refine for_list (vs := [_, _, _, _, _]) (LJ x1 x2 X Y t1 t2 _) (by with_unfolding_all rfl) (.head _) F17 N17 ⟨by with_unfolding_all rfl, by with_unfolding_all rfl, by with_unfolding_all rfl, by with_unfolding_all rfl, rfl⟩ ?_ ?_
  · intro i v m5 news5 h5 tk5 I oI hv hJ hoff hne F5 N5
    obtain ⟨e1, e2, e3, e4, hq⟩ := hJ
    obtain ⟨k, t, rfl, hk⟩ := bits_item hv
    subst hq
    have F6 := fr_name (x := "one") (fr_name (x := "x") F5 e3) (by with_unfolding_all exact e1)
    clear F17 N17
    (repeat' ((fail_if_success (with_reducible show wpAny _ _ (call (Value.ref _) _) _ _ _)); (fail_if_success (with_reducible show wpAny _ _ (compareOp CmpOp.In _ _) _ _ _)); (fail_if_success (with_reducible show LoopStepV _ _ _ _ _ _ _ _ _ _)); first | walk1 | (k_unfold) | fail "no step"))
    k_dflt (refine' in_K ?bF ?bX ?bI ?bS ?bG ?_; (case bF => k_asm); (case bX => k_asm); (case bI => k_inst); (case bS => k_is); (case bG => k_is); k_whole)
    with_unfolding_all refine cont_ok (by k_asm) (by k_asm) (by k_asm) (by k_asm) (by k_asm) rfl ⟨by (repeat (first | assumption | exact List.Mem.head _ | refine' List.Mem.tail _ ?_)), by (repeat (first | assumption | exact List.Mem.head _ | refine' List.Mem.tail _ ?_)), by (repeat (first | assumption | exact List.Mem.head _ | refine' List.Mem.tail _ ?_)), B1⟩ (by (first | decide | decide +kernel | (((try dsimp only [units_in1, units_deeper, Around.mark_units, units_caller, depth_under_make, depth_under_kw, units_under_make, depth_in1, depth_deeper, depth_caller]); (try dsimp only [ktrTop]); first | with_reducible exact Mine.rB1 (by assumption) rfl | with_reducible exact Mine.rC1 (by assumption) rfl | with_reducible exact Mine.rB2 (by assumption) rfl | with_reducible exact Mine.rC2 (by assumption) rfl | with_reducible exact Mine.rB0 (by assumption) | with_reducible exact Mine.rC0 (by assumption) | exact Mine.rm1 (by assumption) rfl | exact Mine.rm2 (by assumption) rfl | exact Mine.rm3 (by assumption) rfl | exact Mine.rm0 (by assumption) | (have hcL9 := cLine_is; omega (config := {})))))) (by (first | decide | decide +kernel | (((try dsimp only [units_in1, units_deeper, Around.mark_units, units_caller, depth_under_make, depth_under_kw, units_under_make, depth_in1, depth_deeper, depth_caller]); (try dsimp only [ktrTop]); first | with_reducible exact Mine.rB1 (by assumption) rfl | with_reducible exact Mine.rC1 (by assumption) rfl | with_reducible exact Mine.rB2 (by assumption) rfl | with_reducible exact Mine.rC2 (by assumption) rfl | with_reducible exact Mine.rB0 (by assumption) | with_reducible exact Mine.rC0 (by assumption) | exact Mine.rm1 (by assumption) rfl | exact Mine.rm2 (by assumption) rfl | exact Mine.rm3 (by assumption) rfl | exact Mine.rm0 (by assumption) | (have hcL9 := cLine_is; omega (config := {})))))) ?_
    intro h18 tk18 F18 N18
    (repeat' ((fail_if_success (with_reducible show wpAny _ _ (call (Value.ref _) _) _ _ _)); (fail_if_success (with_reducible show wpAny _ _ (compareOp CmpOp.In _ _) _ _ _)); (fail_if_success (with_reducible show LoopStepV _ _ _ _ _ _ _ _ _ _)); first | walk1 | (k_unfold) | fail "no step"))
    · rename (_ != _) = true => hb
      rw [bit_same] at hb
      cases hb
    · exact LoopStepV.next (LoopStepU.intro F18 N18 (fun p hp => by rw [List.mem_singleton]; exact hoff p hp) ⟨by with_unfolding_all rfl, by with_unfolding_all exact e2, by with_unfolding_all rfl, by with_unfolding_all exact e4, rfl⟩)
  · intro m5 news5 h5 tk5 hJ F5 N5
    obtain ⟨e1, e2, e3, e4, hq⟩ := hJ
    subst hq
    have F6 := fr_name (x := "one") (fr_name (x := "two") (fr_name (x := "x") (fr_name (x := "y") F5 e4) (by with_unfolding_all exact e3)) (by with_unfolding_all exact e2)) (by with_unfolding_all exact e1)
    clear F17 N17
    show wpAny _ _ (execs _ _) _ _ _
    (repeat' ((fail_if_success (with_reducible show wpAny _ _ (call (Value.ref _) _) _ _ _)); (fail_if_success (with_reducible show wpAny _ _ (compareOp CmpOp.In _ _) _ _ _)); (fail_if_success (with_reducible show LoopStepV _ _ _ _ _ _ _ _ _ _)); first | walk1 | (k_unfold) | fail "no step"))
    with_unfolding_all refine is_ok (by k_asm) (by k_asm) (by k_asm) (by k_asm) (by k_asm) rfl ⟨by (repeat (first | assumption | exact List.Mem.head _ | refine' List.Mem.tail _ ?_)), by (repeat (first | assumption | exact List.Mem.head _ | refine' List.Mem.tail _ ?_)), by (repeat (first | assumption | exact List.Mem.head _ | refine' List.Mem.tail _ ?_)), B1⟩ hx (fun k => rfl) (by (first | decide | decide +kernel | (((try dsimp only [units_in1, units_deeper, Around.mark_units, units_caller, depth_under_make, depth_under_kw, units_under_make, depth_in1, depth_deeper, depth_caller]); (try dsimp only [ktrTop]); first | with_reducible exact Mine.rB1 (by assumption) rfl | with_reducible exact Mine.rC1 (by assumption) rfl | with_reducible exact Mine.rB2 (by assumption) rfl | with_reducible exact Mine.rC2 (by assumption) rfl | with_reducible exact Mine.rB0 (by assumption) | with_reducible exact Mine.rC0 (by assumption) | exact Mine.rm1 (by assumption) rfl | exact Mine.rm2 (by assumption) rfl | exact Mine.rm3 (by assumption) rfl | exact Mine.rm0 (by assumption) | (have hcL9 := cLine_is; omega (config := {})))))) (by (first | decide | decide +kernel | (((try dsimp only [units_in1, units_deeper, Around.mark_units, units_caller, depth_under_make, depth_under_kw, units_under_make, depth_in1, depth_deeper, depth_caller]); (try dsimp only [ktrTop]); first | with_reducible exact Mine.rB1 (by assumption) rfl | with_reducible exact Mine.rC1 (by assumption) rfl | with_reducible exact Mine.rB2 (by assumption) rfl | with_reducible exact Mine.rC2 (by assumption) rfl | with_reducible exact Mine.rB0 (by assumption) | with_reducible exact Mine.rC0 (by assumption) | exact Mine.rm1 (by assumption) rfl | exact Mine.rm2 (by assumption) rfl | exact Mine.rm3 (by assumption) rfl | exact Mine.rm0 (by assumption) | (have hcL9 := cLine_is; omega (config := {})))))) ?_
    intro h19 tk19 F19 N19
    (repeat' ((fail_if_success (with_reducible show wpAny _ _ (call (Value.ref _) _) _ _ _)); (fail_if_success (with_reducible show wpAny _ _ (compareOp CmpOp.In _ _) _ _ _)); (fail_if_success (with_reducible show LoopStepV _ _ _ _ _ _ _ _ _ _)); first | walk1 | (k_unfold) | fail "no step"))
    with_unfolding_all refine is_ok (by k_asm) (by k_asm) (by k_asm) (by k_asm) (by k_asm) rfl ⟨by (repeat (first | assumption | exact List.Mem.head _ | refine' List.Mem.tail _ ?_)), by (repeat (first | assumption | exact List.Mem.head _ | refine' List.Mem.tail _ ?_)), by (repeat (first | assumption | exact List.Mem.head _ | refine' List.Mem.tail _ ?_)), B2⟩ hy (fun k => rfl) (by (first | decide | decide +kernel | (((try dsimp only [units_in1, units_deeper, Around.mark_units, units_caller, depth_under_make, depth_under_kw, units_under_make, depth_in1, depth_deeper, depth_caller]); (try dsimp only [ktrTop]); first | with_reducible exact Mine.rB1 (by assumption) rfl | with_reducible exact Mine.rC1 (by assumption) rfl | with_reducible exact Mine.rB2 (by assumption) rfl | with_reducible exact Mine.rC2 (by assumption) rfl | with_reducible exact Mine.rB0 (by assumption) | with_reducible exact Mine.rC0 (by assumption) | exact Mine.rm1 (by assumption) rfl | exact Mine.rm2 (by assumption) rfl | exact Mine.rm3 (by assumption) rfl | exact Mine.rm0 (by assumption) | (have hcL9 := cLine_is; omega (config := {})))))) (by (first | decide | decide +kernel | (((try dsimp only [units_in1, units_deeper, Around.mark_units, units_caller, depth_under_make, depth_under_kw, units_under_make, depth_in1, depth_deeper, depth_caller]); (try dsimp only [ktrTop]); first | with_reducible exact Mine.rB1 (by assumption) rfl | with_reducible exact Mine.rC1 (by assumption) rfl | with_reducible exact Mine.rB2 (by assumption) rfl | with_reducible exact Mine.rC2 (by assumption) rfl | with_reducible exact Mine.rB0 (by assumption) | with_reducible exact Mine.rC0 (by assumption) | exact Mine.rm1 (by assumption) rfl | exact Mine.rm2 (by assumption) rfl | exact Mine.rm3 (by assumption) rfl | exact Mine.rm0 (by assumption) | (have hcL9 := cLine_is; omega (config := {})))))) ?_
    intro h20 tk20 F20 N20
    (repeat' ((fail_if_success (with_reducible show wpAny _ _ (call (Value.ref _) _) _ _ _)); (fail_if_success (with_reducible show wpAny _ _ (compareOp CmpOp.In _ _) _ _ _)); (fail_if_success (with_reducible show LoopStepV _ _ _ _ _ _ _ _ _ _)); first | walk1 | (k_unfold) | fail "no step"))
    first
      | (k_end; kc_close)
      | (k_end; wrow_close)
      | wrow_close

end D_Law
end Mine
end

theorem PySem.Challenge.cw_iy0007_01_holds : PySem.Challenge.rw_iy0007_01.Holds := by
  exact Mine.D_Law.law_holds
