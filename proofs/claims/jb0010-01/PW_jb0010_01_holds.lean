import PyProof.Rows.All
import Wide.All
import OpenK.AllK
import Wide.FinOn
import PySem.Challenge.RW_jb0010_01
open PySem PySem.W PyProof.Rows PySem.Spec PySem.Calls
set_option Elab.async false
set_option maxRecDepth 100000
set_option maxHeartbeats 0
set_option rowWalk.seconds 0
set_option linter.unusedVariables false
set_option linter.unusedSimpArgs false
namespace Mine
set_option synthInstance.maxSize 1 in
open_top hd for PySem.Challenge.rw_jb0010_01
local macro_rules | `(tactic| walk_at "call ref") => `(tactic| k_extra "m call ref")
local macro_rules | `(tactic| walk_at "eval Call") => `(tactic| k_extra "m eval Call")
local macro_rules | `(tactic| walk_at "ite") => `(tactic| k_extra "m ite")
local macro_rules | `(tactic| walk_at "storeName") => `(tactic| k_extra "m storeName")
local macro_rules | `(tactic| walk_at "eval ListComp") => `(tactic| k_extra "m eval ListComp")
local macro_rules | `(tactic| walk_at "compareOp In int ref") => `(tactic| k_extra "m compareOp In int ref")
local macro_rules | `(tactic| walk_at "call builtin:list.append") => `(tactic| k_extra "m call builtin:list.append")
local macro_rules | `(tactic| walk_at "UnrEnd") => `(tactic| k_extra "m UnrEnd")
local macro_rules | `(tactic| walk_at "RangeRest") => `(tactic| k_extra "m RangeRest")
local macro_rules | `(tactic| walk_at "pyIter ref") => `(tactic| k_extra "m pyIter ref")
local macro_rules | `(tactic| walk_at "compareOp Lt ref ref") => `(tactic| k_extra "m compareOp Lt ref ref")
local macro_rules | `(tactic| walk_at "compareOp NotEq bool bool") => `(tactic| k_extra "m compareOp NotEq bool bool")
local macro_rules | `(tactic| walk_at "execs cons") => `(tactic| k_extra "m execs cons")
@[irreducible] def gLeap (y : Int) : Bool := decide (y % 4 = 0 ∧ (y % 100 ≠ 0 ∨ y % 400 = 0))
def gDim (y m : Int) : Int := if m = 2 then (if gLeap y then 29 else 28) else if m = 4 ∨ m = 6 ∨ m = 9 ∨ m = 11 then 30 else 31
def gTo (y m d : Int) : Int := 1721425 + 365 * (y - 1) + (y - 1) / 4 - (y - 1) / 100 + (y - 1) / 400 + ((367 * m - 362) / 12 + (if m ≤ 2 then 0 else if gLeap y then -1 else -2) + d)
def gBase (n : Int) : Int := (n - 1721426).fdiv 146097 * 400 + ((n - 1721426).fmod 146097).fdiv 36524 * 100 + (((n - 1721426).fmod 146097).fmod 36524).fdiv 1461 * 4 + ((((n - 1721426).fmod 146097).fmod 36524).fmod 1461).fdiv 365
def gY (n : Int) : Int := if ((n - 1721426).fmod 146097).fdiv 36524 = 4 then gBase n else if ((((n - 1721426).fmod 146097).fmod 36524).fmod 1461).fdiv 365 = 4 then gBase n else gBase n + 1
def gYd (n : Int) : Int := n - gTo (gY n) 1 1
def gM (n : Int) : Int := ((gYd n + (if gYd n < 58 + (if gLeap (gY n) = true then 1 else 0) then 0 else if gLeap (gY n) = true then 1 else 2)) * 12 + 373).fdiv 367
def gD (n : Int) : Int := n - gTo (gY n) (gM n) 1 + 1
theorem fd (a : Int) {b : Int} (h : 0 ≤ b) : a.fdiv b = a / b := Int.fdiv_eq_ediv_of_nonneg _ h
theorem fm (a : Int) {b : Int} (h : 0 ≤ b) : a.fmod b = a % b := Int.fmod_eq_emod_of_nonneg _ h
theorem leap_iff (y : Int) : gLeap y = true ↔ (y % 4 = 0 ∧ (y % 100 ≠ 0 ∨ y % 400 = 0)) := by simp [gLeap]
theorem g_first (q c k i : Int) (hc : 0 ≤ c ∧ c ≤ 3) (hk : 0 ≤ k ∧ k ≤ 24) (hi : 0 ≤ i ∧ i ≤ 3) : gTo (400 * q + 100 * c + 4 * k + i + 1) 1 1 = 1721426 + 146097 * q + 36524 * c + 1461 * k + 365 * i := by
  have a1 : (400 * q + 100 * c + 4 * k + i + 1 - 1) / 4 = 100 * q + 25 * c + k := by omega
  have a2 : (400 * q + 100 * c + 4 * k + i + 1 - 1) / 100 = 4 * q + c := by omega
  have a3 : (400 * q + 100 * c + 4 * k + i + 1 - 1) / 400 = q := by omega
  unfold gTo
  rw [a1, a2, a3, if_pos (by omega)]
  omega
theorem g_leap (q c k i : Int) (hc : 0 ≤ c ∧ c ≤ 3) (hk : 0 ≤ k ∧ k ≤ 24) (hi : 0 ≤ i ∧ i ≤ 3) : gLeap (400 * q + 100 * c + 4 * k + i + 1) = true ↔ (i = 3 ∧ (k ≤ 23 ∨ c = 3)) := by
  rw [leap_iff]; omega
theorem gdec (n : Int) : ∃ q c k i r : Int, (0 ≤ c ∧ c ≤ 3) ∧ (0 ≤ k ∧ k ≤ 24) ∧ (0 ≤ i ∧ i ≤ 3) ∧ gY n = 400 * q + 100 * c + 4 * k + i + 1 ∧ n = 1721426 + 146097 * q + 36524 * c + 1461 * k + 365 * i + r ∧ 0 ≤ r ∧ r ≤ 365 ∧ (r = 365 → i = 3 ∧ (k ≤ 23 ∨ c = 3)) := by
  unfold gY gBase
  simp (disch := omega) only [fd, fm]
  generalize hq : (n - 1721426) / 146097 = q
  generalize hr : (n - 1721426) % 146097 = r
  generalize hc : r / 36524 = c
  generalize hs : r % 36524 = s
  generalize hk : s / 1461 = k
  generalize ht : s % 1461 = t
  generalize hi : t / 365 = i
  have h1 : n = 1721426 + 146097 * q + r := by omega
  have h2 : 0 ≤ r ∧ r < 146097 := by omega
  have h3 : r = 36524 * c + s ∧ 0 ≤ s ∧ s < 36524 := by omega
  have h4 : s = 1461 * k + t ∧ 0 ≤ t ∧ t < 1461 := by omega
  have h5 : 365 * i ≤ t ∧ t < 365 * i + 365 := by omega
  clear hq hr hc hs hk ht hi
  split
  · exact ⟨q, 3, 24, 3, 365, by omega, by omega, by omega, by omega, by omega, by omega, by omega, by omega⟩
  · split
    · exact ⟨q, c, k, 3, 365, by omega, by omega, by omega, by omega, by omega, by omega, by omega, by omega⟩
    · exact ⟨q, c, k, i, t - 365 * i, by omega, by omega, by omega, by omega, by omega, by omega, by omega, by omega⟩
theorem gYd_r (n : Int) : 0 ≤ gYd n ∧ gYd n ≤ 365 ∧ (gYd n = 365 → gLeap (gY n) = true) := by
  obtain ⟨q, c, k, i, r, hc, hk, hi, hy, hn, h0, h1, h2⟩ := gdec n
  unfold gYd
  rw [hy, g_first q c k i hc hk hi]
  refine ⟨by omega, by omega, fun h => ?_⟩
  rw [g_leap q c k i hc hk hi]
  exact h2 (by omega)
theorem gTo_from (n : Int) : gTo (gY n) (gM n) (gD n) = n := by
  unfold gD gTo; omega
@[irreducible] def jLeap (y : Int) : Bool := decide (y % 4 = 0)
def jDim (y m : Int) : Int := if m = 2 then (if jLeap y then 29 else 28) else if m = 4 ∨ m = 6 ∨ m = 9 ∨ m = 11 then 30 else 31
def jTo (y m d : Int) : Int := if m ≤ 2 then (1461 * (y - 1 + 4716)).fdiv 4 + (306001 * (m + 12 + 1)).fdiv 10000 + d - 1524 else (1461 * (y + 4716)).fdiv 4 + (306001 * (m + 1)).fdiv 10000 + d - 1524
def jC (n : Int) : Int := (20 * (n + 1524) - 2442).fdiv 7305
def jF (n : Int) : Int := (1461 * jC n).fdiv 4
def jE (n : Int) : Int := ((n + 1524 - jF n) * 10000).fdiv 306001
def jM (n : Int) : Int := if jE n < 14 then jE n - 1 else jE n - 13
def jY (n : Int) : Int := if jM n > 2 then jC n - 4716 else jC n - 4715
def jD (n : Int) : Int := n + 1524 - jF n - (306001 * jE n).fdiv 10000
def iTo (y m d : Int) : Int := d + -(-59 * (m - 1)).fdiv 2 + (y - 1) * 354 + (3 + 11 * y).fdiv 30 + 1948440 - 1
def iY (n : Int) : Int := (30 * (n - 1948440) + 10646).fdiv 10631
def iM (n : Int) : Int := if -(-2 * (n - (29 + iTo (iY n) 1 1))).fdiv 59 + 1 < 12 then -(-2 * (n - (29 + iTo (iY n) 1 1))).fdiv 59 + 1 else 12
def iD (n : Int) : Int := n - iTo (iY n) (iM n) 1 + 1
def cTo (y m d : Int) : Int := d + (m - 1) * 30 + (y - 1) * 365 + y.fdiv 4 + 1825030 - 1
def cY (n : Int) : Int := (4 * (n - 1825030) + 1463).fdiv 1461
def cYd (n : Int) : Int := n - cTo (cY n) 1 1
def cM (n : Int) : Int := (cYd n).fdiv 30 + 1
def cD (n : Int) : Int := cYd n - (cM n - 1) * 30 + 1
def xStart (y : Int) : Int := gTo (y + 78) 3 (22 - (if gLeap (y + 78) = true then 1 else 0))
def xTo (y m d : Int) : Int :=
  if m = 1 then xStart y + (d - 1)
  else if m < 8 then xStart y + (if gLeap (y + 78) = true then 31 else 30) + min (m - 2) 5 * 31 + (d - 1)
  else xStart y + (if gLeap (y + 78) = true then 31 else 30) + min (m - 2) 5 * 31 + (m - 7) * 30 + (d - 1)
def xCa (n : Int) : Int := if gLeap (gY n) = true then 31 else 30
def xYd0 (n : Int) : Int := n - gTo (gY n) 1 1
def xY (n : Int) : Int := if xYd0 n < 80 then gY n - 78 - 1 else gY n - 78
def xYd (n : Int) : Int := if xYd0 n < 80 then xYd0 n + (xCa n + 31 * 5 + 30 * 3 + 10 + 80) - 80 else xYd0 n - 80
def xM (n : Int) : Int := if xYd n < xCa n then 1 else if xYd n - xCa n < 31 * 5 then (xYd n - xCa n).fdiv 31 + 2 else (xYd n - xCa n - 31 * 5).fdiv 30 + 7
def xD (n : Int) : Int := if xYd n < xCa n then xYd n + 1 else if xYd n - xCa n < 31 * 5 then (xYd n - xCa n).fmod 31 + 1 else (xYd n - xCa n - 31 * 5).fmod 30 + 1
theorem jE_r (n : Int) : 4 ≤ jE n ∧ jE n ≤ 15 := by
  unfold jE jF jC
  simp (disch := omega) only [fd, fm]
  omega
theorem jp1 (n : Int) (h : jE n < 14) : jY n = jC n - 4716 ∧ jM n = jE n - 1 := by
  have h2 := jE_r n
  have hm : jM n = jE n - 1 := by unfold jM; rw [if_pos h]
  refine ⟨?_, hm⟩
  unfold jY; rw [if_pos (by omega)]
theorem jp2 (n : Int) (h : ¬ jE n < 14) : jY n = jC n - 4715 ∧ jM n = jE n - 13 := by
  have h2 := jE_r n
  have hm : jM n = jE n - 13 := by unfold jM; rw [if_neg h]
  refine ⟨?_, hm⟩
  unfold jY; rw [if_neg (by omega)]
@[irreducible] def iLong (y : Int) : Bool := decide ((y - 1) % 30 = 1 ∨ (y - 1) % 30 = 4 ∨ (y - 1) % 30 = 6 ∨ (y - 1) % 30 = 9 ∨ (y - 1) % 30 = 12 ∨ (y - 1) % 30 = 15 ∨ (y - 1) % 30 = 17 ∨ (y - 1) % 30 = 20 ∨ (y - 1) % 30 = 23 ∨ (y - 1) % 30 = 25 ∨ (y - 1) % 30 = 28)
@[irreducible] def cLong (y : Int) : Bool := decide (y % 4 = 3)
def b2i (b : Bool) : Int := if b = true then 1 else 0
def gFirst (y : Int) : Int := gTo y 1 1
def jFirst (y : Int) : Int := 1461 * (y + 4712).fdiv 4 + 365 * (y + 4712).fmod 4 + (if (y + 4712).fmod 4 > 0 then 1 else 0)
def iPast (p : Int) : Int := (if 2 ≤ p then 1 else 0) + (if 5 ≤ p then 1 else 0) + (if 7 ≤ p then 1 else 0) + (if 10 ≤ p then 1 else 0) + (if 13 ≤ p then 1 else 0) + (if 16 ≤ p then 1 else 0) + (if 18 ≤ p then 1 else 0) + (if 21 ≤ p then 1 else 0) + (if 24 ≤ p then 1 else 0) + (if 26 ≤ p then 1 else 0) + (if 29 ≤ p then 1 else 0)
def iFirst (y : Int) : Int := 1948440 + 10631 * (y - 1).fdiv 30 + 354 * (y - 1).fmod 30 + iPast ((y - 1).fmod 30)
def cFirst (y : Int) : Int := 1825030 + 1461 * (y - 1).fdiv 4 + 365 * (y - 1).fmod 4 + (if (y - 1).fmod 4 > 2 then 1 else 0)
theorem cnt4 (n : Nat) : (((List.range n).map (fun i : Nat => (0 : Int) + (i : Int) * 4)).filter (fun b => decide (b = 0 ∨ b.fmod 100 ≠ 0))).length = n - (n - 1) / 25 := by
  induction n with
  | zero => rfl
  | succ n ih =>
    rw [List.range_succ, List.map_append, List.filter_append, List.length_append, ih]
    simp only [List.map_cons, List.map_nil]
    rw [List.filter_cons]
    have hf : ((0 : Int) + (n : Int) * 4).fmod 100 = ((0 : Int) + (n : Int) * 4) % 100 := fm _ (by omega)
    rw [hf]
    by_cases h : (0 : Int) + (n : Int) * 4 = 0 ∨ ((0 : Int) + (n : Int) * 4) % 100 ≠ 0
    · rw [if_pos (decide_eq_true h)]
      simp only [List.filter_nil, List.length_cons, List.length_nil]
      omega
    · rw [if_neg (by rw [decide_eq_true_eq]; exact h)]
      simp only [List.filter_nil, List.length_nil]
      omega
theorem gfirst_eq (y : Int) (n : Nat) (hn : n = ((((y - 2000).fmod 400 + 3) / 4)).toNat) : 2451545 + 146097 * (y - 2000).fdiv 400 + 365 * (y - 2000).fmod 400 + ((n - (n - 1) / 25 : Nat) : Int) = gFirst y := by
  unfold gFirst gTo
  rw [if_pos (by omega)]
  rw [fd _ (by omega), fm _ (by omega)] at *
  omega
theorem ilen_fin : ∀ q : Fin 30, ((([2, 5, 7, 10, 13, 16, 18, 21, 24, 26, 29] : List Int).filter (fun b => decide (b ≤ ((q.val : Nat) : Int)))).length : Int) = iPast ((q.val : Nat) : Int) := by decide +kernel
theorem ilen (p : Int) (h0 : 0 ≤ p) (h1 : p < 30) : ((([2, 5, 7, 10, 13, 16, 18, 21, 24, 26, 29] : List Int).filter (fun b => decide (b ≤ p))).length : Int) = iPast p := by
  have := ilen_fin ⟨p.toNat, by omega⟩
  rw [show ((⟨p.toNat, by omega⟩ : Fin 30).val : Int) = p from Int.toNat_of_nonneg h0] at this
  exact this
def iLr (r : Int) : Bool := decide (r = 1 ∨ r = 4 ∨ r = 6 ∨ r = 9 ∨ r = 12 ∨ r = 15 ∨ r = 17 ∨ r = 20 ∨ r = 23 ∨ r = 25 ∨ r = 28)
theorem iany_fin : ∀ q : Fin 30, ([2, 5, 7, 10, 13, 16, 18, 21, 24, 26, 29] : List Int).any (fun z => z == ((q.val : Nat) : Int) + 1) = iLr ((q.val : Nat) : Int) := by decide +kernel
theorem iany (x : Int) : ([2, 5, 7, 10, 13, 16, 18, 21, 24, 26, 29] : List Int).any (fun z => z == x.fmod 30 + 1) = decide (x % 30 = 1 ∨ x % 30 = 4 ∨ x % 30 = 6 ∨ x % 30 = 9 ∨ x % 30 = 12 ∨ x % 30 = 15 ∨ x % 30 = 17 ∨ x % 30 = 20 ∨ x % 30 = 23 ∨ x % 30 = 25 ∨ x % 30 = 28) := by
  rw [fm _ (by omega)]
  have h0 : 0 ≤ x % 30 ∧ x % 30 < 30 := by omega
  generalize x % 30 = r at *
  have := iany_fin ⟨r.toNat, by omega⟩
  rw [show ((⟨r.toNat, by omega⟩ : Fin 30).val : Int) = r from Int.toNat_of_nonneg h0.1] at this
  exact this
theorem gLeap_100 (y : Int) (h : y.fmod 100 = 0) : (y.fmod 400 == 0) = gLeap y := by
  rw [fm _ (by omega)] at *; unfold gLeap; rw [Bool.eq_iff_iff]; simp only [beq_iff_eq, decide_eq_true_eq]; omega
theorem gLeap_4 (y : Int) (h : y.fmod 100 ≠ 0) : (y.fmod 4 == 0) = gLeap y := by
  rw [fm _ (by omega)] at *; unfold gLeap; rw [Bool.eq_iff_iff]; simp only [beq_iff_eq, decide_eq_true_eq]; omega
theorem b2i_t {b : Bool} (h : b = true) : b2i b = 1 := by subst h; rfl
theorem b2i_f {b : Bool} (h : b = false) : b2i b = 0 := by subst h; rfl
theorem b2i_01 (b : Bool) : b2i b = 0 ∨ b2i b = 1 := by cases b <;> decide
def gL (b : Int) : List Int := [31, 28 + b, 31, 30, 31, 30, 31, 31, 30, 31, 30, 31]
def iL (b : Int) : List Int := [30, 29, 30, 29, 30, 29, 30, 29, 30, 29, 30, 29 + b]
def cL (b : Int) : List Int := [30, 30, 30, 30, 30, 30, 30, 30, 30, 30, 30, 30, 5 + b]
def xL (b : Int) : List Int := [30 + b, 31, 31, 31, 31, 31, 30, 30, 30, 30, 30, 30]
structure Facts (F : Int → Int) (l : List Int) (n y m d : Int) : Prop where
  m1 : 1 ≤ m
  m2 : m ≤ l.length
  d1 : 1 ≤ d
  d2 : d ≤ l.getD (m - 1).toNat 0
  eq : F y + (l.take (m - 1).toNat).sum + d - 1 = n
  hi : n < F (y + 1)
theorem fin2 {P : Int → Int → Bool} {N : Int} (f0 : ∀ q : Fin N.toNat, P ((q.val : Nat) : Int) 0 = true) (f1 : ∀ q : Fin (N + 1).toNat, P ((q.val : Nat) : Int) 1 = true) {x b : Int} (hb : b = 0 ∨ b = 1) (h0 : 0 ≤ x) (h1 : x < N + b) : P x b = true := by
  rcases hb with rfl | rfl
  · have := f0 ⟨x.toNat, by omega⟩
    rw [show ((⟨x.toNat, by omega⟩ : Fin N.toNat).val : Int) = x from Int.toNat_of_nonneg h0] at this
    exact this
  · have := f1 ⟨x.toNat, by omega⟩
    rw [show ((⟨x.toNat, by omega⟩ : Fin (N + 1).toNat).val : Int) = x from Int.toNat_of_nonneg h0] at this
    exact this
def Good (l : List Int) (m d z : Int) : Prop := 1 ≤ m ∧ m ≤ l.length ∧ 1 ≤ d ∧ d ≤ l.getD (m - 1).toNat 0 ∧ (l.take (m - 1).toNat).sum + d - 1 = z
def good (l : List Int) (m d z : Int) : Bool := decide (1 ≤ m ∧ m ≤ l.length ∧ 1 ≤ d ∧ d ≤ l.getD (m - 1).toNat 0 ∧ (l.take (m - 1).toNat).sum + d - 1 = z)
theorem facts_of {F : Int → Int} {l : List Int} {n y m d z : Int} (h : Good l m d z) (e : F y + z = n) (hi : n < F (y + 1)) : Facts F l n y m d :=
  ⟨h.1, h.2.1, h.2.2.1, h.2.2.2.1, by have := h.2.2.2.2; omega, hi⟩
def yrM (yd b : Int) : Int := ((yd + (if yd < 58 + b then 0 else 2 - b)) * 12 + 373) / 367
def yrD (yd b : Int) : Int := yd - ((367 * yrM yd b - 362) / 12 + (if yrM yd b ≤ 2 then 0 else b - 2)) + 1
def dimB (m b : Int) : Int := if m = 2 then 28 + b else if m = 4 ∨ m = 6 ∨ m = 9 ∨ m = 11 then 30 else 31
def yrT (yd b : Int) : Bool := good (gL b) (yrM yd b) (yrD yd b) yd && decide (yrD yd b ≤ dimB (yrM yd b) b)
theorem yr0 : ∀ q : Fin (365 : Int).toNat, yrT ((q.val : Nat) : Int) 0 = true := by decide +kernel
theorem yr1 : ∀ q : Fin ((365 : Int) + 1).toNat, yrT ((q.val : Nat) : Int) 1 = true := by decide +kernel
theorem gDim_b (y m : Int) : gDim y m = dimB m (b2i (gLeap y)) := by unfold gDim dimB; cases gLeap y <;> rfl
theorem gM_yr (n : Int) : gM n = yrM (gYd n) (b2i (gLeap (gY n))) := by
  unfold gM yrM; rw [fd _ (by decide)]; cases gLeap (gY n) <;> rfl
theorem gD_yr (n : Int) : gD n = yrD (gYd n) (b2i (gLeap (gY n))) := by
  unfold yrD
  rw [← gM_yr]
  have e : (if gM n ≤ 2 then 0 else b2i (gLeap (gY n)) - 2) = (if gM n ≤ 2 then 0 else if gLeap (gY n) = true then -1 else -2) := by cases gLeap (gY n) <;> rfl
  rw [e]
  unfold gD gYd gTo
  generalize (if gM n ≤ 2 then (0 : Int) else if gLeap (gY n) = true then -1 else -2) = A
  generalize (367 * gM n - 362) / 12 = B
  simp
  omega
theorem gFirst_step (y : Int) : gFirst (y + 1) = gFirst y + 365 + b2i (gLeap y) := by
  have h : gLeap y = true ↔ _ := leap_iff y
  unfold gFirst gTo
  cases hl : gLeap y
  · have h' : ¬ (y % 4 = 0 ∧ (y % 100 ≠ 0 ∨ y % 400 = 0)) := by intro q; rw [h.mpr q] at hl; cases hl
    clear h hl; simp [b2i]; omega
  · have h' := h.mp hl
    clear h hl; simp [b2i]; omega
theorem gFirst_mono (a b : Int) (h : a ≤ b) : gFirst a ≤ gFirst b := by
  unfold gFirst gTo; simp; omega
theorem gYd_b (n : Int) : 0 ≤ gYd n ∧ gYd n < 365 + b2i (gLeap (gY n)) := by
  have h := gYd_r n
  refine ⟨h.1, ?_⟩
  cases hl : gLeap (gY n)
  · have : gYd n ≠ 365 := fun e => by rw [h.2.2 e] at hl; cases hl
    have := h.2.1
    simp only [b2i]; simp; omega
  · have := h.2.1
    simp only [b2i]; simp; omega
theorem gYd_n (n : Int) : gFirst (gY n) + gYd n = n := by unfold gYd gFirst; omega
theorem gTab (n : Int) : Good (gL (b2i (gLeap (gY n)))) (gM n) (gD n) (gYd n) ∧ gD n ≤ gDim (gY n) (gM n) := by
  have t := fin2 (P := yrT) yr0 yr1 (b2i_01 (gLeap (gY n))) (gYd_b n).1 (gYd_b n).2
  rw [gDim_b, gM_yr, gD_yr]
  unfold yrT good at t
  rw [Bool.and_eq_true, decide_eq_true_eq, decide_eq_true_eq] at t
  exact t
theorem gM_spec (n : Int) : (1 ≤ gM n ∧ gM n ≤ 12) ∧ 1 ≤ gD n ∧ gD n ≤ gDim (gY n) (gM n) := by
  have t := gTab n
  exact ⟨⟨t.1.1, t.1.2.1⟩, t.1.2.2.1, t.2⟩
theorem gFacts (n : Int) : Facts gFirst (gL (b2i (gLeap (gY n)))) n (gY n) (gM n) (gD n) :=
  facts_of (gTab n).1 (gYd_n n) (by rw [gFirst_step]; have := (gYd_b n).2; have := gYd_n n; omega)
theorem jdec (n : Int) : ∃ q i x : Int, (0 ≤ i ∧ i ≤ 3) ∧ jC n = 4 * q + i ∧ jF n = 1461 * q + 365 * i ∧ n + 1524 = 1461 * q + 365 * i + x ∧ 123 ≤ x ∧ x ≤ 488 ∧ (x = 488 → i = 3) := by
  unfold jF jC
  simp (disch := omega) only [fd, fm]
  generalize hc : (20 * (n + 1524) - 2442) / 7305 = c
  refine ⟨c / 4, c % 4, n + 1524 - 1461 * (c / 4) - 365 * (c % 4), by omega, by omega, by omega, by omega, by omega, by omega, by omega⟩
theorem jLeap_iff (y : Int) : jLeap y = true ↔ y % 4 = 0 := by simp [jLeap]
theorem jFirst_lin (y : Int) : jFirst y = 365 * (y + 4712) + (y + 4715) / 4 := by
  unfold jFirst; simp (disch := omega) only [fd, fm, gt_iff_lt]; split <;> omega
theorem b2i_iff {b : Bool} {P : Prop} (h : b = true ↔ P) : (b2i b = 1 ∧ P) ∨ (b2i b = 0 ∧ ¬ P) := by
  cases b
  · exact .inr ⟨rfl, fun p => absurd (h.mpr p) (by decide)⟩
  · exact .inl ⟨rfl, h.mp rfl⟩
theorem jFirst_step (y : Int) : jFirst (y + 1) = jFirst y + 365 + b2i (jLeap y) := by
  have h := b2i_iff (jLeap_iff y)
  rw [jFirst_lin, jFirst_lin]
  generalize b2i (jLeap y) = b at *
  omega
theorem jFirst_mono (a b : Int) (h : a ≤ b) : jFirst a ≤ jFirst b := by
  rw [jFirst_lin, jFirst_lin]; omega
def jx (x : Int) : Int := x - (306001 * ((x * 10000) / 306001)) / 10000
def jA (z b : Int) : Bool := good (gL b) (((z + 123) * 10000) / 306001 - 1) (jx (z + 123)) (z + 59 + b) && decide (jx (z + 123) ≤ dimB (((z + 123) * 10000) / 306001 - 1) b) && decide (((z + 123) * 10000) / 306001 < 14) && decide (2 < ((z + 123) * 10000) / 306001 - 1)
def jB (z b : Int) : Bool := good (gL b) (((z + 429) * 10000) / 306001 - 13) (jx (z + 429)) z && decide (jx (z + 429) ≤ dimB (((z + 429) * 10000) / 306001 - 13) b) && decide (14 ≤ ((z + 429) * 10000) / 306001) && decide (((z + 429) * 10000) / 306001 - 13 ≤ 2)
theorem jA0 : ∀ q : Fin (306 : Int).toNat, jA ((q.val : Nat) : Int) 0 = true := by decide +kernel
theorem jA1 : ∀ q : Fin ((306 : Int) + 1).toNat, (fun z b => decide (z = 306) || jA z b) ((q.val : Nat) : Int) 1 = true := by decide +kernel
theorem jB0 : ∀ q : Fin (59 : Int).toNat, jB ((q.val : Nat) : Int) 0 = true := by decide +kernel
theorem jB1 : ∀ q : Fin ((59 : Int) + 1).toNat, jB ((q.val : Nat) : Int) 1 = true := by decide +kernel
theorem jA0' : ∀ q : Fin (306 : Int).toNat, (fun z b => decide (z = 306) || jA z b) ((q.val : Nat) : Int) 0 = true := fun q => by
  show (_ || _) = true
  rw [jA0 q, Bool.or_true]
theorem jDim_b (y m : Int) : jDim y m = dimB m (b2i (jLeap y)) := by unfold jDim dimB; cases jLeap y <;> rfl
theorem jAll (n : Int) : Facts jFirst (gL (b2i (jLeap (jY n)))) n (jY n) (jM n) (jD n) ∧ jTo (jY n) (jM n) (jD n) = n ∧ (0 < jD n ∧ jD n ≤ jDim (jY n) (jM n)) := by
  obtain ⟨q, i, x, hi, hc, hf, hn, hx1, hx2, hx3⟩ := jdec n
  have he : jE n = (x * 10000) / 306001 := by unfold jE; rw [fd _ (by decide), hf, show n + 1524 - (1461 * q + 365 * i) = x by omega]
  have hd : jD n = jx x := by unfold jD jx; rw [fd _ (by decide), hf, he, show n + 1524 - (1461 * q + 365 * i) = x by omega]
  have fin : ∀ z : Int, Good (gL (b2i (jLeap (jY n)))) (jM n) (jD n) z → jD n ≤ dimB (jM n) (b2i (jLeap (jY n))) → jFirst (jY n) + z = n → z < 365 + b2i (jLeap (jY n)) → jTo (jY n) (jM n) (jD n) = n → Facts jFirst (gL (b2i (jLeap (jY n)))) n (jY n) (jM n) (jD n) ∧ jTo (jY n) (jM n) (jD n) = n ∧ (0 < jD n ∧ jD n ≤ jDim (jY n) (jM n)) := fun z g d e h t =>
    ⟨facts_of g e (by rw [jFirst_step]; omega), t, by have := g.2.2.1; omega, by rw [jDim_b]; exact d⟩
  have hl := b2i_iff (jLeap_iff (jY n))
  have h01 := b2i_01 (jLeap (jY n))
  by_cases h14 : jE n < 14
  · obtain ⟨hy, hm⟩ := jp1 n h14
    have hx4 : x ≤ 428 := by rw [he] at h14; omega
    have t := fin2 (P := fun z b => decide (z = 306) || jA z b) jA0' jA1 h01 (x := x - 123) (by omega) (by omega)
    have t : (decide (x - 123 = 306) || jA (x - 123) (b2i (jLeap (jY n)))) = true := t
    rw [decide_eq_false (by omega), Bool.false_or] at t
    unfold jA good at t
    rw [Int.sub_add_cancel, ← he, ← hm, ← hd] at t
    simp only [Bool.and_eq_true, decide_eq_true_eq] at t
    refine fin _ t.1.1.1 t.1.1.2 ?_ (by omega) ?_
    · have hy' : jY n = 4 * q + i - 4716 := by omega
      rw [jFirst_lin]
      generalize b2i (jLeap (jY n)) = b at *
      clear t fin he hd h14 hm hf hc hy
      generalize jY n = Y at *
      omega
    · unfold jTo
      rw [if_neg (by omega), hy, Int.sub_add_cancel, hm, Int.sub_add_cancel]
      have e1 : jD n = n + 1524 - jF n - (306001 * jE n).fdiv 10000 := rfl
      have e2 : jF n = (1461 * jC n).fdiv 4 := rfl
      omega
  · obtain ⟨hy, hm⟩ := jp2 n h14
    have hx4 : 429 ≤ x := by rw [he] at h14; omega
    have hb : x - 429 < 59 + b2i (jLeap (jY n)) := by
      have hy' : jY n = 4 * q + i - 4715 := by omega
      generalize b2i (jLeap (jY n)) = b at *
      clear fin he hd h14 hm hf hc hy hn
      generalize jY n = Y at *
      omega
    have t := fin2 (P := jB) jB0 jB1 h01 (x := x - 429) (by omega) hb
    unfold jB good at t
    rw [Int.sub_add_cancel, ← he, ← hm, ← hd] at t
    simp only [Bool.and_eq_true, decide_eq_true_eq] at t
    refine fin _ t.1.1.1 t.1.1.2 ?_ (by omega) ?_
    · have hy' : jY n = 4 * q + i - 4715 := by omega
      rw [jFirst_lin]
      generalize b2i (jLeap (jY n)) = b at *
      clear t fin he hd h14 hm hf hc hy
      generalize jY n = Y at *
      omega
    · unfold jTo
      rw [if_pos t.2, hy, hm]
      have e1 : jD n = n + 1524 - jF n - (306001 * jE n).fdiv 10000 := rfl
      have e2 : jF n = (1461 * jC n).fdiv 4 := rfl
      rw [show jC n - 4715 - 1 + 4716 = jC n by omega, show jE n - 13 + 12 + 1 = jE n by omega]
      omega
theorem iLong_fin : ∀ q : Fin 30, iLr ((q.val : Nat) : Int) = decide (19 ≤ (11 * ((q.val : Nat) : Int) + 14) % 30) := by decide +kernel
theorem iLong_iff (y : Int) : iLong y = true ↔ 19 ≤ (11 * y + 3) % 30 := by
  have h0 : 0 ≤ (y - 1) % 30 ∧ (y - 1) % 30 < 30 := by omega
  have e : (11 * y + 3) % 30 = (11 * ((y - 1) % 30) + 14) % 30 := by omega
  have e2 : iLong y = iLr ((y - 1) % 30) := by unfold iLong iLr; rfl
  rw [e, e2]
  generalize (y - 1) % 30 = r at *
  have := iLong_fin ⟨r.toNat, by omega⟩
  rw [show ((⟨r.toNat, by omega⟩ : Fin 30).val : Int) = r from Int.toNat_of_nonneg h0.1] at this
  rw [this, decide_eq_true_eq]
theorem iPast_fin : ∀ q : Fin 30, iPast ((q.val : Nat) : Int) = (11 * ((q.val : Nat) : Int) + 14) / 30 := by decide +kernel
theorem iPast_eq (p : Int) (h0 : 0 ≤ p) (h1 : p < 30) : iPast p = (11 * p + 14) / 30 := by
  have := iPast_fin ⟨p.toNat, by omega⟩
  rw [show ((⟨p.toNat, by omega⟩ : Fin 30).val : Int) = p from Int.toNat_of_nonneg h0] at this
  exact this
theorem iTo_eq (y m d : Int) : iTo y m d = d + -((-59 * (m - 1)) / 2) + (y - 1) * 354 + (3 + 11 * y) / 30 + 1948439 := by
  unfold iTo; simp (disch := omega) only [fd]; omega
theorem iFirst_eq (y : Int) : iFirst y = (y - 1) * 354 + (3 + 11 * y) / 30 + 1948440 := by
  unfold iFirst
  simp (disch := omega) only [fd, fm]
  rw [iPast_eq _ (by omega) (by omega)]
  omega
theorem iFirst_step (y : Int) : iFirst (y + 1) = iFirst y + 354 + b2i (iLong y) := by
  have h := b2i_iff (iLong_iff y)
  rw [iFirst_eq, iFirst_eq, show 3 + 11 * (y + 1) = 11 * y + 3 + 11 by omega, show 3 + 11 * y = 11 * y + 3 by omega, show (y + 1 - 1) * 354 = (y - 1) * 354 + 354 by omega]
  generalize (y - 1) * 354 = v
  generalize 11 * y + 3 = u at *
  generalize b2i (iLong y) = b at *
  omega
theorem iFirst_mono (a b : Int) (h : a ≤ b) : iFirst a ≤ iFirst b := by
  rw [iFirst_eq, iFirst_eq]; omega
def izM (z : Int) : Int := if -((-2 * (z - 29)) / 59) + 1 < 12 then -((-2 * (z - 29)) / 59) + 1 else 12
def izD (z : Int) : Int := z - -((-59 * (izM z - 1)) / 2) + 1
def iT (z b : Int) : Bool := good (iL b) (izM z) (izD z) z
theorem iT0 : ∀ q : Fin (354 : Int).toNat, iT ((q.val : Nat) : Int) 0 = true := by decide +kernel
theorem iT1 : ∀ q : Fin ((354 : Int) + 1).toNat, iT ((q.val : Nat) : Int) 1 = true := by decide +kernel
theorem iAll (n : Int) : Facts iFirst (iL (b2i (iLong (iY n)))) n (iY n) (iM n) (iD n) ∧ iTo (iY n) (iM n) (iD n) = n := by
  have hy : iY n = (30 * (n - 1948440) + 10646) / 10631 := by unfold iY; rw [fd _ (by decide)]
  have hs := iFirst_step (iY n)
  have hq := iFirst_eq (iY n)
  have lo : iFirst (iY n) ≤ n := by rw [hq]; omega
  have hi : n < iFirst (iY n + 1) := by rw [iFirst_eq]; omega
  have hm : iM n = izM (n - iFirst (iY n)) := by
    have e : iTo (iY n) 1 1 = iFirst (iY n) := by rw [iTo_eq, hq]; simp; omega
    unfold iM izM; rw [e, fd _ (by decide), show n - (29 + iFirst (iY n)) = n - iFirst (iY n) - 29 by omega]
  have hd : iD n = izD (n - iFirst (iY n)) := by
    unfold iD izD; rw [iTo_eq, ← hm, hq]; generalize (-59 * (iM n - 1)) / 2 = A; omega
  have ht : iTo (iY n) (iM n) (iD n) = n := by
    unfold iD; rw [iTo_eq, iTo_eq]; omega
  have t := fin2 (P := iT) iT0 iT1 (b2i_01 (iLong (iY n))) (x := n - iFirst (iY n)) (by omega) (by omega)
  unfold iT good at t
  rw [decide_eq_true_eq, ← hm, ← hd] at t
  exact ⟨facts_of t (by omega) hi, ht⟩
theorem cTo_eq (y m d : Int) : cTo y m d = d + (m - 1) * 30 + (y - 1) * 365 + y / 4 + 1825029 := by
  unfold cTo; simp (disch := omega) only [fd]; omega
theorem cFirst_eq (y : Int) : cFirst y = (y - 1) * 365 + y / 4 + 1825030 := by
  unfold cFirst; simp (disch := omega) only [fd, fm]; split <;> omega
theorem cLong_iff (y : Int) : cLong y = true ↔ y % 4 = 3 := by simp [cLong]
theorem cFirst_step (y : Int) : cFirst (y + 1) = cFirst y + 365 + b2i (cLong y) := by
  have h := b2i_iff (cLong_iff y)
  rw [cFirst_eq, cFirst_eq]
  generalize b2i (cLong y) = b at *
  omega
theorem cFirst_mono (a b : Int) (h : a ≤ b) : cFirst a ≤ cFirst b := by
  rw [cFirst_eq, cFirst_eq]; omega
def czM (z : Int) : Int := z / 30 + 1
def czD (z : Int) : Int := z - (czM z - 1) * 30 + 1
def cT (z b : Int) : Bool := good (cL b) (czM z) (czD z) z
theorem cT0 : ∀ q : Fin (365 : Int).toNat, cT ((q.val : Nat) : Int) 0 = true := by decide +kernel
theorem cT1 : ∀ q : Fin ((365 : Int) + 1).toNat, cT ((q.val : Nat) : Int) 1 = true := by decide +kernel
theorem cAll (n : Int) : Facts cFirst (cL (b2i (cLong (cY n)))) n (cY n) (cM n) (cD n) ∧ cTo (cY n) (cM n) (cD n) = n := by
  have hy : cY n = (4 * (n - 1825030) + 1463) / 1461 := by unfold cY; rw [fd _ (by decide)]
  have hs := cFirst_step (cY n)
  have hq := cFirst_eq (cY n)
  have lo : cFirst (cY n) ≤ n := by rw [hq]; omega
  have hi : n < cFirst (cY n + 1) := by rw [cFirst_eq]; omega
  have hyd : cYd n = n - cFirst (cY n) := by unfold cYd; rw [cTo_eq, hq]; omega
  have hm : cM n = czM (n - cFirst (cY n)) := by unfold cM czM; rw [hyd, fd _ (by decide)]
  have hd : cD n = czD (n - cFirst (cY n)) := by unfold cD czD; rw [hyd, hm]
  have ht : cTo (cY n) (cM n) (cD n) = n := by rw [cTo_eq]; unfold cD; rw [hyd, hq]; omega
  have t := fin2 (P := cT) cT0 cT1 (b2i_01 (cLong (cY n))) (x := n - cFirst (cY n)) (by omega) (by omega)
  unfold cT good at t
  rw [decide_eq_true_eq, ← hm, ← hd] at t
  exact ⟨facts_of t (by omega) hi, ht⟩
theorem gTo_m3 (y d : Int) : gTo y 3 d = gFirst y + 61 + b2i (gLeap y) - 3 + d := by
  unfold gFirst gTo
  cases gLeap y <;> simp [b2i] <;> omega
theorem xStart_eq (y : Int) : xStart y = gFirst (y + 78) + 80 := by
  unfold xStart; rw [gTo_m3]
  have : (if gLeap (y + 78) = true then (1 : Int) else 0) = b2i (gLeap (y + 78)) := rfl
  rw [this]; omega
def xFirst (y : Int) : Int := gFirst (y + 78) + 80
theorem xFirst_mono (a b : Int) (h : a ≤ b) : xFirst a ≤ xFirst b := by
  have := gFirst_mono (a + 78) (b + 78) (by omega)
  unfold xFirst; omega
def xOff (m d b : Int) : Int := if m = 1 then d - 1 else if m < 8 then 30 + b + min (m - 2) 5 * 31 + (d - 1) else 30 + b + min (m - 2) 5 * 31 + (m - 7) * 30 + (d - 1)
theorem xTo_off (y m d : Int) : xTo y m d = gFirst (y + 78) + 80 + xOff m d (b2i (gLeap (y + 78))) := by
  unfold xTo xOff
  rw [xStart_eq, show (if gLeap (y + 78) = true then (31 : Int) else 30) = 30 + b2i (gLeap (y + 78)) by cases gLeap (y + 78) <;> rfl]
  generalize min (m - 2) 5 * 31 = A
  generalize (m - 7) * 30 = B
  split
  · rfl
  · split <;> omega
def xzM (z c : Int) : Int := if z < c then 1 else if z - c < 31 * 5 then (z - c) / 31 + 2 else (z - c - 31 * 5) / 30 + 7
def xzD (z c : Int) : Int := if z < c then z + 1 else if z - c < 31 * 5 then (z - c) % 31 + 1 else (z - c - 31 * 5) % 30 + 1
def xT (z b : Int) : Bool := good (xL b) (xzM z (30 + b)) (xzD z (30 + b)) z && decide (xOff (xzM z (30 + b)) (xzD z (30 + b)) b = z)
theorem xT0 : ∀ q : Fin (365 : Int).toNat, xT ((q.val : Nat) : Int) 0 = true := by decide +kernel
theorem xT1 : ∀ q : Fin ((365 : Int) + 1).toNat, xT ((q.val : Nat) : Int) 1 = true := by decide +kernel
theorem xM_z (n : Int) : xM n = xzM (xYd n) (xCa n) := by unfold xM xzM; rw [fd _ (by decide), fd _ (by decide)]
theorem xD_z (n : Int) : xD n = xzD (xYd n) (xCa n) := by unfold xD xzD; rw [fm _ (by decide), fm _ (by decide)]
theorem xz_M {z c : Int} (h : c + 155 ≤ z) : xzM z c = (z - c - 155) / 30 + 7 := by unfold xzM; rw [if_neg (by omega), if_neg (by omega)]; rfl
theorem xz_D {z c : Int} (h : c + 155 ≤ z) : xzD z c = (z - c - 155) % 30 + 1 := by unfold xzD; rw [if_neg (by omega), if_neg (by omega)]; rfl
theorem xAll (n : Int) : Facts xFirst (xL (b2i (gLeap (xY n + 78)))) n (xY n) (xM n) (xD n) ∧ xTo (xY n) (xM n) (xD n) = n := by
  have h0 := gYd_b n
  have hyd : xYd0 n = gYd n := rfl
  have hn := gYd_n n
  have hca : xCa n = 30 + b2i (gLeap (gY n)) := by unfold xCa; cases gLeap (gY n) <;> rfl
  have h01 := b2i_01 (gLeap (xY n + 78))
  have hs := gFirst_step (xY n + 78)
  have main : ∀ z : Int, gFirst (xY n + 78) + 80 + z = n → 0 ≤ z → z < 365 + b2i (gLeap (xY n + 78)) → xM n = xzM z (30 + b2i (gLeap (xY n + 78))) → xD n = xzD z (30 + b2i (gLeap (xY n + 78))) → Facts xFirst (xL (b2i (gLeap (xY n + 78)))) n (xY n) (xM n) (xD n) ∧ xTo (xY n) (xM n) (xD n) = n := by
    intro z e z0 z1 em ed
    have t := fin2 (P := xT) xT0 xT1 h01 z0 z1
    unfold xT good at t
    rw [Bool.and_eq_true, decide_eq_true_eq, decide_eq_true_eq, ← em, ← ed] at t
    refine ⟨facts_of t.1 e ?_, by rw [xTo_off, t.2]; exact e⟩
    show n < gFirst (xY n + 1 + 78) + 80
    rw [show xY n + 1 + 78 = xY n + 78 + 1 by omega, hs]
    omega
  by_cases hc : gYd n < 80
  · have eY : xY n + 78 + 1 = gY n := by unfold xY; rw [if_pos (by rw [hyd]; exact hc)]; omega
    have eYd : xYd n = gYd n + xCa n + 255 := by unfold xYd; rw [if_pos (by rw [hyd]; exact hc), hyd]; omega
    rw [eY] at hs
    have hb1 : 0 ≤ b2i (gLeap (gY n)) := by cases gLeap (gY n) <;> decide
    generalize hB : b2i (gLeap (xY n + 78)) = B at *
    refine main (gYd n + 285 + B) (by omega) (by omega) (by omega) ?_ ?_
    · rw [xM_z, eYd, xz_M (by omega), xz_M (by omega)]
      rw [show gYd n + xCa n + 255 - xCa n - 155 = gYd n + 100 by omega, show gYd n + 285 + B - (30 + B) - 155 = gYd n + 100 by omega]
    · rw [xD_z, eYd, xz_D (by omega), xz_D (by omega)]
      rw [show gYd n + xCa n + 255 - xCa n - 155 = gYd n + 100 by omega, show gYd n + 285 + B - (30 + B) - 155 = gYd n + 100 by omega]
  · have eY : xY n + 78 = gY n := by unfold xY; rw [if_neg (by rw [hyd]; exact hc)]; omega
    have eYd : xYd n = gYd n - 80 := by unfold xYd; rw [if_neg (by rw [hyd]; exact hc), hyd]
    rw [eY] at main ⊢
    exact main (gYd n - 80) (by omega) (by omega) (by omega) (by rw [xM_z, eYd, hca]) (by rw [xD_z, eYd, hca])
theorem take_mono : ∀ (l : List Int), (∀ x ∈ l, 0 ≤ x) → ∀ i j : Nat, i < j → (l.take i).sum + l.getD i 0 ≤ (l.take j).sum
  | [], _, i, j, _ => by simp
  | a :: r, h, 0, j + 1, _ => by
    have hr : ∀ x ∈ r, 0 ≤ x := fun x hx => h x (List.mem_cons_of_mem _ hx)
    have : 0 ≤ (r.take j).sum := by
      have : ∀ (l : List Int), (∀ x ∈ l, 0 ≤ x) → ∀ k : Nat, 0 ≤ (l.take k).sum := by
        intro l
        induction l with
        | nil => intro _ k; simp
        | cons b t ih =>
          intro hb k
          cases k with
          | zero => simp
          | succ k =>
            have := ih (fun x hx => hb x (List.mem_cons_of_mem _ hx)) k
            have := hb b List.mem_cons_self
            simp only [List.take_succ_cons, List.sum_cons]; omega
      exact this r hr j
    simp only [List.take_zero, List.sum_nil, List.getD_cons_zero, List.take_succ_cons, List.sum_cons]
    omega
  | a :: r, h, i + 1, j + 1, hij => by
    have := take_mono r (fun x hx => h x (List.mem_cons_of_mem _ hx)) i j (by omega)
    simp only [List.take_succ_cons, List.sum_cons, List.getD_cons_succ]
    omega
theorem take_nonneg : ∀ (l : List Int), (∀ x ∈ l, 0 ≤ x) → ∀ k : Nat, 0 ≤ (l.take k).sum
  | [], _, k => by simp
  | b :: t, hb, 0 => by simp
  | b :: t, hb, k + 1 => by
    have := take_nonneg t (fun x hx => hb x (List.mem_cons_of_mem _ hx)) k
    have := hb b List.mem_cons_self
    simp only [List.take_succ_cons, List.sum_cons]; omega
def lt3 (y0 m0 d0 y1 m1 d1 : Int) : Prop := y0 < y1 ∨ (y0 = y1 ∧ (m0 < m1 ∨ (m0 = m1 ∧ d0 < d1)))
theorem ord_lt {F : Int → Int} (mono : ∀ a b, a ≤ b → F a ≤ F b) {l0 l1 : List Int} {n0 y0 m0 d0 n1 y1 m1 d1 : Int} (h0 : Facts F l0 n0 y0 m0 d0) (h1 : Facts F l1 n1 y1 m1 d1)
    (p1 : ∀ x ∈ l1, 0 ≤ x) (hl : y0 = y1 → l0 = l1) (h : lt3 y0 m0 d0 y1 m1 d1) : n0 < n1 := by
  have a1 := h1.eq
  have a0 := h0.eq
  have b1 := take_nonneg l1 p1 (m1 - 1).toNat
  have c1 := h1.d1
  rcases h with h | ⟨rfl, h | ⟨rfl, h⟩⟩
  · have := h0.hi
    have := mono (y0 + 1) y1 (by omega)
    omega
  · have e := hl rfl
    subst e
    have := take_mono l0 p1 (m0 - 1).toNat (m1 - 1).toNat (by have := h0.m1; omega)
    have := h0.d2
    omega
  · have e := hl rfl
    subst e
    omega
theorem ord_iff {F : Int → Int} (mono : ∀ a b, a ≤ b → F a ≤ F b) {l0 l1 : List Int} {n0 y0 m0 d0 n1 y1 m1 d1 : Int} (h0 : Facts F l0 n0 y0 m0 d0) (h1 : Facts F l1 n1 y1 m1 d1)
    (p0 : ∀ x ∈ l0, 0 ≤ x) (p1 : ∀ x ∈ l1, 0 ≤ x) (hl : y0 = y1 → l0 = l1) : n0 < n1 ↔ lt3 y0 m0 d0 y1 m1 d1 := by
  constructor
  · intro h
    have q : ¬ lt3 y1 m1 d1 y0 m0 d0 := fun q => by
      have := ord_lt mono h1 h0 p0 (fun e => (hl e.symm).symm) q
      omega
    have e : ¬ (y0 = y1 ∧ m0 = m1 ∧ d0 = d1) := by
      rintro ⟨rfl, rfl, rfl⟩
      have := hl rfl
      subst this
      have a1 := h1.eq
      have a0 := h0.eq
      omega
    unfold lt3 at *
    omega
  · exact ord_lt mono h0 h1 p1 hl
theorem b2i_r (b : Bool) : 0 ≤ b2i b ∧ b2i b ≤ 1 := by cases b <;> decide
theorem gL_pos (b : Bool) : ∀ x ∈ gL (b2i b), 0 ≤ x := by cases b <;> decide
theorem iL_pos (b : Bool) : ∀ x ∈ iL (b2i b), 0 ≤ x := by cases b <;> decide
theorem cL_pos (b : Bool) : ∀ x ∈ cL (b2i b), 0 ≤ x := by cases b <;> decide
theorem xL_pos (b : Bool) : ∀ x ∈ xL (b2i b), 0 ≤ x := by cases b <;> decide
theorem gOrd (a b : Int) : a < b ↔ lt3 (gY a) (gM a) (gD a) (gY b) (gM b) (gD b) := ord_iff gFirst_mono (gFacts a) (gFacts b) (gL_pos _) (gL_pos _) (fun e => by rw [e])
theorem jOrd (a b : Int) : a < b ↔ lt3 (jY a) (jM a) (jD a) (jY b) (jM b) (jD b) := ord_iff jFirst_mono (jAll a).1 (jAll b).1 (gL_pos _) (gL_pos _) (fun e => by rw [e])
theorem iOrd (a b : Int) : a < b ↔ lt3 (iY a) (iM a) (iD a) (iY b) (iM b) (iD b) := ord_iff iFirst_mono (iAll a).1 (iAll b).1 (iL_pos _) (iL_pos _) (fun e => by rw [e])
theorem cOrd (a b : Int) : a < b ↔ lt3 (cY a) (cM a) (cD a) (cY b) (cM b) (cD b) := ord_iff cFirst_mono (cAll a).1 (cAll b).1 (cL_pos _) (cL_pos _) (fun e => by rw [e])
theorem xOrd (a b : Int) : a < b ↔ lt3 (xY a) (xM a) (xD a) (xY b) (xM b) (xD b) := ord_iff xFirst_mono (xAll a).1 (xAll b).1 (xL_pos _) (xL_pos _) (fun e => by rw [e])
noncomputable abbrev loo : List Str := looseW hd.view_39 [Str.ofString "legal_date_gregorian", Str.ofString "to_jd_gregorian", Str.ofString "from_jd_gregorian",
      Str.ofString "legal_date_julian", Str.ofString "from_jd_julian", Str.ofString "to_jd_julian",
      Str.ofString "from_gregorian_julian", Str.ofString "to_gregorian_julian", Str.ofString "to_jd_islamic",
      Str.ofString "from_jd_islamic", Str.ofString "from_gregorian_islamic", Str.ofString "to_gregorian_islamic",
      Str.ofString "to_jd_coptic", Str.ofString "from_jd_coptic", Str.ofString "to_gregorian_coptic",
      Str.ofString "from_gregorian_coptic", Str.ofString "to_jd_indian_civil", Str.ofString "from_jd_indian_civil",
      Str.ofString "from_gregorian_indian_civil", Str.ofString "to_gregorian_indian_civil"]
theorem in30 (x : Int) : ([4, 6, 9, 11] : List Int).any (· == x) = decide (x = 4 ∨ x = 6 ∨ x = 9 ∨ x = 11) := by
  rw [Bool.eq_iff_iff]; simp only [List.any_cons, List.any_nil, Bool.or_false, Bool.or_eq_true, beq_iff_eq, decide_eq_true_eq]; omega
theorem in_tup30 {prog : Program} {w : World} {A : Around} {E : Value → Shared → Prop} {s : Shared} {t : Addr} {t1 t2 t3 t4 : Tok} {x : Int} {u : Tok} {Q : Value → Shared → Prop} (ht : IsTup s.heap t [Value.int 4 t1, .int 6 t2, .int 9 t3, .int 11 t4].toArray)
    (h : Q (.bool (decide (x = 4 ∨ x = 6 ∨ x = 9 ∨ x = 11))) s) : wpAny (model prog w) A (compareOp .In (.int x u) (.ref t)) Q E s := by
  refine in_tuple_ints (ns := [4, 6, 9, 11]) ht ?_ ?_
  · repeat constructor
  · rw [in30]; exact h
theorem dim_no {y mo d : Int} (hp : 0 < d ∧ d ≤ gDim y mo) (h1 : mo = 2) (h2 : gLeap y = false) (h3 : ¬ d ≤ 28) : False := by
  unfold gDim at hp; rw [if_pos h1, h2] at hp; simp at hp; omega
theorem dim_one (y mo : Int) : 0 < (1 : Int) ∧ 1 ≤ gDim y mo := by
  unfold gDim; refine ⟨by omega, ?_⟩; (repeat' split) <;> omega
theorem end3 {h₀ h' : Heap} {L : Addr} {m : Str → Option Value} {news : List (Addr × Obj)} {s : Shared} {Q : Value → Shared → Prop} {y mo d y' m' d' : Int} {D : Addr} {t1 t2 t3 : Tok} {c tk' : Nat}
  (hret : ∀ (D : Addr) (t1 t2 t3 : Tok) (c : Nat) (h' : Heap) (tk' : Nat), Fr h₀ L h' m → News h₀ L h' ((D, ({ cls := .type "tuple", data := .seq #[.int y t1, .int mo t2, .int d t3] c } : Obj)) :: news) → AllLt D news → Q (.ref D) {s with heap := h', toks := tk'})
  (F : Fr h₀ L h' m) (N : News h₀ L h' ((D, ({ cls := .type "tuple", data := .seq #[.int y' t1, .int m' t2, .int d' t3] c } : Obj)) :: news)) (l : AllLt D news)
  (e1 : y = y') (e2 : y = y' → mo = m') (e3 : y = y' → mo = m' → d = d') : Q (.ref D) {s with heap := h', toks := tk'} := by
  have e4 := e2 e1
  have e5 := e3 e1 e4
  subst e1 e4 e5
  exact hret _ _ _ _ _ _ _ F N l
theorem end3d {h₀ h' : Heap} {L : Addr} {m : Str → Option Value} {news : List (Addr × Obj)} {s : Shared} {Q : Value → Shared → Prop} {y mo d y' m' d' : Int} {D : Addr} {q : Addr × Obj} {t1 t2 t3 : Tok} {c tk' : Nat}
  (hret : ∀ (D : Addr) (t1 t2 t3 : Tok) (c : Nat) (h' : Heap) (tk' : Nat), Fr h₀ L h' m → News h₀ L h' ((D, ({ cls := .type "tuple", data := .seq #[.int y t1, .int mo t2, .int d t3] c } : Obj)) :: news) → AllLt D news → Q (.ref D) {s with heap := h', toks := tk'})
  (F : Fr h₀ L h' m) (N : News h₀ L h' ((D, ({ cls := .type "tuple", data := .seq #[.int y' t1, .int m' t2, .int d' t3] c } : Obj)) :: q :: news)) (l : q.1 < D ∧ AllLt D news)
  (e1 : y = y') (e2 : y = y' → mo = m') (e3 : y = y' → mo = m' → d = d') : Q (.ref D) {s with heap := h', toks := tk'} := by
  have N2 : News h₀ L h' ((D, ({ cls := .type "tuple", data := .seq #[.int y' t1, .int m' t2, .int d' t3] c } : Obj)) :: news) := by
    intro p hp
    refine N p ?_
    rcases List.mem_cons.mp hp with rfl | hp
    · exact .head _
    · exact .tail _ (.tail _ hp)
  exact end3 hret F N2 l.2 e1 e2 e3
section
variable {w : World} {mean : ExcName → Option Value} {mg mb : Str → Option Value} {dp un : Nat} {gd : Option (List Code)} {cn : Str} {cs : Scope} {a : Addr} {ccd : Value} {cl : List (Str × Addr)} {outer : List Env} {A₀ : Around} {base h₀ : Heap} {L : Addr} {m : Str → Option Value} {news : List (Addr × Obj)} {s : Shared} {Q E : Value → Shared → Prop}
theorem c_isleap {y : Int} {ty : Tok} (B : Below A₀ base outer h₀) (F : Fr h₀ L s.heap m) (X : (hd.heap_39 w.params).In h₀) (N : News h₀ L s.heap news) (T : Top hd.view_39 loo mean mg mb h₀) (hk : cs.kind = .function) (hdd : dp + 1 < recursionLimit) (hu : un + 8 < cLine) 
 (hret : ∀ (t : Tok) (h' : Heap) (tk' : Nat), Fr h₀ L h' m → News h₀ L h' news → Q (.bool (gLeap y)) {s with heap := h', toks := tk'}) :
  wpAny (model PySem.Challenge.pw_jb0010_01 w) (ktrTop dp un gd cn cs L a ccd cl outer) (call (.ref 21) [.int y ty]) Q E s := by
  k_with_none
  k_with "m compareOp In int ref" => ((k_here; (with_reducible show wpAny _ _ (compareOp CmpOp.In (Value.int _ _) (Value.ref _)) _ _ _); (with_unfolding_all refine' in_tup30 (tupK ?zzk1 ?zzk2) ?_; (case zzk1 => k_in); (case zzk2 => k_is); k_whole)))
  k_with "m eval Call" => (((with_reducible show wpAny _ _ (eval (Expr.Call (Expr.Name _ _) (Expr.Name _ _ :: _) [] _) _) _ _ _); k_dflt (refine Call_ ?_)))
  k_with "m eval Call" => (((with_reducible show wpAny _ _ (eval (Expr.Call (Expr.Name _ _) (Expr.Constant _ _ _ :: _) [] _) _) _ _ _); k_dflt (refine Call_ ?_)))
  k_with "tree" => simp only [gLeap]
  refine wpAny_call ?_
  k_dflt cell_enter
  k_steps
  all_goals cb_end hret
end
section
variable {w : World} {mean : ExcName → Option Value} {mg mb : Str → Option Value} {dp un : Nat} {gd : Option (List Code)} {cn : Str} {cs : Scope} {a : Addr} {ccd : Value} {cl : List (Str × Addr)} {outer : List Env} {A₀ : Around} {base h₀ : Heap} {L : Addr} {m : Str → Option Value} {news : List (Addr × Obj)} {s : Shared} {Q E : Value → Shared → Prop}
theorem c_legalG {y : Int} {ty : Tok} {mo : Int} {tmo : Tok} {d : Int} {td : Tok} (B : Below A₀ base outer h₀) (F : Fr h₀ L s.heap m) (X : (hd.heap_39 w.params).In h₀) (N : News h₀ L s.heap news) (T : Top hd.view_39 loo mean mg mb h₀) (hk : cs.kind = .function) (hdd : dp + 2 < recursionLimit) (hu : un + 16 < cLine) (hp : 0 < d ∧ d ≤ gDim y mo)
 (hret : ∀ (t : Tok) (h' : Heap) (tk' : Nat), Fr h₀ L h' m → News h₀ L h' news → Q (.bool true) {s with heap := h', toks := tk'}) :
  wpAny (model PySem.Challenge.pw_jb0010_01 w) (ktrTop dp un gd cn cs L a ccd cl outer) (call (.ref 29) [.int y ty, .int mo tmo, .int d td]) Q E s := by
  k_with "m call ref" => ((k_here; (with_reducible show wpAny _ _ (call (Value.ref 21) _) _ _ _); k_dflt (refine' c_isleap ?zzk1 ?zzk2 ?zzk3 ?zzk4 ?zzk5 ?zzk6 ?zzk7 ?zzk8 ?_; (case zzk1 => k_asm); (case zzk2 => k_asm); (case zzk3 => k_asm); (case zzk4 => k_asm); (case zzk5 => k_asm); (case zzk6 => first | exact rfl | assumption); (case zzk7 => ktr_room); (case zzk8 => ktr_units); skip); intro t9 h9 tk9 F9 N9; (try dsimp only); (try k_fold)))
  have hp1 := hp
  simp only [gDim] at hp
  refine wpAny_call ?_
  k_dflt cell_enter
  k_steps
  all_goals first | cb_end hret | (exfalso; exact dim_no hp1 (by assumption) (by assumption) (by assumption))
end
section
variable {w : World} {mean : ExcName → Option Value} {mg mb : Str → Option Value} {dp un : Nat} {gd : Option (List Code)} {cn : Str} {cs : Scope} {a : Addr} {ccd : Value} {cl : List (Str × Addr)} {outer : List Env} {A₀ : Around} {base h₀ : Heap} {L : Addr} {m : Str → Option Value} {news : List (Addr × Obj)} {s : Shared} {Q E : Value → Shared → Prop}
theorem c_toG {y : Int} {ty : Tok} {mo : Int} {tmo : Tok} {d : Int} {td : Tok} (B : Below A₀ base outer h₀) (F : Fr h₀ L s.heap m) (X : (hd.heap_39 w.params).In h₀) (N : News h₀ L s.heap news) (T : Top hd.view_39 loo mean mg mb h₀) (hk : cs.kind = .function) (hdd : dp + 3 < recursionLimit) (hu : un + 24 < cLine) (hp : 0 < d ∧ d ≤ gDim y mo)
 (hret : ∀ (t : Tok) (h' : Heap) (tk' : Nat), Fr h₀ L h' m → News h₀ L h' news → Q (.int (gTo y mo d) t) {s with heap := h', toks := tk'}) :
  wpAny (model PySem.Challenge.pw_jb0010_01 w) (ktrTop dp un gd cn cs L a ccd cl outer) (call (.ref 36) [.int y ty, .int mo tmo, .int d td]) Q E s := by
  k_with "m call ref" => ((k_here; (with_reducible show wpAny _ _ (call (Value.ref 29) _) _ _ _); k_dflt (refine' c_legalG ?zzk1 ?zzk2 ?zzk3 ?zzk4 ?zzk5 ?zzk6 ?zzk7 ?zzk8 ?zzkp ?_; (case zzk1 => k_asm); (case zzk2 => k_asm); (case zzk3 => k_asm); (case zzk4 => k_asm); (case zzk5 => k_asm); (case zzk6 => first | exact rfl | assumption); (case zzk7 => ktr_room); (case zzk8 => ktr_units); (case zzkp => first | assumption | exact dim_one _ _); skip); intro t9 h9 tk9 F9 N9; (try dsimp only); (try k_fold)))
  k_with "tree" => simp only [gTo]
  refine wpAny_call ?_
  k_dflt cell_enter
  k_steps
  all_goals cb_end hret
end
section
variable {w : World} {mean : ExcName → Option Value} {mg mb : Str → Option Value} {dp un : Nat} {gd : Option (List Code)} {cn : Str} {cs : Scope} {a : Addr} {ccd : Value} {cl : List (Str × Addr)} {outer : List Env} {A₀ : Around} {base h₀ : Heap} {L : Addr} {m : Str → Option Value} {news : List (Addr × Obj)} {s : Shared} {Q E : Value → Shared → Prop}
theorem c_fromG {n : Int} {tn : Tok} (B : Below A₀ base outer h₀) (F : Fr h₀ L s.heap m) (X : (hd.heap_39 w.params).In h₀) (N : News h₀ L s.heap news) (T : Top hd.view_39 loo mean mg mb h₀) (hk : cs.kind = .function) (hdd : dp + 4 < recursionLimit) (hu : un + 32 < cLine) 
 (hret : ∀ (D : Addr) (t1 t2 t3 : Tok) (c : Nat) (h' : Heap) (tk' : Nat), Fr h₀ L h' m → News h₀ L h' ((D, ({ cls := .type "tuple", data := .seq #[.int (gY n) t1, .int (gM n) t2, .int (gD n) t3] c } : Obj)) :: news) → AllLt D news → Q (.ref D) {s with heap := h', toks := tk'}) :
  wpAny (model PySem.Challenge.pw_jb0010_01 w) (ktrTop dp un gd cn cs L a ccd cl outer) (call (.ref 43) [.int n tn]) Q E s := by
  k_with "m call ref" => ((k_here; (with_reducible show wpAny _ _ (call (Value.ref 36) _) _ _ _); k_dflt (refine' c_toG ?zzk1 ?zzk2 ?zzk3 ?zzk4 ?zzk5 ?zzk6 ?zzk7 ?zzk8 ?zzkp ?_; (case zzk1 => k_asm); (case zzk2 => k_asm); (case zzk3 => k_asm); (case zzk4 => k_asm); (case zzk5 => k_asm); (case zzk6 => first | exact rfl | assumption); (case zzk7 => ktr_room); (case zzk8 => ktr_units); (case zzkp => first | assumption | exact dim_one _ _); skip); intro t9 h9 tk9 F9 N9; (try dsimp only); (try k_fold)))
  refine wpAny_call ?_
  k_dflt cell_enter
  k_steps
  all_goals (
    refine end3 hret (by assumption) (by assumption) (by ktn_lt) ?_ ?_ ?_
    · unfold gY gBase
      first | rw [if_pos (by assumption)] | (rw [if_neg (by assumption)]; first | rw [if_pos (by assumption)] | rw [if_neg (by assumption)])
    · intro e1; unfold gM gYd; rw [e1]
      first | rw [if_pos (by assumption)] | (rw [if_neg (by assumption)]; first | rw [if_pos (by assumption)] | rw [if_neg (by simp only [Bool.not_eq_true]; assumption)])
    · intro e1 e2; unfold gD; rw [e1, e2])
end
theorem jdim_no {y mo d : Int} (hp : 0 < d ∧ d ≤ jDim y mo) (h1 : mo = 2) (h2 : jLeap y = false) (h3 : ¬ d ≤ 28) : False := by
  unfold jDim at hp; rw [if_pos h1, h2] at hp; simp at hp; omega
theorem jdim_one (y mo : Int) : 0 < (1 : Int) ∧ 1 ≤ jDim y mo := by
  unfold jDim; refine ⟨by omega, ?_⟩; (repeat' split) <;> omega
section
variable {w : World} {mean : ExcName → Option Value} {mg mb : Str → Option Value} {dp un : Nat} {gd : Option (List Code)} {cn : Str} {cs : Scope} {a : Addr} {ccd : Value} {cl : List (Str × Addr)} {outer : List Env} {A₀ : Around} {base h₀ : Heap} {L : Addr} {m : Str → Option Value} {news : List (Addr × Obj)} {s : Shared} {Q E : Value → Shared → Prop}
theorem c_leapJ {y : Int} {ty : Tok} (B : Below A₀ base outer h₀) (F : Fr h₀ L s.heap m) (X : (hd.heap_39 w.params).In h₀) (N : News h₀ L s.heap news) (T : Top hd.view_39 loo mean mg mb h₀) (hk : cs.kind = .function) (hdd : dp + 1 < recursionLimit) (hu : un + 8 < cLine) 
 (hret : ∀ (t : Tok) (h' : Heap) (tk' : Nat), Fr h₀ L h' m → News h₀ L h' news → Q (.bool (jLeap y)) {s with heap := h', toks := tk'}) :
  wpAny (model PySem.Challenge.pw_jb0010_01 w) (ktrTop dp un gd cn cs L a ccd cl outer) (call (.ref 51) [.int y ty]) Q E s := by
  k_with_none
  k_with "m compareOp In int ref" => ((k_here; (with_reducible show wpAny _ _ (compareOp CmpOp.In (Value.int _ _) (Value.ref _)) _ _ _); (with_unfolding_all refine' in_tup30 (tupK ?zzk1 ?zzk2) ?_; (case zzk1 => k_in); (case zzk2 => k_is); k_whole)))
  k_with "m eval Call" => (((with_reducible show wpAny _ _ (eval (Expr.Call (Expr.Name _ _) (Expr.Name _ _ :: _) [] _) _) _ _ _); k_dflt (refine Call_ ?_)))
  k_with "m eval Call" => (((with_reducible show wpAny _ _ (eval (Expr.Call (Expr.Name _ _) (Expr.Constant _ _ _ :: _) [] _) _) _ _ _); k_dflt (refine Call_ ?_)))
  k_with "tree" => simp only [jLeap]
  refine wpAny_call ?_
  k_dflt cell_enter
  k_steps
  all_goals cb_end hret
end
section
variable {w : World} {mean : ExcName → Option Value} {mg mb : Str → Option Value} {dp un : Nat} {gd : Option (List Code)} {cn : Str} {cs : Scope} {a : Addr} {ccd : Value} {cl : List (Str × Addr)} {outer : List Env} {A₀ : Around} {base h₀ : Heap} {L : Addr} {m : Str → Option Value} {news : List (Addr × Obj)} {s : Shared} {Q E : Value → Shared → Prop}
theorem c_mlenJ {y : Int} {ty : Tok} {mo : Int} {tmo : Tok} (B : Below A₀ base outer h₀) (F : Fr h₀ L s.heap m) (X : (hd.heap_39 w.params).In h₀) (N : News h₀ L s.heap news) (T : Top hd.view_39 loo mean mg mb h₀) (hk : cs.kind = .function) (hdd : dp + 2 < recursionLimit) (hu : un + 16 < cLine) 
 (hret : ∀ (t : Tok) (h' : Heap) (tk' : Nat), Fr h₀ L h' m → News h₀ L h' news → Q (.int (jDim y mo) t) {s with heap := h', toks := tk'}) :
  wpAny (model PySem.Challenge.pw_jb0010_01 w) (ktrTop dp un gd cn cs L a ccd cl outer) (call (.ref 58) [.int y ty, .int mo tmo]) Q E s := by
  k_with "m call ref" => ((k_here; (with_reducible show wpAny _ _ (call (Value.ref 51) _) _ _ _); k_dflt (refine' c_leapJ ?zzk1 ?zzk2 ?zzk3 ?zzk4 ?zzk5 ?zzk6 ?zzk7 ?zzk8 ?_; (case zzk1 => k_asm); (case zzk2 => k_asm); (case zzk3 => k_asm); (case zzk4 => k_asm); (case zzk5 => k_asm); (case zzk6 => first | exact rfl | assumption); (case zzk7 => ktr_room); (case zzk8 => ktr_units); skip); intro t9 h9 tk9 F9 N9; (try dsimp only); (try k_fold)))
  k_with "tree" => simp only [jDim]
  refine wpAny_call ?_
  k_dflt cell_enter
  k_steps
  all_goals cb_end hret
end
section
variable {w : World} {mean : ExcName → Option Value} {mg mb : Str → Option Value} {dp un : Nat} {gd : Option (List Code)} {cn : Str} {cs : Scope} {a : Addr} {ccd : Value} {cl : List (Str × Addr)} {outer : List Env} {A₀ : Around} {base h₀ : Heap} {L : Addr} {m : Str → Option Value} {news : List (Addr × Obj)} {s : Shared} {Q E : Value → Shared → Prop}
theorem c_legalJ {y : Int} {ty : Tok} {mo : Int} {tmo : Tok} {d : Int} {td : Tok} (B : Below A₀ base outer h₀) (F : Fr h₀ L s.heap m) (X : (hd.heap_39 w.params).In h₀) (N : News h₀ L s.heap news) (T : Top hd.view_39 loo mean mg mb h₀) (hk : cs.kind = .function) (hdd : dp + 3 < recursionLimit) (hu : un + 24 < cLine) (hp : 0 < d ∧ d ≤ jDim y mo)
 (hret : ∀ (t : Tok) (h' : Heap) (tk' : Nat), Fr h₀ L h' m → News h₀ L h' news → Q (.bool true) {s with heap := h', toks := tk'}) :
  wpAny (model PySem.Challenge.pw_jb0010_01 w) (ktrTop dp un gd cn cs L a ccd cl outer) (call (.ref 65) [.int y ty, .int mo tmo, .int d td]) Q E s := by
  k_with "m call ref" => ((k_here; (with_reducible show wpAny _ _ (call (Value.ref 58) _) _ _ _); k_dflt (refine' c_mlenJ ?zzk1 ?zzk2 ?zzk3 ?zzk4 ?zzk5 ?zzk6 ?zzk7 ?zzk8 ?_; (case zzk1 => k_asm); (case zzk2 => k_asm); (case zzk3 => k_asm); (case zzk4 => k_asm); (case zzk5 => k_asm); (case zzk6 => first | exact rfl | assumption); (case zzk7 => ktr_room); (case zzk8 => ktr_units); skip); intro t9 h9 tk9 F9 N9; (try dsimp only); (try k_fold)))
  refine wpAny_call ?_
  k_dflt cell_enter
  k_steps
  all_goals cb_end hret
end
section
variable {w : World} {mean : ExcName → Option Value} {mg mb : Str → Option Value} {dp un : Nat} {gd : Option (List Code)} {cn : Str} {cs : Scope} {a : Addr} {ccd : Value} {cl : List (Str × Addr)} {outer : List Env} {A₀ : Around} {base h₀ : Heap} {L : Addr} {m : Str → Option Value} {news : List (Addr × Obj)} {s : Shared} {Q E : Value → Shared → Prop}
theorem c_toJ {y : Int} {ty : Tok} {mo : Int} {tmo : Tok} {d : Int} {td : Tok} (B : Below A₀ base outer h₀) (F : Fr h₀ L s.heap m) (X : (hd.heap_39 w.params).In h₀) (N : News h₀ L s.heap news) (T : Top hd.view_39 loo mean mg mb h₀) (hk : cs.kind = .function) (hdd : dp + 4 < recursionLimit) (hu : un + 32 < cLine) (hp : 0 < d ∧ d ≤ jDim y mo)
 (hret : ∀ (t : Tok) (h' : Heap) (tk' : Nat), Fr h₀ L h' m → News h₀ L h' news → Q (.int (jTo y mo d) t) {s with heap := h', toks := tk'}) :
  wpAny (model PySem.Challenge.pw_jb0010_01 w) (ktrTop dp un gd cn cs L a ccd cl outer) (call (.ref 79) [.int y ty, .int mo tmo, .int d td]) Q E s := by
  k_with "m call ref" => ((k_here; (with_reducible show wpAny _ _ (call (Value.ref 65) _) _ _ _); k_dflt (refine' c_legalJ ?zzk1 ?zzk2 ?zzk3 ?zzk4 ?zzk5 ?zzk6 ?zzk7 ?zzk8 ?zzkp ?_; (case zzk1 => k_asm); (case zzk2 => k_asm); (case zzk3 => k_asm); (case zzk4 => k_asm); (case zzk5 => k_asm); (case zzk6 => first | exact rfl | assumption); (case zzk7 => ktr_room); (case zzk8 => ktr_units); (case zzkp => assumption); skip); intro t9 h9 tk9 F9 N9; (try dsimp only); (try k_fold)))
  k_with "tree" => simp only [jTo]
  refine wpAny_call ?_
  k_dflt cell_enter
  k_steps
  all_goals cb_end hret
end
section
variable {w : World} {mean : ExcName → Option Value} {mg mb : Str → Option Value} {dp un : Nat} {gd : Option (List Code)} {cn : Str} {cs : Scope} {a : Addr} {ccd : Value} {cl : List (Str × Addr)} {outer : List Env} {A₀ : Around} {base h₀ : Heap} {L : Addr} {m : Str → Option Value} {news : List (Addr × Obj)} {s : Shared} {Q E : Value → Shared → Prop}
theorem c_fromJ {n : Int} {tn : Tok} (B : Below A₀ base outer h₀) (F : Fr h₀ L s.heap m) (X : (hd.heap_39 w.params).In h₀) (N : News h₀ L s.heap news) (T : Top hd.view_39 loo mean mg mb h₀) (hk : cs.kind = .function) (hdd : dp + 1 < recursionLimit) (hu : un + 8 < cLine) 
 (hret : ∀ (D : Addr) (t1 t2 t3 : Tok) (c : Nat) (h' : Heap) (tk' : Nat), Fr h₀ L h' m → News h₀ L h' ((D, ({ cls := .type "tuple", data := .seq #[.int (jY n) t1, .int (jM n) t2, .int (jD n) t3] c } : Obj)) :: news) → AllLt D news → Q (.ref D) {s with heap := h', toks := tk'}) :
  wpAny (model PySem.Challenge.pw_jb0010_01 w) (ktrTop dp un gd cn cs L a ccd cl outer) (call (.ref 72) [.int n tn]) Q E s := by
  refine wpAny_call ?_
  k_dflt cell_enter
  k_steps
  · refine end3 hret (by assumption) (by assumption) (by ktn_lt) (jp1 n (by assumption)).1 (fun _ => (jp1 n (by assumption)).2) (fun _ _ => rfl)
  · refine end3 hret (by assumption) (by assumption) (by ktn_lt) (jp2 n (by assumption)).1 (fun _ => (jp2 n (by assumption)).2) (fun _ _ => rfl)
end
section
variable {w : World} {mean : ExcName → Option Value} {mg mb : Str → Option Value} {dp un : Nat} {gd : Option (List Code)} {cn : Str} {cs : Scope} {a : Addr} {ccd : Value} {cl : List (Str × Addr)} {outer : List Env} {A₀ : Around} {base h₀ : Heap} {L : Addr} {m : Str → Option Value} {news : List (Addr × Obj)} {s : Shared} {Q E : Value → Shared → Prop}
theorem c_toI {y : Int} {ty : Tok} {mo : Int} {tmo : Tok} {d : Int} {td : Tok} (B : Below A₀ base outer h₀) (F : Fr h₀ L s.heap m) (X : (hd.heap_39 w.params).In h₀) (N : News h₀ L s.heap news) (T : Top hd.view_39 loo mean mg mb h₀) (hk : cs.kind = .function) (hdd : dp + 1 < recursionLimit) (hu : un + 8 < cLine) 
 (hret : ∀ (t : Tok) (h' : Heap) (tk' : Nat), Fr h₀ L h' m → News h₀ L h' news → Q (.int (iTo y mo d) t) {s with heap := h', toks := tk'}) :
  wpAny (model PySem.Challenge.pw_jb0010_01 w) (ktrTop dp un gd cn cs L a ccd cl outer) (call (.ref 100) [.int y ty, .int mo tmo, .int d td]) Q E s := by
  k_with_none
  k_with "m compareOp In int ref" => ((k_here; (with_reducible show wpAny _ _ (compareOp CmpOp.In (Value.int _ _) (Value.ref _)) _ _ _); (with_unfolding_all refine' in_tup30 (tupK ?zzk1 ?zzk2) ?_; (case zzk1 => k_in); (case zzk2 => k_is); k_whole)))
  k_with "m eval Call" => (((with_reducible show wpAny _ _ (eval (Expr.Call (Expr.Name _ _) (Expr.Name _ _ :: _) [] _) _) _ _ _); k_dflt (refine Call_ ?_)))
  k_with "m eval Call" => (((with_reducible show wpAny _ _ (eval (Expr.Call (Expr.Name _ _) (Expr.Constant _ _ _ :: _) [] _) _) _ _ _); k_dflt (refine Call_ ?_)))
  k_with "tree" => simp only [iTo]
  refine wpAny_call ?_
  k_dflt cell_enter
  k_steps
  all_goals cb_end hret
end
section
variable {w : World} {mean : ExcName → Option Value} {mg mb : Str → Option Value} {dp un : Nat} {gd : Option (List Code)} {cn : Str} {cs : Scope} {a : Addr} {ccd : Value} {cl : List (Str × Addr)} {outer : List Env} {A₀ : Around} {base h₀ : Heap} {L : Addr} {m : Str → Option Value} {news : List (Addr × Obj)} {s : Shared} {Q E : Value → Shared → Prop}
theorem c_fromI {n : Int} {tn : Tok} (B : Below A₀ base outer h₀) (F : Fr h₀ L s.heap m) (X : (hd.heap_39 w.params).In h₀) (N : News h₀ L s.heap news) (T : Top hd.view_39 loo mean mg mb h₀) (hk : cs.kind = .function) (hdd : dp + 2 < recursionLimit) (hu : un + 16 < cLine) 
 (hret : ∀ (D : Addr) (t1 t2 t3 : Tok) (c : Nat) (h' : Heap) (tk' : Nat), Fr h₀ L h' m → News h₀ L h' ((D, ({ cls := .type "tuple", data := .seq #[.int (iY n) t1, .int (iM n) t2, .int (iD n) t3] c } : Obj)) :: news) → AllLt D news → Q (.ref D) {s with heap := h', toks := tk'}) :
  wpAny (model PySem.Challenge.pw_jb0010_01 w) (ktrTop dp un gd cn cs L a ccd cl outer) (call (.ref 107) [.int n tn]) Q E s := by
  k_with "m call ref" => ((k_here; (with_reducible show wpAny _ _ (call (Value.ref 100) _) _ _ _); k_dflt (refine' c_toI ?zzk1 ?zzk2 ?zzk3 ?zzk4 ?zzk5 ?zzk6 ?zzk7 ?zzk8 ?_; (case zzk1 => k_asm); (case zzk2 => k_asm); (case zzk3 => k_asm); (case zzk4 => k_asm); (case zzk5 => k_asm); (case zzk6 => first | exact rfl | assumption); (case zzk7 => ktr_room); (case zzk8 => ktr_units); skip); intro t9 h9 tk9 F9 N9; (try dsimp only); (try k_fold)))
  refine wpAny_call ?_
  k_dflt cell_enter
  k_steps
  exact end3 hret (by assumption) (by assumption) (by ktn_lt) rfl (fun _ => rfl) (fun _ _ => rfl)
end
section
variable {w : World} {mean : ExcName → Option Value} {mg mb : Str → Option Value} {dp un : Nat} {gd : Option (List Code)} {cn : Str} {cs : Scope} {a : Addr} {ccd : Value} {cl : List (Str × Addr)} {outer : List Env} {A₀ : Around} {base h₀ : Heap} {L : Addr} {m : Str → Option Value} {news : List (Addr × Obj)} {s : Shared} {Q E : Value → Shared → Prop}
theorem c_toC {y : Int} {ty : Tok} {mo : Int} {tmo : Tok} {d : Int} {td : Tok} (B : Below A₀ base outer h₀) (F : Fr h₀ L s.heap m) (X : (hd.heap_39 w.params).In h₀) (N : News h₀ L s.heap news) (T : Top hd.view_39 loo mean mg mb h₀) (hk : cs.kind = .function) (hdd : dp + 1 < recursionLimit) (hu : un + 8 < cLine) 
 (hret : ∀ (t : Tok) (h' : Heap) (tk' : Nat), Fr h₀ L h' m → News h₀ L h' news → Q (.int (cTo y mo d) t) {s with heap := h', toks := tk'}) :
  wpAny (model PySem.Challenge.pw_jb0010_01 w) (ktrTop dp un gd cn cs L a ccd cl outer) (call (.ref 128) [.int y ty, .int mo tmo, .int d td]) Q E s := by
  k_with "tree" => simp only [cTo]
  refine wpAny_call ?_
  k_dflt cell_enter
  k_steps
  all_goals cb_end hret
end
section
variable {w : World} {mean : ExcName → Option Value} {mg mb : Str → Option Value} {dp un : Nat} {gd : Option (List Code)} {cn : Str} {cs : Scope} {a : Addr} {ccd : Value} {cl : List (Str × Addr)} {outer : List Env} {A₀ : Around} {base h₀ : Heap} {L : Addr} {m : Str → Option Value} {news : List (Addr × Obj)} {s : Shared} {Q E : Value → Shared → Prop}
theorem c_fromC {n : Int} {tn : Tok} (B : Below A₀ base outer h₀) (F : Fr h₀ L s.heap m) (X : (hd.heap_39 w.params).In h₀) (N : News h₀ L s.heap news) (T : Top hd.view_39 loo mean mg mb h₀) (hk : cs.kind = .function) (hdd : dp + 2 < recursionLimit) (hu : un + 16 < cLine) 
 (hret : ∀ (D : Addr) (t1 t2 t3 : Tok) (c : Nat) (h' : Heap) (tk' : Nat), Fr h₀ L h' m → News h₀ L h' ((D, ({ cls := .type "tuple", data := .seq #[.int (cY n) t1, .int (cM n) t2, .int (cD n) t3] c } : Obj)) :: news) → AllLt D news → Q (.ref D) {s with heap := h', toks := tk'}) :
  wpAny (model PySem.Challenge.pw_jb0010_01 w) (ktrTop dp un gd cn cs L a ccd cl outer) (call (.ref 135) [.int n tn]) Q E s := by
  k_with "m call ref" => ((k_here; (with_reducible show wpAny _ _ (call (Value.ref 128) _) _ _ _); k_dflt (refine' c_toC ?zzk1 ?zzk2 ?zzk3 ?zzk4 ?zzk5 ?zzk6 ?zzk7 ?zzk8 ?_; (case zzk1 => k_asm); (case zzk2 => k_asm); (case zzk3 => k_asm); (case zzk4 => k_asm); (case zzk5 => k_asm); (case zzk6 => first | exact rfl | assumption); (case zzk7 => ktr_room); (case zzk8 => ktr_units); skip); intro t9 h9 tk9 F9 N9; (try dsimp only); (try k_fold)))
  refine wpAny_call ?_
  k_dflt cell_enter
  k_steps
  exact end3 hret (by assumption) (by assumption) (by ktn_lt) rfl (fun _ => rfl) (fun _ _ => rfl)
end
theorem xstart_ok (y : Int) : 0 < 22 - (if gLeap y = true then (1 : Int) else 0) ∧ 22 - (if gLeap y = true then (1 : Int) else 0) ≤ gDim y 3 := by
  unfold gDim; cases gLeap y <;> simp
section
variable {w : World} {mean : ExcName → Option Value} {mg mb : Str → Option Value} {dp un : Nat} {gd : Option (List Code)} {cn : Str} {cs : Scope} {a : Addr} {ccd : Value} {cl : List (Str × Addr)} {outer : List Env} {A₀ : Around} {base h₀ : Heap} {L : Addr} {m : Str → Option Value} {news : List (Addr × Obj)} {s : Shared} {Q E : Value → Shared → Prop}
theorem c_toX {y : Int} {ty : Tok} {mo : Int} {tmo : Tok} {d : Int} {td : Tok} (B : Below A₀ base outer h₀) (F : Fr h₀ L s.heap m) (X : (hd.heap_39 w.params).In h₀) (N : News h₀ L s.heap news) (T : Top hd.view_39 loo mean mg mb h₀) (hk : cs.kind = .function) (hdd : dp + 4 < recursionLimit) (hu : un + 32 < cLine) 
 (hret : ∀ (t : Tok) (h' : Heap) (tk' : Nat), Fr h₀ L h' m → News h₀ L h' news → Q (.int (xTo y mo d) t) {s with heap := h', toks := tk'}) :
  wpAny (model PySem.Challenge.pw_jb0010_01 w) (ktrTop dp un gd cn cs L a ccd cl outer) (call (.ref 156) [.int y ty, .int mo tmo, .int d td]) Q E s := by
  k_with_none
  k_with "m compareOp In int ref" => ((k_here; (with_reducible show wpAny _ _ (compareOp CmpOp.In (Value.int _ _) (Value.ref _)) _ _ _); (with_unfolding_all refine' in_tup30 (tupK ?zzk1 ?zzk2) ?_; (case zzk1 => k_in); (case zzk2 => k_is); k_whole)))
  k_with "m eval Call" => (((with_reducible show wpAny _ _ (eval (Expr.Call (Expr.Name _ _) (Expr.Name _ _ :: _) [] _) _) _ _ _); k_dflt (refine Call_ ?_)))
  k_with "m eval Call" => (((with_reducible show wpAny _ _ (eval (Expr.Call (Expr.Name _ _) (Expr.Constant _ _ _ :: _) [] _) _) _ _ _); k_dflt (refine Call_ ?_)))
  k_with "m call ref" => ((k_here; (with_reducible show wpAny _ _ (call (Value.ref 21) _) _ _ _); k_dflt (refine' c_isleap ?zzk1 ?zzk2 ?zzk3 ?zzk4 ?zzk5 ?zzk6 ?zzk7 ?zzk8 ?_; (case zzk1 => k_asm); (case zzk2 => k_asm); (case zzk3 => k_asm); (case zzk4 => k_asm); (case zzk5 => k_asm); (case zzk6 => first | exact rfl | assumption); (case zzk7 => ktr_room); (case zzk8 => ktr_units); skip); intro t9 h9 tk9 F9 N9; (try dsimp only); (try k_fold)))
  k_with "m call ref" => ((k_here; (with_reducible show wpAny _ _ (call (Value.ref 36) _) _ _ _); k_dflt (refine' c_toG ?zzk1 ?zzk2 ?zzk3 ?zzk4 ?zzk5 ?zzk6 ?zzk7 ?zzk8 ?zzkp ?_; (case zzk1 => k_asm); (case zzk2 => k_asm); (case zzk3 => k_asm); (case zzk4 => k_asm); (case zzk5 => k_asm); (case zzk6 => first | exact rfl | assumption); (case zzk7 => ktr_room); (case zzk8 => ktr_units); (case zzkp => first | assumption | exact dim_one _ _ | exact xstart_ok _); skip); intro t9 h9 tk9 F9 N9; (try dsimp only); (try k_fold)))
  k_with "m call ref" => ((k_here; (with_reducible show wpAny _ _ (call (Value.ref 43) _) _ _ _); k_dflt (refine' c_fromG ?zzk1 ?zzk2 ?zzk3 ?zzk4 ?zzk5 ?zzk6 ?zzk7 ?zzk8 ?_; (case zzk1 => k_asm); (case zzk2 => k_asm); (case zzk3 => k_asm); (case zzk4 => k_asm); (case zzk5 => k_asm); (case zzk6 => first | exact rfl | assumption); (case zzk7 => ktr_room); (case zzk8 => ktr_units); skip); intro D9 t91 t92 t93 c9 h9 tk9 F9 N9 l9; (try dsimp only); (try k_lt l9); (try k_sweep); (try k_fold)))
  k_with "tree" => simp only [xTo, xStart]
  refine wpAny_call ?_
  k_dflt cell_enter
  k_steps
  all_goals cb_end hret
end
section
variable {w : World} {mean : ExcName → Option Value} {mg mb : Str → Option Value} {dp un : Nat} {gd : Option (List Code)} {cn : Str} {cs : Scope} {a : Addr} {ccd : Value} {cl : List (Str × Addr)} {outer : List Env} {A₀ : Around} {base h₀ : Heap} {L : Addr} {m : Str → Option Value} {news : List (Addr × Obj)} {s : Shared} {Q E : Value → Shared → Prop}
theorem c_fromX {n : Int} {tn : Tok} (B : Below A₀ base outer h₀) (F : Fr h₀ L s.heap m) (X : (hd.heap_39 w.params).In h₀) (N : News h₀ L s.heap news) (T : Top hd.view_39 loo mean mg mb h₀) (hk : cs.kind = .function) (hdd : dp + 5 < recursionLimit) (hu : un + 40 < cLine) 
 (hret : ∀ (D : Addr) (t1 t2 t3 : Tok) (c : Nat) (h' : Heap) (tk' : Nat), Fr h₀ L h' m → News h₀ L h' ((D, ({ cls := .type "tuple", data := .seq #[.int (xY n) t1, .int (xM n) t2, .int (xD n) t3] c } : Obj)) :: news) → AllLt D news → Q (.ref D) {s with heap := h', toks := tk'}) :
  wpAny (model PySem.Challenge.pw_jb0010_01 w) (ktrTop dp un gd cn cs L a ccd cl outer) (call (.ref 163) [.int n tn]) Q E s := by
  refine wpAny_call ?_
  k_dflt cell_enter
  k_steps
  all_goals (
    refine end3d hret (by assumption) (by assumption) (by assumption) ?_ (fun _ => ?_) (fun _ _ => ?_)
    · unfold xY xYd0; split <;> first | rfl | contradiction
    · unfold xM xYd xYd0
      first | rw [show xCa n = 31 from if_pos (by assumption)] | rw [show xCa n = 30 from if_neg (by rw [Bool.not_eq_true]; assumption)]
      (repeat' split) <;> first | rfl | (exfalso; omega)
    · unfold xD xYd xYd0
      first | rw [show xCa n = 31 from if_pos (by assumption)] | rw [show xCa n = 30 from if_neg (by rw [Bool.not_eq_true]; assumption)]
      (repeat' split) <;> first | rfl | (exfalso; omega))
end
section
variable {w : World} {mean : ExcName → Option Value} {mg mb : Str → Option Value} {dp un : Nat} {gd : Option (List Code)} {cn : Str} {cs : Scope} {a : Addr} {ccd : Value} {cl : List (Str × Addr)} {outer : List Env} {A₀ : Around} {base h₀ : Heap} {L : Addr} {m : Str → Option Value} {news : List (Addr × Obj)} {s : Shared} {Q E : Value → Shared → Prop}
theorem c_long0 {y : Int} {tk ty : Tok} (B : Below A₀ base outer h₀) (F : Fr h₀ L s.heap m) (X : (hd.heap_39 w.params).In h₀) (N : News h₀ L s.heap news) (T : Top hd.view_39 loo mean mg mb h₀) (hk : cs.kind = .function) (hdd : dp + 2 < recursionLimit) (hu : un + 16 < cLine)
 (hret : ∀ (t : Tok) (h' : Heap) (tk' : Nat), Fr h₀ L h' m → News h₀ L h' news → Q (.bool (gLeap y)) {s with heap := h', toks := tk'}) :
  wpAny (model PySem.Challenge.pw_jb0010_01 w) (ktrTop dp un gd cn cs L a ccd cl outer) (call (.ref 191) [.int 0 tk, .int y ty]) Q E s := by
  k_with_none
  k_with "m compareOp In int ref" => ((k_here; (with_reducible show wpAny _ _ (compareOp CmpOp.In (Value.int _ _) (Value.ref _)) _ _ _); (with_unfolding_all refine' in_tup30 (tupK ?zzk1 ?zzk2) ?_; (case zzk1 => k_in); (case zzk2 => k_is); k_whole)))
  k_with "m eval Call" => (((with_reducible show wpAny _ _ (eval (Expr.Call (Expr.Name _ _) (Expr.Name _ _ :: _) [] _) _) _ _ _); k_dflt (refine Call_ ?_)))
  k_with "m call ref" => ((k_here; k_dflt (refine wpAny_call ?_; (refine' code_def ?zzk1 ?zzk2 ?zzk3 ?zzk4 ?zzk5 ?zzkA ?zzkF ?zzkK ?zzk6 ?zzk7 ?zzk8 ?zzk9 ?zzkB ?_ ?zzc2 ?zzc3 ?zzc4 ?zzc5; (case zzkA => exact rfl); (case zzkF => exact rfl); (case zzkK => first | exact rfl | assumption); (case zzk1 => k_asm); (case zzk2 => k_asm); (case zzk3 => k_asm); (case zzk4 => k_asm); (case zzk5 => k_asm); (case zzk6 => k_is); (case zzk7 => k_is); (case zzk8 => ktr_room); (case zzk9 => exact BindsTo.of_eq rfl); (case zzc5 => decide); (case zzkB => exact locs rfl); (case zzc2 => exact rfl); (case zzc3 => exact rfl); (case zzc4 => exact rfl); k_whole; intro g' L' h' FG' F' N' B' X' T'; (try dsimp only); (try k_lift B'); (try k_fold)))))
  refine wpAny_call ?_
  k_dflt cell_enter
  k_steps
  · exact cb_retB hret (gLeap_100 y (by assumption)) (by assumption) (by assumption)
  · exact cb_retB hret (gLeap_4 y (by assumption)) (by assumption) (by assumption)
end
section
variable {w : World} {mean : ExcName → Option Value} {mg mb : Str → Option Value} {dp un : Nat} {gd : Option (List Code)} {cn : Str} {cs : Scope} {a : Addr} {ccd : Value} {cl : List (Str × Addr)} {outer : List Env} {A₀ : Around} {base h₀ : Heap} {L : Addr} {m : Str → Option Value} {news : List (Addr × Obj)} {s : Shared} {Q E : Value → Shared → Prop}
theorem c_long1 {y : Int} {tk ty : Tok} (B : Below A₀ base outer h₀) (F : Fr h₀ L s.heap m) (X : (hd.heap_39 w.params).In h₀) (N : News h₀ L s.heap news) (T : Top hd.view_39 loo mean mg mb h₀) (hk : cs.kind = .function) (hdd : dp + 2 < recursionLimit) (hu : un + 16 < cLine)
 (hret : ∀ (t : Tok) (h' : Heap) (tk' : Nat), Fr h₀ L h' m → News h₀ L h' news → Q (.bool (jLeap y)) {s with heap := h', toks := tk'}) :
  wpAny (model PySem.Challenge.pw_jb0010_01 w) (ktrTop dp un gd cn cs L a ccd cl outer) (call (.ref 191) [.int 1 tk, .int y ty]) Q E s := by
  k_with "tree" => simp only [jLeap]
  refine wpAny_call ?_
  k_dflt cell_enter
  k_steps
  all_goals cb_end hret
end
section
variable {w : World} {mean : ExcName → Option Value} {mg mb : Str → Option Value} {dp un : Nat} {gd : Option (List Code)} {cn : Str} {cs : Scope} {a : Addr} {ccd : Value} {cl : List (Str × Addr)} {outer : List Env} {A₀ : Around} {base h₀ : Heap} {L : Addr} {m : Str → Option Value} {news : List (Addr × Obj)} {s : Shared} {Q E : Value → Shared → Prop}
theorem c_long2 {y : Int} {tk ty : Tok} (B : Below A₀ base outer h₀) (F : Fr h₀ L s.heap m) (X : (hd.heap_39 w.params).In h₀) (N : News h₀ L s.heap news) (T : Top hd.view_39 loo mean mg mb h₀) (hk : cs.kind = .function) (hdd : dp + 3 < recursionLimit) (hu : un + 24 < cLine)
 (hret : ∀ (t : Tok) (h' : Heap) (tk' : Nat), Fr h₀ L h' m → News h₀ L h' news → Q (.bool (iLong y)) {s with heap := h', toks := tk'}) :
  wpAny (model PySem.Challenge.pw_jb0010_01 w) (ktrTop dp un gd cn cs L a ccd cl outer) (call (.ref 191) [.int 2 tk, .int y ty]) Q E s := by
  refine wpAny_call ?_
  k_dflt cell_enter
  k_steps
  exact cb_retB hret (by unfold iLong; exact iany (y - 1)) (by assumption) (fun p hp => (by assumption : News _ _ _ (_ :: _)) p (.tail _ hp))
end
section
variable {w : World} {mean : ExcName → Option Value} {mg mb : Str → Option Value} {dp un : Nat} {gd : Option (List Code)} {cn : Str} {cs : Scope} {a : Addr} {ccd : Value} {cl : List (Str × Addr)} {outer : List Env} {A₀ : Around} {base h₀ : Heap} {L : Addr} {m : Str → Option Value} {news : List (Addr × Obj)} {s : Shared} {Q E : Value → Shared → Prop}
theorem c_long3 {y : Int} {tk ty : Tok} (B : Below A₀ base outer h₀) (F : Fr h₀ L s.heap m) (X : (hd.heap_39 w.params).In h₀) (N : News h₀ L s.heap news) (T : Top hd.view_39 loo mean mg mb h₀) (hk : cs.kind = .function) (hdd : dp + 2 < recursionLimit) (hu : un + 16 < cLine)
 (hret : ∀ (t : Tok) (h' : Heap) (tk' : Nat), Fr h₀ L h' m → News h₀ L h' news → Q (.bool (cLong y)) {s with heap := h', toks := tk'}) :
  wpAny (model PySem.Challenge.pw_jb0010_01 w) (ktrTop dp un gd cn cs L a ccd cl outer) (call (.ref 191) [.int 3 tk, .int y ty]) Q E s := by
  k_with "tree" => simp only [cLong]
  refine wpAny_call ?_
  k_dflt cell_enter
  k_steps
  all_goals cb_end hret
end
section
variable {w : World} {mean : ExcName → Option Value} {mg mb : Str → Option Value} {dp un : Nat} {gd : Option (List Code)} {cn : Str} {cs : Scope} {a : Addr} {ccd : Value} {cl : List (Str × Addr)} {outer : List Env} {A₀ : Around} {base h₀ : Heap} {L : Addr} {m : Str → Option Value} {news : List (Addr × Obj)} {s : Shared} {Q E : Value → Shared → Prop}
theorem c_long4 {y : Int} {tk ty : Tok} (B : Below A₀ base outer h₀) (F : Fr h₀ L s.heap m) (X : (hd.heap_39 w.params).In h₀) (N : News h₀ L s.heap news) (T : Top hd.view_39 loo mean mg mb h₀) (hk : cs.kind = .function) (hdd : dp + 2 < recursionLimit) (hu : un + 16 < cLine)
 (hret : ∀ (t : Tok) (h' : Heap) (tk' : Nat), Fr h₀ L h' m → News h₀ L h' news → Q (.bool (gLeap (y + 78))) {s with heap := h', toks := tk'}) :
  wpAny (model PySem.Challenge.pw_jb0010_01 w) (ktrTop dp un gd cn cs L a ccd cl outer) (call (.ref 191) [.int 4 tk, .int y ty]) Q E s := by
  refine wpAny_call ?_
  k_dflt cell_enter
  k_steps
  · exact cb_retB hret (gLeap_100 (y + 78) (by assumption)) (by assumption) (by assumption)
  · exact cb_retB hret (gLeap_4 (y + 78) (by assumption)) (by assumption) (by assumption)
end
section
variable {w : World} {mean : ExcName → Option Value} {mg mb : Str → Option Value} {dp un : Nat} {gd : Option (List Code)} {cn : Str} {cs : Scope} {a : Addr} {ccd : Value} {cl : List (Str × Addr)} {outer : List Env} {A₀ : Around} {base h₀ : Heap} {L : Addr} {m : Str → Option Value} {news : List (Addr × Obj)} {s : Shared} {Q E : Value → Shared → Prop}
theorem c_months0 {y : Int} {tk ty : Tok} (B : Below A₀ base outer h₀) (F : Fr h₀ L s.heap m) (X : (hd.heap_39 w.params).In h₀) (N : News h₀ L s.heap news) (T : Top hd.view_39 loo mean mg mb h₀) (hk : cs.kind = .function) (hdd : dp + 4 < recursionLimit) (hu : un + 32 < cLine)
 (hret : ∀ (D : Addr) (t0 t1 t2 t3 t4 t5 t6 t7 t8 t9 t10 t11 : Tok) (h' : Heap) (tk' : Nat), Fr h₀ L h' m → News h₀ L h' ((D, W.listOf #[.int (31) t0, .int (28 + b2i (gLeap y)) t1, .int (31) t2, .int (30) t3, .int (31) t4, .int (30) t5, .int (31) t6, .int (31) t7, .int (30) t8, .int (31) t9, .int (30) t10, .int (31) t11] 0) :: news) → AllLt D news → Q (.ref D) {s with heap := h', toks := tk'}) :
  wpAny (model PySem.Challenge.pw_jb0010_01 w) (ktrTop dp un gd cn cs L a ccd cl outer) (call (.ref 198) [.int 0 tk, .int y ty]) Q E s := by
  k_with_none
  k_with "m compareOp In int ref" => ((k_here; (with_reducible show wpAny _ _ (compareOp CmpOp.In (Value.int _ _) (Value.ref _)) _ _ _); (with_unfolding_all refine' in_tup30 (tupK ?zzk1 ?zzk2) ?_; (case zzk1 => k_in); (case zzk2 => k_is); k_whole)))
  k_with "m eval Call" => (((with_reducible show wpAny _ _ (eval (Expr.Call (Expr.Name _ _) (Expr.Name _ _ :: _) [] _) _) _ _ _); k_dflt (refine Call_ ?_)))
  k_with "m call ref" => ((k_here; k_dflt (refine wpAny_call ?_; (refine' code_def ?zzk1 ?zzk2 ?zzk3 ?zzk4 ?zzk5 ?zzkA ?zzkF ?zzkK ?zzk6 ?zzk7 ?zzk8 ?zzk9 ?zzkB ?_ ?zzc2 ?zzc3 ?zzc4 ?zzc5; (case zzkA => exact rfl); (case zzkF => exact rfl); (case zzkK => first | exact rfl | assumption); (case zzk1 => k_asm); (case zzk2 => k_asm); (case zzk3 => k_asm); (case zzk4 => k_asm); (case zzk5 => k_asm); (case zzk6 => k_is); (case zzk7 => k_is); (case zzk8 => ktr_room); (case zzk9 => exact BindsTo.of_eq rfl); (case zzc5 => decide); (case zzkB => exact locs rfl); (case zzc2 => exact rfl); (case zzc3 => exact rfl); (case zzc4 => exact rfl); k_whole; intro g' L' h' FG' F' N' B' X' T'; (try dsimp only); (try k_lift B'); (try k_fold)))))
  k_with "m ite" => ((k_closed; first | rw [if_pos (by decide)] | rw [if_neg (by decide)]))
  k_with "m call ref" => ((k_here; (with_reducible show wpAny _ _ (call (Value.ref 191) [Value.int 0 _, _]) _ _ _); k_dflt (refine' c_long0 ?zzk1 ?zzk2 ?zzk3 ?zzk4 ?zzk5 ?zzk6 ?zzk7 ?zzk8 ?_; (case zzk1 => k_asm); (case zzk2 => k_asm); (case zzk3 => k_asm); (case zzk4 => k_asm); (case zzk5 => k_asm); (case zzk6 => first | exact rfl | assumption); (case zzk7 => ktr_room); (case zzk8 => ktr_units); skip); intro t9 h9 tk9 F9 N9; (try dsimp only); (try k_fold)))
  k_with "m call ref" => ((k_here; (with_reducible show wpAny _ _ (call (Value.ref 191) [Value.int 1 _, _]) _ _ _); k_dflt (refine' c_long1 ?zzk1 ?zzk2 ?zzk3 ?zzk4 ?zzk5 ?zzk6 ?zzk7 ?zzk8 ?_; (case zzk1 => k_asm); (case zzk2 => k_asm); (case zzk3 => k_asm); (case zzk4 => k_asm); (case zzk5 => k_asm); (case zzk6 => first | exact rfl | assumption); (case zzk7 => ktr_room); (case zzk8 => ktr_units); skip); intro t9 h9 tk9 F9 N9; (try dsimp only); (try k_fold)))
  k_with "m call ref" => ((k_here; (with_reducible show wpAny _ _ (call (Value.ref 191) [Value.int 2 _, _]) _ _ _); k_dflt (refine' c_long2 ?zzk1 ?zzk2 ?zzk3 ?zzk4 ?zzk5 ?zzk6 ?zzk7 ?zzk8 ?_; (case zzk1 => k_asm); (case zzk2 => k_asm); (case zzk3 => k_asm); (case zzk4 => k_asm); (case zzk5 => k_asm); (case zzk6 => first | exact rfl | assumption); (case zzk7 => ktr_room); (case zzk8 => ktr_units); skip); intro t9 h9 tk9 F9 N9; (try dsimp only); (try k_fold)))
  k_with "m call ref" => ((k_here; (with_reducible show wpAny _ _ (call (Value.ref 191) [Value.int 3 _, _]) _ _ _); k_dflt (refine' c_long3 ?zzk1 ?zzk2 ?zzk3 ?zzk4 ?zzk5 ?zzk6 ?zzk7 ?zzk8 ?_; (case zzk1 => k_asm); (case zzk2 => k_asm); (case zzk3 => k_asm); (case zzk4 => k_asm); (case zzk5 => k_asm); (case zzk6 => first | exact rfl | assumption); (case zzk7 => ktr_room); (case zzk8 => ktr_units); skip); intro t9 h9 tk9 F9 N9; (try dsimp only); (try k_fold)))
  k_with "m call ref" => ((k_here; (with_reducible show wpAny _ _ (call (Value.ref 191) [Value.int 4 _, _]) _ _ _); k_dflt (refine' c_long4 ?zzk1 ?zzk2 ?zzk3 ?zzk4 ?zzk5 ?zzk6 ?zzk7 ?zzk8 ?_; (case zzk1 => k_asm); (case zzk2 => k_asm); (case zzk3 => k_asm); (case zzk4 => k_asm); (case zzk5 => k_asm); (case zzk6 => first | exact rfl | assumption); (case zzk7 => ktr_room); (case zzk8 => ktr_units); skip); intro t9 h9 tk9 F9 N9; (try dsimp only); (try k_fold)))
  refine wpAny_call ?_
  k_dflt cell_enter
  k_steps
  all_goals (
    first
      | rw [show b2i (gLeap y) = 1 from if_pos (by assumption)] at hret
      | rw [show b2i (gLeap y) = 0 from if_neg (by rw [Bool.not_eq_true]; assumption)] at hret
    rename Fr _ _ _ _ => nF
    rename News _ _ _ _ => nN
    exact hret _ _ _ _ _ _ _ _ _ _ _ _ _ _ _ nF nN (by ktn_lt))
end
section
variable {w : World} {mean : ExcName → Option Value} {mg mb : Str → Option Value} {dp un : Nat} {gd : Option (List Code)} {cn : Str} {cs : Scope} {a : Addr} {ccd : Value} {cl : List (Str × Addr)} {outer : List Env} {A₀ : Around} {base h₀ : Heap} {L : Addr} {m : Str → Option Value} {news : List (Addr × Obj)} {s : Shared} {Q E : Value → Shared → Prop}
theorem c_months1 {y : Int} {tk ty : Tok} (B : Below A₀ base outer h₀) (F : Fr h₀ L s.heap m) (X : (hd.heap_39 w.params).In h₀) (N : News h₀ L s.heap news) (T : Top hd.view_39 loo mean mg mb h₀) (hk : cs.kind = .function) (hdd : dp + 4 < recursionLimit) (hu : un + 32 < cLine)
 (hret : ∀ (D : Addr) (t0 t1 t2 t3 t4 t5 t6 t7 t8 t9 t10 t11 : Tok) (h' : Heap) (tk' : Nat), Fr h₀ L h' m → News h₀ L h' ((D, W.listOf #[.int (31) t0, .int (28 + b2i (jLeap y)) t1, .int (31) t2, .int (30) t3, .int (31) t4, .int (30) t5, .int (31) t6, .int (31) t7, .int (30) t8, .int (31) t9, .int (30) t10, .int (31) t11] 0) :: news) → AllLt D news → Q (.ref D) {s with heap := h', toks := tk'}) :
  wpAny (model PySem.Challenge.pw_jb0010_01 w) (ktrTop dp un gd cn cs L a ccd cl outer) (call (.ref 198) [.int 1 tk, .int y ty]) Q E s := by
  refine wpAny_call ?_
  k_dflt cell_enter
  k_steps
  all_goals (
    first
      | rw [show b2i (jLeap y) = 1 from if_pos (by assumption)] at hret
      | rw [show b2i (jLeap y) = 0 from if_neg (by rw [Bool.not_eq_true]; assumption)] at hret
    rename Fr _ _ _ _ => nF
    rename News _ _ _ _ => nN
    exact hret _ _ _ _ _ _ _ _ _ _ _ _ _ _ _ nF nN (by ktn_lt))
end
section
variable {w : World} {mean : ExcName → Option Value} {mg mb : Str → Option Value} {dp un : Nat} {gd : Option (List Code)} {cn : Str} {cs : Scope} {a : Addr} {ccd : Value} {cl : List (Str × Addr)} {outer : List Env} {A₀ : Around} {base h₀ : Heap} {L : Addr} {m : Str → Option Value} {news : List (Addr × Obj)} {s : Shared} {Q E : Value → Shared → Prop}
theorem c_months2 {y : Int} {tk ty : Tok} (B : Below A₀ base outer h₀) (F : Fr h₀ L s.heap m) (X : (hd.heap_39 w.params).In h₀) (N : News h₀ L s.heap news) (T : Top hd.view_39 loo mean mg mb h₀) (hk : cs.kind = .function) (hdd : dp + 4 < recursionLimit) (hu : un + 32 < cLine)
 (hret : ∀ (D : Addr) (t0 t1 t2 t3 t4 t5 t6 t7 t8 t9 t10 t11 : Tok) (h' : Heap) (tk' : Nat), Fr h₀ L h' m → News h₀ L h' ((D, W.listOf #[.int (30) t0, .int (29) t1, .int (30) t2, .int (29) t3, .int (30) t4, .int (29) t5, .int (30) t6, .int (29) t7, .int (30) t8, .int (29) t9, .int (30) t10, .int (29 + b2i (iLong y)) t11] 0) :: news) → AllLt D news → Q (.ref D) {s with heap := h', toks := tk'}) :
  wpAny (model PySem.Challenge.pw_jb0010_01 w) (ktrTop dp un gd cn cs L a ccd cl outer) (call (.ref 198) [.int 2 tk, .int y ty]) Q E s := by
  refine wpAny_call ?_
  k_dflt cell_enter
  k_steps
  all_goals (
    first
      | rw [show b2i (iLong y) = 1 from if_pos (by assumption)] at hret
      | rw [show b2i (iLong y) = 0 from if_neg (by rw [Bool.not_eq_true]; assumption)] at hret
    rename Fr _ _ _ _ => nF
    rename News _ _ _ _ => nN
    exact hret _ _ _ _ _ _ _ _ _ _ _ _ _ _ _ nF nN (by ktn_lt))
end
section
variable {w : World} {mean : ExcName → Option Value} {mg mb : Str → Option Value} {dp un : Nat} {gd : Option (List Code)} {cn : Str} {cs : Scope} {a : Addr} {ccd : Value} {cl : List (Str × Addr)} {outer : List Env} {A₀ : Around} {base h₀ : Heap} {L : Addr} {m : Str → Option Value} {news : List (Addr × Obj)} {s : Shared} {Q E : Value → Shared → Prop}
theorem c_months3 {y : Int} {tk ty : Tok} (B : Below A₀ base outer h₀) (F : Fr h₀ L s.heap m) (X : (hd.heap_39 w.params).In h₀) (N : News h₀ L s.heap news) (T : Top hd.view_39 loo mean mg mb h₀) (hk : cs.kind = .function) (hdd : dp + 4 < recursionLimit) (hu : un + 32 < cLine)
 (hret : ∀ (D : Addr) (t0 t1 t2 t3 t4 t5 t6 t7 t8 t9 t10 t11 t12 : Tok) (h' : Heap) (tk' : Nat), Fr h₀ L h' m → News h₀ L h' ((D, W.listOf #[.int (30) t0, .int (30) t1, .int (30) t2, .int (30) t3, .int (30) t4, .int (30) t5, .int (30) t6, .int (30) t7, .int (30) t8, .int (30) t9, .int (30) t10, .int (30) t11, .int (5 + b2i (cLong y)) t12] 0) :: news) → AllLt D news → Q (.ref D) {s with heap := h', toks := tk'}) :
  wpAny (model PySem.Challenge.pw_jb0010_01 w) (ktrTop dp un gd cn cs L a ccd cl outer) (call (.ref 198) [.int 3 tk, .int y ty]) Q E s := by
  refine wpAny_call ?_
  k_dflt cell_enter
  k_steps
  all_goals (
    first
      | rw [show b2i (cLong y) = 1 from if_pos (by assumption)] at hret
      | rw [show b2i (cLong y) = 0 from if_neg (by rw [Bool.not_eq_true]; assumption)] at hret
    rename Fr _ _ _ _ => nF
    rename News _ _ _ _ => nN
    exact hret _ _ _ _ _ _ _ _ _ _ _ _ _ _ _ _ nF nN (by ktn_lt))
end
section
variable {w : World} {mean : ExcName → Option Value} {mg mb : Str → Option Value} {dp un : Nat} {gd : Option (List Code)} {cn : Str} {cs : Scope} {a : Addr} {ccd : Value} {cl : List (Str × Addr)} {outer : List Env} {A₀ : Around} {base h₀ : Heap} {L : Addr} {m : Str → Option Value} {news : List (Addr × Obj)} {s : Shared} {Q E : Value → Shared → Prop}
theorem c_months4 {y : Int} {tk ty : Tok} (B : Below A₀ base outer h₀) (F : Fr h₀ L s.heap m) (X : (hd.heap_39 w.params).In h₀) (N : News h₀ L s.heap news) (T : Top hd.view_39 loo mean mg mb h₀) (hk : cs.kind = .function) (hdd : dp + 4 < recursionLimit) (hu : un + 32 < cLine)
 (hret : ∀ (D : Addr) (t0 t1 t2 t3 t4 t5 t6 t7 t8 t9 t10 t11 : Tok) (h' : Heap) (tk' : Nat), Fr h₀ L h' m → News h₀ L h' ((D, W.listOf #[.int (30 + b2i (gLeap (y + 78))) t0, .int (31) t1, .int (31) t2, .int (31) t3, .int (31) t4, .int (31) t5, .int (30) t6, .int (30) t7, .int (30) t8, .int (30) t9, .int (30) t10, .int (30) t11] 0) :: news) → AllLt D news → Q (.ref D) {s with heap := h', toks := tk'}) :
  wpAny (model PySem.Challenge.pw_jb0010_01 w) (ktrTop dp un gd cn cs L a ccd cl outer) (call (.ref 198) [.int 4 tk, .int y ty]) Q E s := by
  refine wpAny_call ?_
  k_dflt cell_enter
  k_steps
  all_goals (
    first
      | rw [show b2i (gLeap (y + 78)) = 1 from if_pos (by assumption)] at hret
      | rw [show b2i (gLeap (y + 78)) = 0 from if_neg (by rw [Bool.not_eq_true]; assumption)] at hret
    rename Fr _ _ _ _ => nF
    rename News _ _ _ _ => nN
    exact hret _ _ _ _ _ _ _ _ _ _ _ _ _ _ _ nF nN (by ktn_lt))
end
theorem all_ne_succ {L' : Addr} {news : List (Addr × Obj)} (h : ∀ (p : Addr × Obj), p ∈ news → p.1 < L') : ∀ p ∈ news, p.1 ≠ L' + 1 := by
  intro p hp e
  have := h p hp
  rw [e] at this
  exact absurd this (Nat.not_lt.mpr (Nat.le_succ _))
theorem news_tail {h₀ : Heap} {L : Addr} {h : Heap} {p : Addr × Obj} {r : List (Addr × Obj)} (N : News h₀ L h (p :: r)) : News h₀ L h r := fun x hx => N x (.tail _ hx)
theorem small4 {p : Int} (h0 : 0 ≤ p) (h1 : p < 400) : Builtin.Range.small 0 p 4 = true := by
  unfold Builtin.Range.small Builtin.Range.rangeSize
  simp only [Builtin.Range.rangeFitsLong, Bool.and_eq_true, Bool.or_eq_true, decide_eq_true_eq, beq_iff_eq, show (4 : Int) > 0 by decide, if_true]
  (repeat' split) <;> omega
theorem rsize4 {p : Int} (h0 : 0 ≤ p) (h1 : p < 400) : Builtin.Range.rangeSize 0 p 4 = (((p + 3) / 4).toNat : Int) := by
  unfold Builtin.Range.rangeSize
  rw [if_pos (by decide)]
  split <;> omega
def Halt (P : Prop) : Prop := P
theorem halt {α : Type} {M : Model} {A : Around} {E : Value → Shared → Prop} {s : Shared} {t : Sem α} {Q : α → Shared → Prop} (h : Halt (wpAny M A t Q E s)) : wpAny M A t Q E s := h
theorem haltQ {α : Type} {M : Model} {A : Around} {E : Value → Shared → Prop} {s : Shared} {t : Sem α} {Q : α → Shared → Prop} (h : wpAny M A t (fun a s' => Halt (Q a s')) E s) : wpAny M A t Q E s := h
theorem pinned {α : Type} {M : Model} {A : Around} {E : Value → Shared → Prop} {s : Shared} {t : Sem α} {Q : α → Shared → Prop} {h₀ : Heap} {L : Addr} {m : Str → Option Value} (F : Fr h₀ L s.heap m)
    (k : ∀ (h₁ : Heap) (L₁ : Addr) (m₁ : Str → Option Value), h₀ = h₁ → L = L₁ → m = m₁ → wpAny M A t Q E s) : wpAny M A t Q E s := k _ _ _ rfl rfl rfl
section
variable {w : World} {mean : ExcName → Option Value} {mg mb : Str → Option Value} {dp un : Nat} {gd : Option (List Code)} {cn : Str} {cs : Scope} {a : Addr} {ccd : Value} {cl : List (Str × Addr)} {outer : List Env} {A₀ : Around} {base h₀ : Heap} {L : Addr} {m : Str → Option Value} {news : List (Addr × Obj)} {s : Shared} {Q E : Value → Shared → Prop}
theorem c_first0 {y : Int} {tk ty : Tok} (B : Below A₀ base outer h₀) (F : Fr h₀ L s.heap m) (X : (hd.heap_39 w.params).In h₀) (N : News h₀ L s.heap news) (T : Top hd.view_39 loo mean mg mb h₀) (hk : cs.kind = .function) (hdd : dp + 2 < recursionLimit) (hu : un + 16 < cLine)
 (hret : ∀ (t : Tok) (h' : Heap) (tk' : Nat), Fr h₀ L h' m → News h₀ L h' news → Q (.int (gFirst y) t) {s with heap := h', toks := tk'}) :
  wpAny (model PySem.Challenge.pw_jb0010_01 w) (ktrTop dp un gd cn cs L a ccd cl outer) (call (.ref 203) [.int 0 tk, .int y ty]) Q E s := by
  k_with_none
  k_with "m compareOp In int ref" => ((k_here; (with_reducible show wpAny _ _ (compareOp CmpOp.In (Value.int _ _) (Value.ref _)) _ _ _); (with_unfolding_all refine' in_tup30 (tupK ?zzk1 ?zzk2) ?_; (case zzk1 => k_in); (case zzk2 => k_is); k_whole)))
  k_with "m eval Call" => (((with_reducible show wpAny _ _ (eval (Expr.Call (Expr.Name _ _) (Expr.Name _ _ :: _) [] _) _) _ _ _); k_dflt (refine Call_ ?_)))
  k_with "m call ref" => ((k_here; k_dflt (refine wpAny_call ?_; (refine' code_def ?zzk1 ?zzk2 ?zzk3 ?zzk4 ?zzk5 ?zzkA ?zzkF ?zzkK ?zzk6 ?zzk7 ?zzk8 ?zzk9 ?zzkB ?_ ?zzc2 ?zzc3 ?zzc4 ?zzc5; (case zzkA => exact rfl); (case zzkF => exact rfl); (case zzkK => first | exact rfl | assumption); (case zzk1 => k_asm); (case zzk2 => k_asm); (case zzk3 => k_asm); (case zzk4 => k_asm); (case zzk5 => k_asm); (case zzk6 => k_is); (case zzk7 => k_is); (case zzk8 => ktr_room); (case zzk9 => exact BindsTo.of_eq rfl); (case zzc5 => decide); (case zzkB => exact locs rfl); (case zzc2 => exact rfl); (case zzc3 => exact rfl); (case zzc4 => exact rfl); k_whole; intro g' L' h' FG' F' N' B' X' T'; (try dsimp only); (try k_lift B'); (try k_fold)))))
  k_with "m storeName" => ((k_here; k_dflt (refine' storeX_C ?zzF (news_tail ?zzN) ?zzc (UpdF.head ?zzU) ?zzd ?_ ?zza ?zzb; (case zza => rfl); (case zzb => rfl); (case zzF => k_asm); (case zzc => rfl); (case zzN => k_asm); (case zzU => exact all_ne_succ (by assumption)); (case zzd => k_asm); k_whole; intro h' o' F' N' d'; (try dsimp only at N'); (try k_sweep))))
  k_with "m eval ListComp" => ((k_here; with_reducible refine halt ?_))
  k_with "m execs cons" => (((with_reducible refine wpAny_execs_cons ?_); (try dsimp only)))
  refine wpAny_call ?_
  k_dflt (refine' code_defC ?k1 ?k2 ?k3 ?k4 ?k5 ?kA ?kF ?kK ?k6 ?k7 ?k8 ?k9 ?kB ?kD ?_ ?c2 ?c3 ?c4; (case kA => exact rfl); (case kF => exact rfl); (case kK => first | exact rfl | assumption); (case k1 => k_asm); (case k2 => k_asm); (case k3 => k_asm); (case k4 => k_asm); (case k5 => k_asm); (case k6 => k_is); (case k7 => k_is); (case k8 => ktr_room); (case k9 => exact BindsTo.of_eq rfl); (case kB => exact rfl); (case kD => decide +kernel); (case c2 => exact rfl); (case c3 => exact rfl); (case c4 => exact rfl); k_whole; intro g' L' h' tk' cells' FG' F' N' Y' B' X' T' l1; (try k_lt l1); k_cells Y'; (try simp only [List.cons_append, List.nil_append] at N'); (try dsimp only); (try k_lift B'); (try k_fold))
  k_steps
  k_dflt (refine pinned (by k_asm) ?_)
  intro h₁ L₁ m₁ e1 e2 e3
  refine ListComp_DCr (h₀ := h₁) (L := L₁) (m := m₁) (pz := fun b => decide (b = 0 ∨ b.fmod 100 ≠ 0)) (d := PyData.int) (by with_unfolding_all rfl) (by with_unfolding_all rfl) (by decide) (by with_unfolding_all rfl) (by decide) (by with_unfolding_all rfl) ?_ (by intro _; with_unfolding_all rfl)
  subst e1 e2 e3
  refine haltQ ?_
  k_steps
  rename IsRange _ _ _ _ _ _ _ _ => R'
  rename Fr _ _ _ _ => F'
  rename News _ _ _ _ => N'
  have hp0 : 0 ≤ (y - 2000).fmod 400 ∧ (y - 2000).fmod 400 < 400 := by rw [fm _ (by omega)]; omega
  unfold Halt
  refine ⟨_, _, _, _, _, _, _, _, (((y - 2000).fmod 400 + 3) / 4).toNat, rfl, R', small4 hp0.1 hp0.2, rsize4 hp0.1 hp0.2, ?_, F', N', ?_, ?_, ?_⟩
  · rw [PySem.sizeLine_eq]; omega
  · intro C b v s₂ m₂ E' hC hb hv hns hm hk
    obtain ⟨tb, rfl⟩ := hv
    k_steps
    all_goals first
      | exact ⟨_, _, rfl, fun _ _ e => e⟩
      | exact (decide_eq_true (Or.inl (by assumption))).symm
      | exact (decide_eq_true (Or.inr (by assumption))).symm
      | exact (decide_eq_false (by rintro (h | h) <;> contradiction)).symm
  · intro C b v s₂ m₂ E' hC hb hv hb2 hns hm hk
    obtain ⟨tb, rfl⟩ := hv
    k_steps
    all_goals first
      | exact ⟨_, _, rfl, fun _ _ e => e⟩
      | exact Carried.int _ _
  · intro D ys h2 tk2 F2 N2 hD hl hnp hc
    (try dsimp only)
    k_steps
    all_goals (
      refine cb_retI hret ?_ (by assumption) (by first | assumption | (refine' cb_drop ?cbN ?cbS; (case cbN => assumption); (case cbS => kcj_all)))
      rw [List.length_map, show (rangeInts 0 4 _) = _ from rfl, rangeInts, cnt4]; exact gfirst_eq y _ rfl)
end
section
variable {w : World} {mean : ExcName → Option Value} {mg mb : Str → Option Value} {dp un : Nat} {gd : Option (List Code)} {cn : Str} {cs : Scope} {a : Addr} {ccd : Value} {cl : List (Str × Addr)} {outer : List Env} {A₀ : Around} {base h₀ : Heap} {L : Addr} {m : Str → Option Value} {news : List (Addr × Obj)} {s : Shared} {Q E : Value → Shared → Prop}
theorem c_first1 {y : Int} {tk ty : Tok} (B : Below A₀ base outer h₀) (F : Fr h₀ L s.heap m) (X : (hd.heap_39 w.params).In h₀) (N : News h₀ L s.heap news) (T : Top hd.view_39 loo mean mg mb h₀) (hk : cs.kind = .function) (hdd : dp + 2 < recursionLimit) (hu : un + 16 < cLine)
 (hret : ∀ (t : Tok) (h' : Heap) (tk' : Nat), Fr h₀ L h' m → News h₀ L h' news → Q (.int (jFirst y) t) {s with heap := h', toks := tk'}) :
  wpAny (model PySem.Challenge.pw_jb0010_01 w) (ktrTop dp un gd cn cs L a ccd cl outer) (call (.ref 203) [.int 1 tk, .int y ty]) Q E s := by
  k_with_none
  k_with "m compareOp In int ref" => ((k_here; (with_reducible show wpAny _ _ (compareOp CmpOp.In (Value.int _ _) (Value.ref _)) _ _ _); (with_unfolding_all refine' in_tup30 (tupK ?zzk1 ?zzk2) ?_; (case zzk1 => k_in); (case zzk2 => k_is); k_whole)))
  k_with "m eval Call" => (((with_reducible show wpAny _ _ (eval (Expr.Call (Expr.Name _ _) (Expr.Name _ _ :: _) [] _) _) _ _ _); k_dflt (refine Call_ ?_)))
  k_with "m call ref" => ((k_here; k_dflt (refine wpAny_call ?_; (refine' code_def ?zzk1 ?zzk2 ?zzk3 ?zzk4 ?zzk5 ?zzkA ?zzkF ?zzkK ?zzk6 ?zzk7 ?zzk8 ?zzk9 ?zzkB ?_ ?zzc2 ?zzc3 ?zzc4 ?zzc5; (case zzkA => exact rfl); (case zzkF => exact rfl); (case zzkK => first | exact rfl | assumption); (case zzk1 => k_asm); (case zzk2 => k_asm); (case zzk3 => k_asm); (case zzk4 => k_asm); (case zzk5 => k_asm); (case zzk6 => k_is); (case zzk7 => k_is); (case zzk8 => ktr_room); (case zzk9 => exact BindsTo.of_eq rfl); (case zzc5 => decide); (case zzkB => exact locs rfl); (case zzc2 => exact rfl); (case zzc3 => exact rfl); (case zzc4 => exact rfl); k_whole; intro g' L' h' FG' F' N' B' X' T'; (try dsimp only); (try k_lift B'); (try k_fold)))))
  k_with "m storeName" => ((k_here; k_dflt (refine' storeX_C ?zzF (news_tail ?zzN) ?zzc (UpdF.head ?zzU) ?zzd ?_ ?zza ?zzb; (case zza => rfl); (case zzb => rfl); (case zzF => k_asm); (case zzc => rfl); (case zzN => k_asm); (case zzU => exact all_ne_succ (by assumption)); (case zzd => k_asm); k_whole; intro h' o' F' N' d'; (try dsimp only at N'); (try k_sweep))))
  k_with "m eval ListComp" => ((k_here; with_reducible refine halt ?_))
  k_with "m execs cons" => (((with_reducible refine wpAny_execs_cons ?_); (try dsimp only)))
  refine wpAny_call ?_
  k_dflt (refine' code_defC ?k1 ?k2 ?k3 ?k4 ?k5 ?kA ?kF ?kK ?k6 ?k7 ?k8 ?k9 ?kB ?kD ?_ ?c2 ?c3 ?c4; (case kA => exact rfl); (case kF => exact rfl); (case kK => first | exact rfl | assumption); (case k1 => k_asm); (case k2 => k_asm); (case k3 => k_asm); (case k4 => k_asm); (case k5 => k_asm); (case k6 => k_is); (case k7 => k_is); (case k8 => ktr_room); (case k9 => exact BindsTo.of_eq rfl); (case kB => exact rfl); (case kD => decide +kernel); (case c2 => exact rfl); (case c3 => exact rfl); (case c4 => exact rfl); k_whole; intro g' L' h' tk' cells' FG' F' N' Y' B' X' T' l1; (try k_lt l1); k_cells Y'; (try simp only [List.cons_append, List.nil_append] at N'); (try dsimp only); (try k_lift B'); (try k_fold))
  k_steps
  all_goals (refine cb_retI hret ?_ (by assumption) (by first | assumption | (refine' cb_drop ?cbN ?cbS; (case cbN => assumption); (case cbS => kcj_all))); unfold jFirst; first | rw [if_pos (by assumption)] | rw [if_neg (by assumption)])
end
section
variable {w : World} {mean : ExcName → Option Value} {mg mb : Str → Option Value} {dp un : Nat} {gd : Option (List Code)} {cn : Str} {cs : Scope} {a : Addr} {ccd : Value} {cl : List (Str × Addr)} {outer : List Env} {A₀ : Around} {base h₀ : Heap} {L : Addr} {m : Str → Option Value} {news : List (Addr × Obj)} {s : Shared} {Q E : Value → Shared → Prop}
theorem c_first2 {y : Int} {tk ty : Tok} (B : Below A₀ base outer h₀) (F : Fr h₀ L s.heap m) (X : (hd.heap_39 w.params).In h₀) (N : News h₀ L s.heap news) (T : Top hd.view_39 loo mean mg mb h₀) (hk : cs.kind = .function) (hdd : dp + 3 < recursionLimit) (hu : un + 24 < cLine)
 (hret : ∀ (t : Tok) (h' : Heap) (tk' : Nat), Fr h₀ L h' m → News h₀ L h' news → Q (.int (iFirst y) t) {s with heap := h', toks := tk'}) :
  wpAny (model PySem.Challenge.pw_jb0010_01 w) (ktrTop dp un gd cn cs L a ccd cl outer) (call (.ref 203) [.int 2 tk, .int y ty]) Q E s := by
  k_with_none
  k_with "m compareOp In int ref" => ((k_here; (with_reducible show wpAny _ _ (compareOp CmpOp.In (Value.int _ _) (Value.ref _)) _ _ _); (with_unfolding_all refine' in_tup30 (tupK ?zzk1 ?zzk2) ?_; (case zzk1 => k_in); (case zzk2 => k_is); k_whole)))
  k_with "m eval Call" => (((with_reducible show wpAny _ _ (eval (Expr.Call (Expr.Name _ _) (Expr.Name _ _ :: _) [] _) _) _ _ _); k_dflt (refine Call_ ?_)))
  k_with "m call ref" => ((k_here; k_dflt (refine wpAny_call ?_; (refine' code_def ?zzk1 ?zzk2 ?zzk3 ?zzk4 ?zzk5 ?zzkA ?zzkF ?zzkK ?zzk6 ?zzk7 ?zzk8 ?zzk9 ?zzkB ?_ ?zzc2 ?zzc3 ?zzc4 ?zzc5; (case zzkA => exact rfl); (case zzkF => exact rfl); (case zzkK => first | exact rfl | assumption); (case zzk1 => k_asm); (case zzk2 => k_asm); (case zzk3 => k_asm); (case zzk4 => k_asm); (case zzk5 => k_asm); (case zzk6 => k_is); (case zzk7 => k_is); (case zzk8 => ktr_room); (case zzk9 => exact BindsTo.of_eq rfl); (case zzc5 => decide); (case zzkB => exact locs rfl); (case zzc2 => exact rfl); (case zzc3 => exact rfl); (case zzc4 => exact rfl); k_whole; intro g' L' h' FG' F' N' B' X' T'; (try dsimp only); (try k_lift B'); (try k_fold)))))
  k_with "m storeName" => ((k_here; k_dflt (refine' storeX_C ?zzF (news_tail ?zzN) ?zzc (UpdF.head ?zzU) ?zzd ?_ ?zza ?zzb; (case zza => rfl); (case zzb => rfl); (case zzF => k_asm); (case zzc => rfl); (case zzN => k_asm); (case zzU => exact all_ne_succ (by assumption)); (case zzd => k_asm); k_whole; intro h' o' F' N' d'; (try dsimp only at N'); (try k_sweep))))
  k_with "m eval ListComp" => ((k_here; with_reducible refine halt ?_))
  k_with "m execs cons" => (((with_reducible refine wpAny_execs_cons ?_); (try dsimp only)))
  refine wpAny_call ?_
  k_dflt (refine' code_defC ?k1 ?k2 ?k3 ?k4 ?k5 ?kA ?kF ?kK ?k6 ?k7 ?k8 ?k9 ?kB ?kD ?_ ?c2 ?c3 ?c4; (case kA => exact rfl); (case kF => exact rfl); (case kK => first | exact rfl | assumption); (case k1 => k_asm); (case k2 => k_asm); (case k3 => k_asm); (case k4 => k_asm); (case k5 => k_asm); (case k6 => k_is); (case k7 => k_is); (case k8 => ktr_room); (case k9 => exact BindsTo.of_eq rfl); (case kB => exact rfl); (case kD => decide +kernel); (case c2 => exact rfl); (case c3 => exact rfl); (case c4 => exact rfl); k_whole; intro g' L' h' tk' cells' FG' F' N' Y' B' X' T' l1; (try k_lt l1); k_cells Y'; (try simp only [List.cons_append, List.nil_append] at N'); (try dsimp only); (try k_lift B'); (try k_fold))
  k_steps
  k_dflt (refine pinned (by k_asm) ?_)
  intro h₁ L₁ m₁ e1 e2 e3
  refine ListComp_DCn (h₀ := h₁) (L := L₁) (m := m₁) (K := ItemKind.int) (pz := fun b => decide (b ≤ (y - 1).fmod 30)) (d := PyData.int) (by with_unfolding_all rfl) (by with_unfolding_all rfl) (by decide) (by with_unfolding_all rfl) (by decide) (by with_unfolding_all rfl) ?_ (by intro _; with_unfolding_all rfl)
  subst e1 e2 e3
  refine haltQ ?_
  k_steps
  rename Fr _ _ _ _ => F'
  rename News _ _ _ _ => N'
  unfold Halt
  refine ⟨_, _, _, [2, 5, 7, 10, 13, 16, 18, 21, 24, 26, 29], rfl, News.isList N' (by k_mem), IntsAre.areOf (by repeat constructor), ?_, F', N', ?_, ?_, ?_⟩
  · rw [PySem.sizeLine_eq]; exact Nat.le_of_ble_eq_true rfl
  · intro C b v s₂ m₂ E' hC hb hv hns hm hk
    obtain ⟨tb, rfl⟩ := hv
    k_steps
    all_goals first
      | exact ⟨_, _, rfl, fun _ _ e => e⟩
      | rfl
  · intro C b v s₂ m₂ E' hC hb hv hb2 hns hm hk
    obtain ⟨tb, rfl⟩ := hv
    k_steps
    all_goals first
      | exact ⟨_, _, rfl, fun _ _ e => e⟩
      | exact Carried.int _ _
  · intro D ys h2 tk2 F2 N2 hD hl hnp hc
    (try dsimp only)
    k_steps
    with_unfolding_all refine len_list_made hl hc ?_ ?_
    · exact len_map_filter_le _ _ (by decide)
    k_steps
    all_goals (
      refine cb_retI hret ?_ (by assumption) (by first | assumption | (refine' cb_drop ?cbN ?cbS; (case cbN => assumption); (case cbS => kcj_all)))
      rw [List.length_map, ilen _ (by rw [fm _ (by omega)]; omega) (by rw [fm _ (by omega)]; omega)]; rfl)
end
section
variable {w : World} {mean : ExcName → Option Value} {mg mb : Str → Option Value} {dp un : Nat} {gd : Option (List Code)} {cn : Str} {cs : Scope} {a : Addr} {ccd : Value} {cl : List (Str × Addr)} {outer : List Env} {A₀ : Around} {base h₀ : Heap} {L : Addr} {m : Str → Option Value} {news : List (Addr × Obj)} {s : Shared} {Q E : Value → Shared → Prop}
theorem c_first3 {y : Int} {tk ty : Tok} (B : Below A₀ base outer h₀) (F : Fr h₀ L s.heap m) (X : (hd.heap_39 w.params).In h₀) (N : News h₀ L s.heap news) (T : Top hd.view_39 loo mean mg mb h₀) (hk : cs.kind = .function) (hdd : dp + 2 < recursionLimit) (hu : un + 16 < cLine)
 (hret : ∀ (t : Tok) (h' : Heap) (tk' : Nat), Fr h₀ L h' m → News h₀ L h' news → Q (.int (cFirst y) t) {s with heap := h', toks := tk'}) :
  wpAny (model PySem.Challenge.pw_jb0010_01 w) (ktrTop dp un gd cn cs L a ccd cl outer) (call (.ref 203) [.int 3 tk, .int y ty]) Q E s := by
  k_with_none
  k_with "m compareOp In int ref" => ((k_here; (with_reducible show wpAny _ _ (compareOp CmpOp.In (Value.int _ _) (Value.ref _)) _ _ _); (with_unfolding_all refine' in_tup30 (tupK ?zzk1 ?zzk2) ?_; (case zzk1 => k_in); (case zzk2 => k_is); k_whole)))
  k_with "m eval Call" => (((with_reducible show wpAny _ _ (eval (Expr.Call (Expr.Name _ _) (Expr.Name _ _ :: _) [] _) _) _ _ _); k_dflt (refine Call_ ?_)))
  k_with "m call ref" => ((k_here; k_dflt (refine wpAny_call ?_; (refine' code_def ?zzk1 ?zzk2 ?zzk3 ?zzk4 ?zzk5 ?zzkA ?zzkF ?zzkK ?zzk6 ?zzk7 ?zzk8 ?zzk9 ?zzkB ?_ ?zzc2 ?zzc3 ?zzc4 ?zzc5; (case zzkA => exact rfl); (case zzkF => exact rfl); (case zzkK => first | exact rfl | assumption); (case zzk1 => k_asm); (case zzk2 => k_asm); (case zzk3 => k_asm); (case zzk4 => k_asm); (case zzk5 => k_asm); (case zzk6 => k_is); (case zzk7 => k_is); (case zzk8 => ktr_room); (case zzk9 => exact BindsTo.of_eq rfl); (case zzc5 => decide); (case zzkB => exact locs rfl); (case zzc2 => exact rfl); (case zzc3 => exact rfl); (case zzc4 => exact rfl); k_whole; intro g' L' h' FG' F' N' B' X' T'; (try dsimp only); (try k_lift B'); (try k_fold)))))
  k_with "m storeName" => ((k_here; k_dflt (refine' storeX_C ?zzF (news_tail ?zzN) ?zzc (UpdF.head ?zzU) ?zzd ?_ ?zza ?zzb; (case zza => rfl); (case zzb => rfl); (case zzF => k_asm); (case zzc => rfl); (case zzN => k_asm); (case zzU => exact all_ne_succ (by assumption)); (case zzd => k_asm); k_whole; intro h' o' F' N' d'; (try dsimp only at N'); (try k_sweep))))
  k_with "m eval ListComp" => ((k_here; with_reducible refine halt ?_))
  k_with "m execs cons" => (((with_reducible refine wpAny_execs_cons ?_); (try dsimp only)))
  refine wpAny_call ?_
  k_dflt (refine' code_defC ?k1 ?k2 ?k3 ?k4 ?k5 ?kA ?kF ?kK ?k6 ?k7 ?k8 ?k9 ?kB ?kD ?_ ?c2 ?c3 ?c4; (case kA => exact rfl); (case kF => exact rfl); (case kK => first | exact rfl | assumption); (case k1 => k_asm); (case k2 => k_asm); (case k3 => k_asm); (case k4 => k_asm); (case k5 => k_asm); (case k6 => k_is); (case k7 => k_is); (case k8 => ktr_room); (case k9 => exact BindsTo.of_eq rfl); (case kB => exact rfl); (case kD => decide +kernel); (case c2 => exact rfl); (case c3 => exact rfl); (case c4 => exact rfl); k_whole; intro g' L' h' tk' cells' FG' F' N' Y' B' X' T' l1; (try k_lt l1); k_cells Y'; (try simp only [List.cons_append, List.nil_append] at N'); (try dsimp only); (try k_lift B'); (try k_fold))
  k_steps
  all_goals (refine cb_retI hret ?_ (by assumption) (by first | assumption | (refine' cb_drop ?cbN ?cbS; (case cbN => assumption); (case cbS => kcj_all))); unfold cFirst; first | rw [if_pos (by assumption)] | rw [if_neg (by assumption)])
end
section
variable {w : World} {mean : ExcName → Option Value} {mg mb : Str → Option Value} {dp un : Nat} {gd : Option (List Code)} {cn : Str} {cs : Scope} {a : Addr} {ccd : Value} {cl : List (Str × Addr)} {outer : List Env} {A₀ : Around} {base h₀ : Heap} {L : Addr} {m : Str → Option Value} {news : List (Addr × Obj)} {s : Shared} {Q E : Value → Shared → Prop}
theorem c_first4 {y : Int} {tk ty : Tok} (B : Below A₀ base outer h₀) (F : Fr h₀ L s.heap m) (X : (hd.heap_39 w.params).In h₀) (N : News h₀ L s.heap news) (T : Top hd.view_39 loo mean mg mb h₀) (hk : cs.kind = .function) (hdd : dp + 2 < recursionLimit) (hu : un + 16 < cLine)
 (hret : ∀ (t : Tok) (h' : Heap) (tk' : Nat), Fr h₀ L h' m → News h₀ L h' news → Q (.int (gFirst (y + 78) + 80) t) {s with heap := h', toks := tk'}) :
  wpAny (model PySem.Challenge.pw_jb0010_01 w) (ktrTop dp un gd cn cs L a ccd cl outer) (call (.ref 203) [.int 4 tk, .int y ty]) Q E s := by
  k_with_none
  k_with "m compareOp In int ref" => ((k_here; (with_reducible show wpAny _ _ (compareOp CmpOp.In (Value.int _ _) (Value.ref _)) _ _ _); (with_unfolding_all refine' in_tup30 (tupK ?zzk1 ?zzk2) ?_; (case zzk1 => k_in); (case zzk2 => k_is); k_whole)))
  k_with "m eval Call" => (((with_reducible show wpAny _ _ (eval (Expr.Call (Expr.Name _ _) (Expr.Name _ _ :: _) [] _) _) _ _ _); k_dflt (refine Call_ ?_)))
  k_with "m call ref" => ((k_here; k_dflt (refine wpAny_call ?_; (refine' code_def ?zzk1 ?zzk2 ?zzk3 ?zzk4 ?zzk5 ?zzkA ?zzkF ?zzkK ?zzk6 ?zzk7 ?zzk8 ?zzk9 ?zzkB ?_ ?zzc2 ?zzc3 ?zzc4 ?zzc5; (case zzkA => exact rfl); (case zzkF => exact rfl); (case zzkK => first | exact rfl | assumption); (case zzk1 => k_asm); (case zzk2 => k_asm); (case zzk3 => k_asm); (case zzk4 => k_asm); (case zzk5 => k_asm); (case zzk6 => k_is); (case zzk7 => k_is); (case zzk8 => ktr_room); (case zzk9 => exact BindsTo.of_eq rfl); (case zzc5 => decide); (case zzkB => exact locs rfl); (case zzc2 => exact rfl); (case zzc3 => exact rfl); (case zzc4 => exact rfl); k_whole; intro g' L' h' FG' F' N' B' X' T'; (try dsimp only); (try k_lift B'); (try k_fold)))))
  k_with "m storeName" => ((k_here; k_dflt (refine' storeX_C ?zzF (news_tail ?zzN) ?zzc (UpdF.head ?zzU) ?zzd ?_ ?zza ?zzb; (case zza => rfl); (case zzb => rfl); (case zzF => k_asm); (case zzc => rfl); (case zzN => k_asm); (case zzU => exact all_ne_succ (by assumption)); (case zzd => k_asm); k_whole; intro h' o' F' N' d'; (try dsimp only at N'); (try k_sweep))))
  k_with "m eval ListComp" => ((k_here; with_reducible refine halt ?_))
  k_with "m execs cons" => (((with_reducible refine wpAny_execs_cons ?_); (try dsimp only)))
  refine wpAny_call ?_
  k_dflt (refine' code_defC ?k1 ?k2 ?k3 ?k4 ?k5 ?kA ?kF ?kK ?k6 ?k7 ?k8 ?k9 ?kB ?kD ?_ ?c2 ?c3 ?c4; (case kA => exact rfl); (case kF => exact rfl); (case kK => first | exact rfl | assumption); (case k1 => k_asm); (case k2 => k_asm); (case k3 => k_asm); (case k4 => k_asm); (case k5 => k_asm); (case k6 => k_is); (case k7 => k_is); (case k8 => ktr_room); (case k9 => exact BindsTo.of_eq rfl); (case kB => exact rfl); (case kD => decide +kernel); (case c2 => exact rfl); (case c3 => exact rfl); (case c4 => exact rfl); k_whole; intro g' L' h' tk' cells' FG' F' N' Y' B' X' T' l1; (try k_lt l1); k_cells Y'; (try simp only [List.cons_append, List.nil_append] at N'); (try dsimp only); (try k_lift B'); (try k_fold))
  k_steps
  k_dflt (refine pinned (by k_asm) ?_)
  intro h₁ L₁ m₁ e1 e2 e3
  refine ListComp_DCr (h₀ := h₁) (L := L₁) (m := m₁) (pz := fun b => decide (b = 0 ∨ b.fmod 100 ≠ 0)) (d := PyData.int) (by with_unfolding_all rfl) (by with_unfolding_all rfl) (by decide) (by with_unfolding_all rfl) (by decide) (by with_unfolding_all rfl) ?_ (by intro _; with_unfolding_all rfl)
  subst e1 e2 e3
  refine haltQ ?_
  k_steps
  rename IsRange _ _ _ _ _ _ _ _ => R'
  rename Fr _ _ _ _ => F'
  rename News _ _ _ _ => N'
  have hp0 : 0 ≤ ((y + 78) - 2000).fmod 400 ∧ ((y + 78) - 2000).fmod 400 < 400 := by rw [fm _ (by omega)]; omega
  unfold Halt
  refine ⟨_, _, _, _, _, _, _, _, ((((y + 78) - 2000).fmod 400 + 3) / 4).toNat, rfl, R', small4 hp0.1 hp0.2, rsize4 hp0.1 hp0.2, ?_, F', N', ?_, ?_, ?_⟩
  · rw [PySem.sizeLine_eq]; omega
  · intro C b v s₂ m₂ E' hC hb hv hns hm hk
    obtain ⟨tb, rfl⟩ := hv
    k_steps
    all_goals first
      | exact ⟨_, _, rfl, fun _ _ e => e⟩
      | exact (decide_eq_true (Or.inl (by assumption))).symm
      | exact (decide_eq_true (Or.inr (by assumption))).symm
      | exact (decide_eq_false (by rintro (h | h) <;> contradiction)).symm
  · intro C b v s₂ m₂ E' hC hb hv hb2 hns hm hk
    obtain ⟨tb, rfl⟩ := hv
    k_steps
    all_goals first
      | exact ⟨_, _, rfl, fun _ _ e => e⟩
      | exact Carried.int _ _
  · intro D ys h2 tk2 F2 N2 hD hl hnp hc
    (try dsimp only)
    k_steps
    all_goals (
      refine cb_retI hret ?_ (by assumption) (by first | assumption | (refine' cb_drop ?cbN ?cbS; (case cbN => assumption); (case cbS => kcj_all)))
      rw [List.length_map, rangeInts, cnt4, gfirst_eq (y + 78) _ rfl])
end
def kY (k n : Int) : Int := if k = 0 then gY n else if k = 1 then jY n else if k = 2 then iY n else if k = 3 then cY n else xY n
def kM (k n : Int) : Int := if k = 0 then gM n else if k = 1 then jM n else if k = 2 then iM n else if k = 3 then cM n else xM n
def kD (k n : Int) : Int := if k = 0 then gD n else if k = 1 then jD n else if k = 2 then iD n else if k = 3 then cD n else xD n
def kTo (k y m d : Int) : Int := if k = 0 then gTo y m d else if k = 1 then jTo y m d else if k = 2 then iTo y m d else if k = 3 then cTo y m d else xTo y m d
theorem end3g {h₀ h' : Heap} {L : Addr} {m : Str → Option Value} {news : List (Addr × Obj)} {s : Shared} {Q : Value → Shared → Prop} {x z : Int} {D : Addr} {t1 t2 t3 : Tok} {c tk' : Nat}
  (hret : ∀ (D : Addr) (t1 t2 t3 : Tok) (c : Nat) (h' : Heap) (tk' : Nat), Fr h₀ L h' m → News h₀ L h' ((D, ({ cls := .type "tuple", data := .seq #[.int (gY x) t1, .int (gM x) t2, .int (gD x) t3] c } : Obj)) :: news) → AllLt D news → Q (.ref D) {s with heap := h', toks := tk'})
  (F : Fr h₀ L h' m) (N : News h₀ L h' ((D, ({ cls := .type "tuple", data := .seq #[.int (gY z) t1, .int (gM z) t2, .int (gD z) t3] c } : Obj)) :: news)) (l : AllLt D news)
  (e : x = z) : Q (.ref D) {s with heap := h', toks := tk'} := by
  subst e
  exact hret _ _ _ _ _ _ _ F N l
section
variable {w : World} {mean : ExcName → Option Value} {mg mb : Str → Option Value} {dp un : Nat} {gd : Option (List Code)} {cn : Str} {cs : Scope} {a : Addr} {ccd : Value} {cl : List (Str × Addr)} {outer : List Env} {A₀ : Around} {base h₀ : Heap} {L : Addr} {m : Str → Option Value} {news : List (Addr × Obj)} {s : Shared} {Q E : Value → Shared → Prop}
theorem c_date {k : Int} {tk : Tok} {n : Int} {tn : Tok} (B : Below A₀ base outer h₀) (F : Fr h₀ L s.heap m) (X : (hd.heap_39 w.params).In h₀) (N : News h₀ L s.heap news) (T : Top hd.view_39 loo mean mg mb h₀) (hk : cs.kind = .function) (hdd : dp + 6 < recursionLimit) (hu : un + 48 < cLine) 
 (hret : ∀ (D : Addr) (t1 t2 t3 : Tok) (c : Nat) (h' : Heap) (tk' : Nat), Fr h₀ L h' m → News h₀ L h' ((D, ({ cls := .type "tuple", data := .seq #[.int (kY k n) t1, .int (kM k n) t2, .int (kD k n) t3] c } : Obj)) :: news) → AllLt D news → Q (.ref D) {s with heap := h', toks := tk'}) :
  wpAny (model PySem.Challenge.pw_jb0010_01 w) (ktrTop dp un gd cn cs L a ccd cl outer) (call (.ref 210) [.int k tk, .int n tn]) Q E s := by
  k_with_none
  k_with "m eval Call" => (((with_reducible show wpAny _ _ (eval (Expr.Call (Expr.Name _ _) (Expr.Name _ _ :: _) [] _) _) _ _ _); k_dflt (refine Call_ ?_)))
  k_with "m call ref" => ((k_here; k_dflt (refine wpAny_call ?_; (refine' code_def ?zzk1 ?zzk2 ?zzk3 ?zzk4 ?zzk5 ?zzkA ?zzkF ?zzkK ?zzk6 ?zzk7 ?zzk8 ?zzk9 ?zzkB ?_ ?zzc2 ?zzc3 ?zzc4 ?zzc5; (case zzkA => exact rfl); (case zzkF => exact rfl); (case zzkK => first | exact rfl | assumption); (case zzk1 => k_asm); (case zzk2 => k_asm); (case zzk3 => k_asm); (case zzk4 => k_asm); (case zzk5 => k_asm); (case zzk6 => k_is); (case zzk7 => k_is); (case zzk8 => ktr_room); (case zzk9 => exact BindsTo.of_eq rfl); (case zzc5 => decide); (case zzkB => exact locs rfl); (case zzc2 => exact rfl); (case zzc3 => exact rfl); (case zzc4 => exact rfl); k_whole; intro g' L' h' FG' F' N' B' X' T'; (try dsimp only); (try k_lift B'); (try k_fold)))))
  k_with "m call ref" => ((k_here; (with_reducible show wpAny _ _ (call (Value.ref 36) _) _ _ _); k_dflt (refine' c_toG ?zzk1 ?zzk2 ?zzk3 ?zzk4 ?zzk5 ?zzk6 ?zzk7 ?zzk8 ?zzkp ?_; (case zzk1 => k_asm); (case zzk2 => k_asm); (case zzk3 => k_asm); (case zzk4 => k_asm); (case zzk5 => k_asm); (case zzk6 => first | exact rfl | assumption); (case zzk7 => ktr_room); (case zzk8 => ktr_units); (case zzkp => first | exact hp0 (by assumption) | assumption); skip); intro t9 h9 tk9 F9 N9; (try dsimp only); (try k_fold)))
  k_with "m call ref" => ((k_here; (with_reducible show wpAny _ _ (call (Value.ref 79) _) _ _ _); k_dflt (refine' c_toJ ?zzk1 ?zzk2 ?zzk3 ?zzk4 ?zzk5 ?zzk6 ?zzk7 ?zzk8 ?zzkp ?_; (case zzk1 => k_asm); (case zzk2 => k_asm); (case zzk3 => k_asm); (case zzk4 => k_asm); (case zzk5 => k_asm); (case zzk6 => first | exact rfl | assumption); (case zzk7 => ktr_room); (case zzk8 => ktr_units); (case zzkp => exact hp1 (by assumption)); skip); intro t9 h9 tk9 F9 N9; (try dsimp only); (try k_fold)))
  k_with "m call ref" => ((k_here; (with_reducible show wpAny _ _ (call (Value.ref 100) _) _ _ _); k_dflt (refine' c_toI ?zzk1 ?zzk2 ?zzk3 ?zzk4 ?zzk5 ?zzk6 ?zzk7 ?zzk8 ?_; (case zzk1 => k_asm); (case zzk2 => k_asm); (case zzk3 => k_asm); (case zzk4 => k_asm); (case zzk5 => k_asm); (case zzk6 => first | exact rfl | assumption); (case zzk7 => ktr_room); (case zzk8 => ktr_units); skip); intro t9 h9 tk9 F9 N9; (try dsimp only); (try k_fold)))
  k_with "m call ref" => ((k_here; (with_reducible show wpAny _ _ (call (Value.ref 128) _) _ _ _); k_dflt (refine' c_toC ?zzk1 ?zzk2 ?zzk3 ?zzk4 ?zzk5 ?zzk6 ?zzk7 ?zzk8 ?_; (case zzk1 => k_asm); (case zzk2 => k_asm); (case zzk3 => k_asm); (case zzk4 => k_asm); (case zzk5 => k_asm); (case zzk6 => first | exact rfl | assumption); (case zzk7 => ktr_room); (case zzk8 => ktr_units); skip); intro t9 h9 tk9 F9 N9; (try dsimp only); (try k_fold)))
  k_with "m call ref" => ((k_here; (with_reducible show wpAny _ _ (call (Value.ref 156) _) _ _ _); k_dflt (refine' c_toX ?zzk1 ?zzk2 ?zzk3 ?zzk4 ?zzk5 ?zzk6 ?zzk7 ?zzk8 ?_; (case zzk1 => k_asm); (case zzk2 => k_asm); (case zzk3 => k_asm); (case zzk4 => k_asm); (case zzk5 => k_asm); (case zzk6 => first | exact rfl | assumption); (case zzk7 => ktr_room); (case zzk8 => ktr_units); skip); intro t9 h9 tk9 F9 N9; (try dsimp only); (try k_fold)))
  k_with "m call ref" => ((k_here; (with_reducible show wpAny _ _ (call (Value.ref 43) _) _ _ _); k_dflt (refine' c_fromG ?zzk1 ?zzk2 ?zzk3 ?zzk4 ?zzk5 ?zzk6 ?zzk7 ?zzk8 ?_; (case zzk1 => k_asm); (case zzk2 => k_asm); (case zzk3 => k_asm); (case zzk4 => k_asm); (case zzk5 => k_asm); (case zzk6 => first | exact rfl | assumption); (case zzk7 => ktr_room); (case zzk8 => ktr_units); skip); intro D9 t91 t92 t93 c9 h9 tk9 F9 N9 l9; (try dsimp only); (try simp only [AllLt, and_true] at l9); (try k_sweep); (try k_fold)))
  k_with "m call ref" => ((k_here; (with_reducible show wpAny _ _ (call (Value.ref 72) _) _ _ _); k_dflt (refine' c_fromJ ?zzk1 ?zzk2 ?zzk3 ?zzk4 ?zzk5 ?zzk6 ?zzk7 ?zzk8 ?_; (case zzk1 => k_asm); (case zzk2 => k_asm); (case zzk3 => k_asm); (case zzk4 => k_asm); (case zzk5 => k_asm); (case zzk6 => first | exact rfl | assumption); (case zzk7 => ktr_room); (case zzk8 => ktr_units); skip); intro D9 t91 t92 t93 c9 h9 tk9 F9 N9 l9; (try dsimp only); (try simp only [AllLt, and_true] at l9); (try k_sweep); (try k_fold)))
  k_with "m call ref" => ((k_here; (with_reducible show wpAny _ _ (call (Value.ref 107) _) _ _ _); k_dflt (refine' c_fromI ?zzk1 ?zzk2 ?zzk3 ?zzk4 ?zzk5 ?zzk6 ?zzk7 ?zzk8 ?_; (case zzk1 => k_asm); (case zzk2 => k_asm); (case zzk3 => k_asm); (case zzk4 => k_asm); (case zzk5 => k_asm); (case zzk6 => first | exact rfl | assumption); (case zzk7 => ktr_room); (case zzk8 => ktr_units); skip); intro D9 t91 t92 t93 c9 h9 tk9 F9 N9 l9; (try dsimp only); (try simp only [AllLt, and_true] at l9); (try k_sweep); (try k_fold)))
  k_with "m call ref" => ((k_here; (with_reducible show wpAny _ _ (call (Value.ref 135) _) _ _ _); k_dflt (refine' c_fromC ?zzk1 ?zzk2 ?zzk3 ?zzk4 ?zzk5 ?zzk6 ?zzk7 ?zzk8 ?_; (case zzk1 => k_asm); (case zzk2 => k_asm); (case zzk3 => k_asm); (case zzk4 => k_asm); (case zzk5 => k_asm); (case zzk6 => first | exact rfl | assumption); (case zzk7 => ktr_room); (case zzk8 => ktr_units); skip); intro D9 t91 t92 t93 c9 h9 tk9 F9 N9 l9; (try dsimp only); (try simp only [AllLt, and_true] at l9); (try k_sweep); (try k_fold)))
  k_with "m call ref" => ((k_here; (with_reducible show wpAny _ _ (call (Value.ref 163) _) _ _ _); k_dflt (refine' c_fromX ?zzk1 ?zzk2 ?zzk3 ?zzk4 ?zzk5 ?zzk6 ?zzk7 ?zzk8 ?_; (case zzk1 => k_asm); (case zzk2 => k_asm); (case zzk3 => k_asm); (case zzk4 => k_asm); (case zzk5 => k_asm); (case zzk6 => first | exact rfl | assumption); (case zzk7 => ktr_room); (case zzk8 => ktr_units); skip); intro D9 t91 t92 t93 c9 h9 tk9 F9 N9 l9; (try dsimp only); (try simp only [AllLt, and_true] at l9); (try k_sweep); (try k_fold)))
  refine wpAny_call ?_
  k_dflt cell_enter
  k_steps
  all_goals exact end3 hret (by assumption) (by assumption) (by ktn_lt) (by unfold kY; (repeat' split) <;> first | rfl | contradiction | (exfalso; omega)) (fun _ => (by unfold kM; (repeat' split) <;> first | rfl | contradiction | (exfalso; omega))) (fun _ _ => (by unfold kD; (repeat' split) <;> first | rfl | contradiction | (exfalso; omega)))
end
section
variable {w : World} {mean : ExcName → Option Value} {mg mb : Str → Option Value} {dp un : Nat} {gd : Option (List Code)} {cn : Str} {cs : Scope} {a : Addr} {ccd : Value} {cl : List (Str × Addr)} {outer : List Env} {A₀ : Around} {base h₀ : Heap} {L : Addr} {m : Str → Option Value} {news : List (Addr × Obj)} {s : Shared} {Q E : Value → Shared → Prop}
theorem c_back {k : Int} {tk : Tok} {y : Int} {ty : Tok} {mo : Int} {tmo : Tok} {d : Int} {td : Tok} (B : Below A₀ base outer h₀) (F : Fr h₀ L s.heap m) (X : (hd.heap_39 w.params).In h₀) (N : News h₀ L s.heap news) (T : Top hd.view_39 loo mean mg mb h₀) (hk : cs.kind = .function) (hdd : dp + 5 < recursionLimit) (hu : un + 40 < cLine) (hp0 : k = 0 → 0 < d ∧ d ≤ gDim y mo) (hp1 : k = 1 → 0 < d ∧ d ≤ jDim y mo)
 (hret : ∀ (t : Tok) (h' : Heap) (tk' : Nat), Fr h₀ L h' m → News h₀ L h' news → Q (.int (kTo k y mo d) t) {s with heap := h', toks := tk'}) :
  wpAny (model PySem.Challenge.pw_jb0010_01 w) (ktrTop dp un gd cn cs L a ccd cl outer) (call (.ref 217) [.int k tk, .int y ty, .int mo tmo, .int d td]) Q E s := by
  refine wpAny_call ?_
  k_dflt cell_enter
  k_steps
  all_goals (refine cb_retI hret ?_ (by assumption) (by assumption); unfold kTo; (repeat' split) <;> first | rfl | contradiction | (exfalso; omega))
end
section
variable {w : World} {mean : ExcName → Option Value} {mg mb : Str → Option Value} {dp un : Nat} {gd : Option (List Code)} {cn : Str} {cs : Scope} {a : Addr} {ccd : Value} {cl : List (Str × Addr)} {outer : List Env} {A₀ : Around} {base h₀ : Heap} {L : Addr} {m : Str → Option Value} {news : List (Addr × Obj)} {s : Shared} {Q E : Value → Shared → Prop}
theorem c_fg {k : Int} {tk : Tok} {y : Int} {ty : Tok} {mo : Int} {tmo : Tok} {d : Int} {td : Tok} (B : Below A₀ base outer h₀) (F : Fr h₀ L s.heap m) (X : (hd.heap_39 w.params).In h₀) (N : News h₀ L s.heap news) (T : Top hd.view_39 loo mean mg mb h₀) (hk : cs.kind = .function) (hdd : dp + 7 < recursionLimit) (hu : un + 56 < cLine) (hk1 : k ≠ 0) (hp : 0 < d ∧ d ≤ gDim y mo)
 (hret : ∀ (D : Addr) (t1 t2 t3 : Tok) (c : Nat) (h' : Heap) (tk' : Nat), Fr h₀ L h' m → News h₀ L h' ((D, ({ cls := .type "tuple", data := .seq #[.int (kY k (gTo y mo d)) t1, .int (kM k (gTo y mo d)) t2, .int (kD k (gTo y mo d)) t3] c } : Obj)) :: news) → AllLt D news → Q (.ref D) {s with heap := h', toks := tk'}) :
  wpAny (model PySem.Challenge.pw_jb0010_01 w) (ktrTop dp un gd cn cs L a ccd cl outer) (call (.ref 224) [.int k tk, .int y ty, .int mo tmo, .int d td]) Q E s := by
  refine wpAny_call ?_
  k_dflt cell_enter
  k_steps
  all_goals exact end3 hret (by assumption) (by assumption) (by ktn_lt) (by unfold kY; (repeat' split) <;> first | rfl | contradiction | (exfalso; omega)) (fun _ => (by unfold kM; (repeat' split) <;> first | rfl | contradiction | (exfalso; omega))) (fun _ _ => (by unfold kD; (repeat' split) <;> first | rfl | contradiction | (exfalso; omega)))
end
section
variable {w : World} {mean : ExcName → Option Value} {mg mb : Str → Option Value} {dp un : Nat} {gd : Option (List Code)} {cn : Str} {cs : Scope} {a : Addr} {ccd : Value} {cl : List (Str × Addr)} {outer : List Env} {A₀ : Around} {base h₀ : Heap} {L : Addr} {m : Str → Option Value} {news : List (Addr × Obj)} {s : Shared} {Q E : Value → Shared → Prop}
theorem c_tg {k : Int} {tk : Tok} {y : Int} {ty : Tok} {mo : Int} {tmo : Tok} {d : Int} {td : Tok} (B : Below A₀ base outer h₀) (F : Fr h₀ L s.heap m) (X : (hd.heap_39 w.params).In h₀) (N : News h₀ L s.heap news) (T : Top hd.view_39 loo mean mg mb h₀) (hk : cs.kind = .function) (hdd : dp + 6 < recursionLimit) (hu : un + 48 < cLine) (hk1 : k ≠ 0) (hp1 : k = 1 → 0 < d ∧ d ≤ jDim y mo)
 (hret : ∀ (D : Addr) (t1 t2 t3 : Tok) (c : Nat) (h' : Heap) (tk' : Nat), Fr h₀ L h' m → News h₀ L h' ((D, ({ cls := .type "tuple", data := .seq #[.int (gY (kTo k y mo d)) t1, .int (gM (kTo k y mo d)) t2, .int (gD (kTo k y mo d)) t3] c } : Obj)) :: news) → AllLt D news → Q (.ref D) {s with heap := h', toks := tk'}) :
  wpAny (model PySem.Challenge.pw_jb0010_01 w) (ktrTop dp un gd cn cs L a ccd cl outer) (call (.ref 231) [.int k tk, .int y ty, .int mo tmo, .int d td]) Q E s := by
  refine wpAny_call ?_
  k_dflt cell_enter
  k_steps
  all_goals exact end3g hret (by assumption) (by assumption) (by ktn_lt) (by unfold kTo; (repeat' split) <;> first | rfl | contradiction | (exfalso; omega))
end
theorem days_gen {h₀ h : Heap} {L : Addr} {m0 : Str → Option Value} {a b : Option Value} {R D : Addr} {o : Obj} {e0 e1 : Int} {t0 t1 : Tok} {c : Nat} {rest : List (Addr × Obj)} {G : Prop}
  (F : Fr h₀ L h (fun y => if y = Str.ofString "rows" then a else if y = Str.ofString "days" then b else m0 y))
  (N : News h₀ L h ((R, o) :: (D, W.listOf #[.int e0 t0, .int e1 t1] c) :: rest))
  (k : ∀ (n0 n1 : Int) (m1 : Str → Option Value), Fr h₀ L h (fun y => if y = Str.ofString "rows" then a else if y = Str.ofString "days" then b else m1 y) → News h₀ L h ((R, o) :: (D, W.listOf #[.int n0 t0, .int n1 t1] c) :: []) → G) : G := by
  refine k e0 e1 m0 F (fun p hp => N p ?_)
  rcases List.mem_cons.mp hp with rfl | hp
  · exact .head _
  · rcases List.mem_cons.mp hp with rfl | hp
    · exact .tail _ (.head _)
    · cases hp
section
variable {w : World} {mean : ExcName → Option Value} {mg mb : Str → Option Value} {dp un : Nat} {gd : Option (List Code)} {cn : Str} {cs : Scope} {a : Addr} {ccd : Value} {cl : List (Str × Addr)} {outer : List Env} {A₀ : Around} {base h₀ : Heap} {L : Addr} {m : Str → Option Value} {news : List (Addr × Obj)} {s : Shared} {Q E : Value → Shared → Prop}
theorem d_date0 {n : Int} {tk tn : Tok} (B : Below A₀ base outer h₀) (F : Fr h₀ L s.heap m) (X : (hd.heap_39 w.params).In h₀) (N : News h₀ L s.heap news) (T : Top hd.view_39 loo mean mg mb h₀) (hk : cs.kind = .function) (hdd : dp + 6 < recursionLimit) (hu : un + 48 < cLine)
 (hret : ∀ (D : Addr) (t1 t2 t3 : Tok) (c : Nat) (h' : Heap) (tk' : Nat), Fr h₀ L h' m → News h₀ L h' ((D, ({ cls := .type "tuple", data := .seq #[.int (gY n) t1, .int (gM n) t2, .int (gD n) t3] c } : Obj)) :: news) → AllLt D news → 1 ≤ gM n → gM n ≤ 12 → 1 ≤ gD n → gD n ≤ ([31, 28 + b2i (gLeap (gY n)), 31, 30, 31, 30, 31, 31, 30, 31, 30, 31] : List Int).getD (gM n - 1).toNat 0 → gFirst (gY n) + (([31, 28 + b2i (gLeap (gY n)), 31, 30, 31, 30, 31, 31, 30, 31, 30, 31] : List Int).take (gM n - 1).toNat).sum + gD n - 1 = n → Q (.ref D) {s with heap := h', toks := tk'}) :
  wpAny (model PySem.Challenge.pw_jb0010_01 w) (ktrTop dp un gd cn cs L a ccd cl outer) (call (.ref 210) [.int 0 tk, .int n tn]) Q E s :=
  c_date B F X N T hk hdd hu fun D t1 t2 t3 c h' tk' F2 N2 l2 => hret D t1 t2 t3 c h' tk' F2 N2 l2 (gFacts n).m1 (gFacts n).m2 (gFacts n).d1 (gFacts n).d2 (gFacts n).eq
end
section
variable {w : World} {mean : ExcName → Option Value} {mg mb : Str → Option Value} {dp un : Nat} {gd : Option (List Code)} {cn : Str} {cs : Scope} {a : Addr} {ccd : Value} {cl : List (Str × Addr)} {outer : List Env} {A₀ : Around} {base h₀ : Heap} {L : Addr} {m : Str → Option Value} {news : List (Addr × Obj)} {s : Shared} {Q E : Value → Shared → Prop}
theorem d_back0 {n : Int} {tk ty tm td : Tok} (B : Below A₀ base outer h₀) (F : Fr h₀ L s.heap m) (X : (hd.heap_39 w.params).In h₀) (N : News h₀ L s.heap news) (T : Top hd.view_39 loo mean mg mb h₀) (hk : cs.kind = .function) (hdd : dp + 5 < recursionLimit) (hu : un + 40 < cLine)
 (hret : ∀ (t : Tok) (h' : Heap) (tk' : Nat), Fr h₀ L h' m → News h₀ L h' news → Q (.int n t) {s with heap := h', toks := tk'}) :
  wpAny (model PySem.Challenge.pw_jb0010_01 w) (ktrTop dp un gd cn cs L a ccd cl outer) (call (.ref 217) [.int 0 tk, .int (gY n) ty, .int (gM n) tm, .int (gD n) td]) Q E s :=
  c_back B F X N T hk hdd hu (fun _ => (by have h := gM_spec n; exact ⟨by omega, h.2.2⟩)) (fun e => absurd e (by decide)) fun t h' tk' F2 N2 => by rw [show kTo 0 (gY n) (gM n) (gD n) = n from gTo_from n]; exact hret t h' tk' F2 N2
end
section
variable {w : World} {mean : ExcName → Option Value} {mg mb : Str → Option Value} {dp un : Nat} {gd : Option (List Code)} {cn : Str} {cs : Scope} {a : Addr} {ccd : Value} {cl : List (Str × Addr)} {outer : List Env} {A₀ : Around} {base h₀ : Heap} {L : Addr} {m : Str → Option Value} {news : List (Addr × Obj)} {s : Shared} {Q E : Value → Shared → Prop}
theorem d_date1 {n : Int} {tk tn : Tok} (B : Below A₀ base outer h₀) (F : Fr h₀ L s.heap m) (X : (hd.heap_39 w.params).In h₀) (N : News h₀ L s.heap news) (T : Top hd.view_39 loo mean mg mb h₀) (hk : cs.kind = .function) (hdd : dp + 6 < recursionLimit) (hu : un + 48 < cLine)
 (hret : ∀ (D : Addr) (t1 t2 t3 : Tok) (c : Nat) (h' : Heap) (tk' : Nat), Fr h₀ L h' m → News h₀ L h' ((D, ({ cls := .type "tuple", data := .seq #[.int (jY n) t1, .int (jM n) t2, .int (jD n) t3] c } : Obj)) :: news) → AllLt D news → 1 ≤ jM n → jM n ≤ 12 → 1 ≤ jD n → jD n ≤ ([31, 28 + b2i (jLeap (jY n)), 31, 30, 31, 30, 31, 31, 30, 31, 30, 31] : List Int).getD (jM n - 1).toNat 0 → jFirst (jY n) + (([31, 28 + b2i (jLeap (jY n)), 31, 30, 31, 30, 31, 31, 30, 31, 30, 31] : List Int).take (jM n - 1).toNat).sum + jD n - 1 = n → Q (.ref D) {s with heap := h', toks := tk'}) :
  wpAny (model PySem.Challenge.pw_jb0010_01 w) (ktrTop dp un gd cn cs L a ccd cl outer) (call (.ref 210) [.int 1 tk, .int n tn]) Q E s :=
  c_date B F X N T hk hdd hu fun D t1 t2 t3 c h' tk' F2 N2 l2 => hret D t1 t2 t3 c h' tk' F2 N2 l2 ((jAll n).1).m1 ((jAll n).1).m2 ((jAll n).1).d1 ((jAll n).1).d2 ((jAll n).1).eq
end
section
variable {w : World} {mean : ExcName → Option Value} {mg mb : Str → Option Value} {dp un : Nat} {gd : Option (List Code)} {cn : Str} {cs : Scope} {a : Addr} {ccd : Value} {cl : List (Str × Addr)} {outer : List Env} {A₀ : Around} {base h₀ : Heap} {L : Addr} {m : Str → Option Value} {news : List (Addr × Obj)} {s : Shared} {Q E : Value → Shared → Prop}
theorem d_back1 {n : Int} {tk ty tm td : Tok} (B : Below A₀ base outer h₀) (F : Fr h₀ L s.heap m) (X : (hd.heap_39 w.params).In h₀) (N : News h₀ L s.heap news) (T : Top hd.view_39 loo mean mg mb h₀) (hk : cs.kind = .function) (hdd : dp + 5 < recursionLimit) (hu : un + 40 < cLine)
 (hret : ∀ (t : Tok) (h' : Heap) (tk' : Nat), Fr h₀ L h' m → News h₀ L h' news → Q (.int n t) {s with heap := h', toks := tk'}) :
  wpAny (model PySem.Challenge.pw_jb0010_01 w) (ktrTop dp un gd cn cs L a ccd cl outer) (call (.ref 217) [.int 1 tk, .int (jY n) ty, .int (jM n) tm, .int (jD n) td]) Q E s :=
  c_back B F X N T hk hdd hu (fun e => absurd e (by decide)) (fun _ => (jAll n).2.2) fun t h' tk' F2 N2 => by rw [show kTo 1 (jY n) (jM n) (jD n) = n from (jAll n).2.1]; exact hret t h' tk' F2 N2
end
section
variable {w : World} {mean : ExcName → Option Value} {mg mb : Str → Option Value} {dp un : Nat} {gd : Option (List Code)} {cn : Str} {cs : Scope} {a : Addr} {ccd : Value} {cl : List (Str × Addr)} {outer : List Env} {A₀ : Around} {base h₀ : Heap} {L : Addr} {m : Str → Option Value} {news : List (Addr × Obj)} {s : Shared} {Q E : Value → Shared → Prop}
theorem d_fg1 {n : Int} {tk ty tm td : Tok} (B : Below A₀ base outer h₀) (F : Fr h₀ L s.heap m) (X : (hd.heap_39 w.params).In h₀) (N : News h₀ L s.heap news) (T : Top hd.view_39 loo mean mg mb h₀) (hk : cs.kind = .function) (hdd : dp + 7 < recursionLimit) (hu : un + 56 < cLine)
 (hret : ∀ (D : Addr) (t1 t2 t3 : Tok) (c : Nat) (h' : Heap) (tk' : Nat), Fr h₀ L h' m → News h₀ L h' ((D, ({ cls := .type "tuple", data := .seq #[.int (jY n) t1, .int (jM n) t2, .int (jD n) t3] c } : Obj)) :: news) → AllLt D news → Q (.ref D) {s with heap := h', toks := tk'}) :
  wpAny (model PySem.Challenge.pw_jb0010_01 w) (ktrTop dp un gd cn cs L a ccd cl outer) (call (.ref 224) [.int 1 tk, .int (gY n) ty, .int (gM n) tm, .int (gD n) td]) Q E s :=
  c_fg B F X N T hk hdd hu (by decide) (by have h := gM_spec n; exact ⟨by omega, h.2.2⟩) fun D t1 t2 t3 c h' tk' F2 N2 l2 => by rw [gTo_from n] at N2; exact hret D t1 t2 t3 c h' tk' F2 N2 l2
end
section
variable {w : World} {mean : ExcName → Option Value} {mg mb : Str → Option Value} {dp un : Nat} {gd : Option (List Code)} {cn : Str} {cs : Scope} {a : Addr} {ccd : Value} {cl : List (Str × Addr)} {outer : List Env} {A₀ : Around} {base h₀ : Heap} {L : Addr} {m : Str → Option Value} {news : List (Addr × Obj)} {s : Shared} {Q E : Value → Shared → Prop}
theorem d_tg1 {n : Int} {tk ty tm td : Tok} (B : Below A₀ base outer h₀) (F : Fr h₀ L s.heap m) (X : (hd.heap_39 w.params).In h₀) (N : News h₀ L s.heap news) (T : Top hd.view_39 loo mean mg mb h₀) (hk : cs.kind = .function) (hdd : dp + 6 < recursionLimit) (hu : un + 48 < cLine)
 (hret : ∀ (D : Addr) (t1 t2 t3 : Tok) (c : Nat) (h' : Heap) (tk' : Nat), Fr h₀ L h' m → News h₀ L h' ((D, ({ cls := .type "tuple", data := .seq #[.int (gY n) t1, .int (gM n) t2, .int (gD n) t3] c } : Obj)) :: news) → AllLt D news → Q (.ref D) {s with heap := h', toks := tk'}) :
  wpAny (model PySem.Challenge.pw_jb0010_01 w) (ktrTop dp un gd cn cs L a ccd cl outer) (call (.ref 231) [.int 1 tk, .int (jY n) ty, .int (jM n) tm, .int (jD n) td]) Q E s :=
  c_tg B F X N T hk hdd hu (by decide) (fun _ => (jAll n).2.2) fun D t1 t2 t3 c h' tk' F2 N2 l2 => by rw [show kTo 1 (jY n) (jM n) (jD n) = n from (jAll n).2.1] at N2; exact hret D t1 t2 t3 c h' tk' F2 N2 l2
end
section
variable {w : World} {mean : ExcName → Option Value} {mg mb : Str → Option Value} {dp un : Nat} {gd : Option (List Code)} {cn : Str} {cs : Scope} {a : Addr} {ccd : Value} {cl : List (Str × Addr)} {outer : List Env} {A₀ : Around} {base h₀ : Heap} {L : Addr} {m : Str → Option Value} {news : List (Addr × Obj)} {s : Shared} {Q E : Value → Shared → Prop}
theorem d_date2 {n : Int} {tk tn : Tok} (B : Below A₀ base outer h₀) (F : Fr h₀ L s.heap m) (X : (hd.heap_39 w.params).In h₀) (N : News h₀ L s.heap news) (T : Top hd.view_39 loo mean mg mb h₀) (hk : cs.kind = .function) (hdd : dp + 6 < recursionLimit) (hu : un + 48 < cLine)
 (hret : ∀ (D : Addr) (t1 t2 t3 : Tok) (c : Nat) (h' : Heap) (tk' : Nat), Fr h₀ L h' m → News h₀ L h' ((D, ({ cls := .type "tuple", data := .seq #[.int (iY n) t1, .int (iM n) t2, .int (iD n) t3] c } : Obj)) :: news) → AllLt D news → 1 ≤ iM n → iM n ≤ 12 → 1 ≤ iD n → iD n ≤ ([30, 29, 30, 29, 30, 29, 30, 29, 30, 29, 30, 29 + b2i (iLong (iY n))] : List Int).getD (iM n - 1).toNat 0 → iFirst (iY n) + (([30, 29, 30, 29, 30, 29, 30, 29, 30, 29, 30, 29 + b2i (iLong (iY n))] : List Int).take (iM n - 1).toNat).sum + iD n - 1 = n → Q (.ref D) {s with heap := h', toks := tk'}) :
  wpAny (model PySem.Challenge.pw_jb0010_01 w) (ktrTop dp un gd cn cs L a ccd cl outer) (call (.ref 210) [.int 2 tk, .int n tn]) Q E s :=
  c_date B F X N T hk hdd hu fun D t1 t2 t3 c h' tk' F2 N2 l2 => hret D t1 t2 t3 c h' tk' F2 N2 l2 ((iAll n).1).m1 ((iAll n).1).m2 ((iAll n).1).d1 ((iAll n).1).d2 ((iAll n).1).eq
end
section
variable {w : World} {mean : ExcName → Option Value} {mg mb : Str → Option Value} {dp un : Nat} {gd : Option (List Code)} {cn : Str} {cs : Scope} {a : Addr} {ccd : Value} {cl : List (Str × Addr)} {outer : List Env} {A₀ : Around} {base h₀ : Heap} {L : Addr} {m : Str → Option Value} {news : List (Addr × Obj)} {s : Shared} {Q E : Value → Shared → Prop}
theorem d_back2 {n : Int} {tk ty tm td : Tok} (B : Below A₀ base outer h₀) (F : Fr h₀ L s.heap m) (X : (hd.heap_39 w.params).In h₀) (N : News h₀ L s.heap news) (T : Top hd.view_39 loo mean mg mb h₀) (hk : cs.kind = .function) (hdd : dp + 5 < recursionLimit) (hu : un + 40 < cLine)
 (hret : ∀ (t : Tok) (h' : Heap) (tk' : Nat), Fr h₀ L h' m → News h₀ L h' news → Q (.int n t) {s with heap := h', toks := tk'}) :
  wpAny (model PySem.Challenge.pw_jb0010_01 w) (ktrTop dp un gd cn cs L a ccd cl outer) (call (.ref 217) [.int 2 tk, .int (iY n) ty, .int (iM n) tm, .int (iD n) td]) Q E s :=
  c_back B F X N T hk hdd hu (fun e => absurd e (by decide)) (fun e => absurd e (by decide)) fun t h' tk' F2 N2 => by rw [show kTo 2 (iY n) (iM n) (iD n) = n from (iAll n).2]; exact hret t h' tk' F2 N2
end
section
variable {w : World} {mean : ExcName → Option Value} {mg mb : Str → Option Value} {dp un : Nat} {gd : Option (List Code)} {cn : Str} {cs : Scope} {a : Addr} {ccd : Value} {cl : List (Str × Addr)} {outer : List Env} {A₀ : Around} {base h₀ : Heap} {L : Addr} {m : Str → Option Value} {news : List (Addr × Obj)} {s : Shared} {Q E : Value → Shared → Prop}
theorem d_fg2 {n : Int} {tk ty tm td : Tok} (B : Below A₀ base outer h₀) (F : Fr h₀ L s.heap m) (X : (hd.heap_39 w.params).In h₀) (N : News h₀ L s.heap news) (T : Top hd.view_39 loo mean mg mb h₀) (hk : cs.kind = .function) (hdd : dp + 7 < recursionLimit) (hu : un + 56 < cLine)
 (hret : ∀ (D : Addr) (t1 t2 t3 : Tok) (c : Nat) (h' : Heap) (tk' : Nat), Fr h₀ L h' m → News h₀ L h' ((D, ({ cls := .type "tuple", data := .seq #[.int (iY n) t1, .int (iM n) t2, .int (iD n) t3] c } : Obj)) :: news) → AllLt D news → Q (.ref D) {s with heap := h', toks := tk'}) :
  wpAny (model PySem.Challenge.pw_jb0010_01 w) (ktrTop dp un gd cn cs L a ccd cl outer) (call (.ref 224) [.int 2 tk, .int (gY n) ty, .int (gM n) tm, .int (gD n) td]) Q E s :=
  c_fg B F X N T hk hdd hu (by decide) (by have h := gM_spec n; exact ⟨by omega, h.2.2⟩) fun D t1 t2 t3 c h' tk' F2 N2 l2 => by rw [gTo_from n] at N2; exact hret D t1 t2 t3 c h' tk' F2 N2 l2
end
section
variable {w : World} {mean : ExcName → Option Value} {mg mb : Str → Option Value} {dp un : Nat} {gd : Option (List Code)} {cn : Str} {cs : Scope} {a : Addr} {ccd : Value} {cl : List (Str × Addr)} {outer : List Env} {A₀ : Around} {base h₀ : Heap} {L : Addr} {m : Str → Option Value} {news : List (Addr × Obj)} {s : Shared} {Q E : Value → Shared → Prop}
theorem d_tg2 {n : Int} {tk ty tm td : Tok} (B : Below A₀ base outer h₀) (F : Fr h₀ L s.heap m) (X : (hd.heap_39 w.params).In h₀) (N : News h₀ L s.heap news) (T : Top hd.view_39 loo mean mg mb h₀) (hk : cs.kind = .function) (hdd : dp + 6 < recursionLimit) (hu : un + 48 < cLine)
 (hret : ∀ (D : Addr) (t1 t2 t3 : Tok) (c : Nat) (h' : Heap) (tk' : Nat), Fr h₀ L h' m → News h₀ L h' ((D, ({ cls := .type "tuple", data := .seq #[.int (gY n) t1, .int (gM n) t2, .int (gD n) t3] c } : Obj)) :: news) → AllLt D news → Q (.ref D) {s with heap := h', toks := tk'}) :
  wpAny (model PySem.Challenge.pw_jb0010_01 w) (ktrTop dp un gd cn cs L a ccd cl outer) (call (.ref 231) [.int 2 tk, .int (iY n) ty, .int (iM n) tm, .int (iD n) td]) Q E s :=
  c_tg B F X N T hk hdd hu (by decide) (fun e => absurd e (by decide)) fun D t1 t2 t3 c h' tk' F2 N2 l2 => by rw [show kTo 2 (iY n) (iM n) (iD n) = n from (iAll n).2] at N2; exact hret D t1 t2 t3 c h' tk' F2 N2 l2
end
section
variable {w : World} {mean : ExcName → Option Value} {mg mb : Str → Option Value} {dp un : Nat} {gd : Option (List Code)} {cn : Str} {cs : Scope} {a : Addr} {ccd : Value} {cl : List (Str × Addr)} {outer : List Env} {A₀ : Around} {base h₀ : Heap} {L : Addr} {m : Str → Option Value} {news : List (Addr × Obj)} {s : Shared} {Q E : Value → Shared → Prop}
theorem d_date3 {n : Int} {tk tn : Tok} (B : Below A₀ base outer h₀) (F : Fr h₀ L s.heap m) (X : (hd.heap_39 w.params).In h₀) (N : News h₀ L s.heap news) (T : Top hd.view_39 loo mean mg mb h₀) (hk : cs.kind = .function) (hdd : dp + 6 < recursionLimit) (hu : un + 48 < cLine)
 (hret : ∀ (D : Addr) (t1 t2 t3 : Tok) (c : Nat) (h' : Heap) (tk' : Nat), Fr h₀ L h' m → News h₀ L h' ((D, ({ cls := .type "tuple", data := .seq #[.int (cY n) t1, .int (cM n) t2, .int (cD n) t3] c } : Obj)) :: news) → AllLt D news → 1 ≤ cM n → cM n ≤ 13 → 1 ≤ cD n → cD n ≤ ([30, 30, 30, 30, 30, 30, 30, 30, 30, 30, 30, 30, 5 + b2i (cLong (cY n))] : List Int).getD (cM n - 1).toNat 0 → cFirst (cY n) + (([30, 30, 30, 30, 30, 30, 30, 30, 30, 30, 30, 30, 5 + b2i (cLong (cY n))] : List Int).take (cM n - 1).toNat).sum + cD n - 1 = n → Q (.ref D) {s with heap := h', toks := tk'}) :
  wpAny (model PySem.Challenge.pw_jb0010_01 w) (ktrTop dp un gd cn cs L a ccd cl outer) (call (.ref 210) [.int 3 tk, .int n tn]) Q E s :=
  c_date B F X N T hk hdd hu fun D t1 t2 t3 c h' tk' F2 N2 l2 => hret D t1 t2 t3 c h' tk' F2 N2 l2 ((cAll n).1).m1 ((cAll n).1).m2 ((cAll n).1).d1 ((cAll n).1).d2 ((cAll n).1).eq
end
section
variable {w : World} {mean : ExcName → Option Value} {mg mb : Str → Option Value} {dp un : Nat} {gd : Option (List Code)} {cn : Str} {cs : Scope} {a : Addr} {ccd : Value} {cl : List (Str × Addr)} {outer : List Env} {A₀ : Around} {base h₀ : Heap} {L : Addr} {m : Str → Option Value} {news : List (Addr × Obj)} {s : Shared} {Q E : Value → Shared → Prop}
theorem d_back3 {n : Int} {tk ty tm td : Tok} (B : Below A₀ base outer h₀) (F : Fr h₀ L s.heap m) (X : (hd.heap_39 w.params).In h₀) (N : News h₀ L s.heap news) (T : Top hd.view_39 loo mean mg mb h₀) (hk : cs.kind = .function) (hdd : dp + 5 < recursionLimit) (hu : un + 40 < cLine)
 (hret : ∀ (t : Tok) (h' : Heap) (tk' : Nat), Fr h₀ L h' m → News h₀ L h' news → Q (.int n t) {s with heap := h', toks := tk'}) :
  wpAny (model PySem.Challenge.pw_jb0010_01 w) (ktrTop dp un gd cn cs L a ccd cl outer) (call (.ref 217) [.int 3 tk, .int (cY n) ty, .int (cM n) tm, .int (cD n) td]) Q E s :=
  c_back B F X N T hk hdd hu (fun e => absurd e (by decide)) (fun e => absurd e (by decide)) fun t h' tk' F2 N2 => by rw [show kTo 3 (cY n) (cM n) (cD n) = n from (cAll n).2]; exact hret t h' tk' F2 N2
end
section
variable {w : World} {mean : ExcName → Option Value} {mg mb : Str → Option Value} {dp un : Nat} {gd : Option (List Code)} {cn : Str} {cs : Scope} {a : Addr} {ccd : Value} {cl : List (Str × Addr)} {outer : List Env} {A₀ : Around} {base h₀ : Heap} {L : Addr} {m : Str → Option Value} {news : List (Addr × Obj)} {s : Shared} {Q E : Value → Shared → Prop}
theorem d_fg3 {n : Int} {tk ty tm td : Tok} (B : Below A₀ base outer h₀) (F : Fr h₀ L s.heap m) (X : (hd.heap_39 w.params).In h₀) (N : News h₀ L s.heap news) (T : Top hd.view_39 loo mean mg mb h₀) (hk : cs.kind = .function) (hdd : dp + 7 < recursionLimit) (hu : un + 56 < cLine)
 (hret : ∀ (D : Addr) (t1 t2 t3 : Tok) (c : Nat) (h' : Heap) (tk' : Nat), Fr h₀ L h' m → News h₀ L h' ((D, ({ cls := .type "tuple", data := .seq #[.int (cY n) t1, .int (cM n) t2, .int (cD n) t3] c } : Obj)) :: news) → AllLt D news → Q (.ref D) {s with heap := h', toks := tk'}) :
  wpAny (model PySem.Challenge.pw_jb0010_01 w) (ktrTop dp un gd cn cs L a ccd cl outer) (call (.ref 224) [.int 3 tk, .int (gY n) ty, .int (gM n) tm, .int (gD n) td]) Q E s :=
  c_fg B F X N T hk hdd hu (by decide) (by have h := gM_spec n; exact ⟨by omega, h.2.2⟩) fun D t1 t2 t3 c h' tk' F2 N2 l2 => by rw [gTo_from n] at N2; exact hret D t1 t2 t3 c h' tk' F2 N2 l2
end
section
variable {w : World} {mean : ExcName → Option Value} {mg mb : Str → Option Value} {dp un : Nat} {gd : Option (List Code)} {cn : Str} {cs : Scope} {a : Addr} {ccd : Value} {cl : List (Str × Addr)} {outer : List Env} {A₀ : Around} {base h₀ : Heap} {L : Addr} {m : Str → Option Value} {news : List (Addr × Obj)} {s : Shared} {Q E : Value → Shared → Prop}
theorem d_tg3 {n : Int} {tk ty tm td : Tok} (B : Below A₀ base outer h₀) (F : Fr h₀ L s.heap m) (X : (hd.heap_39 w.params).In h₀) (N : News h₀ L s.heap news) (T : Top hd.view_39 loo mean mg mb h₀) (hk : cs.kind = .function) (hdd : dp + 6 < recursionLimit) (hu : un + 48 < cLine)
 (hret : ∀ (D : Addr) (t1 t2 t3 : Tok) (c : Nat) (h' : Heap) (tk' : Nat), Fr h₀ L h' m → News h₀ L h' ((D, ({ cls := .type "tuple", data := .seq #[.int (gY n) t1, .int (gM n) t2, .int (gD n) t3] c } : Obj)) :: news) → AllLt D news → Q (.ref D) {s with heap := h', toks := tk'}) :
  wpAny (model PySem.Challenge.pw_jb0010_01 w) (ktrTop dp un gd cn cs L a ccd cl outer) (call (.ref 231) [.int 3 tk, .int (cY n) ty, .int (cM n) tm, .int (cD n) td]) Q E s :=
  c_tg B F X N T hk hdd hu (by decide) (fun e => absurd e (by decide)) fun D t1 t2 t3 c h' tk' F2 N2 l2 => by rw [show kTo 3 (cY n) (cM n) (cD n) = n from (cAll n).2] at N2; exact hret D t1 t2 t3 c h' tk' F2 N2 l2
end
section
variable {w : World} {mean : ExcName → Option Value} {mg mb : Str → Option Value} {dp un : Nat} {gd : Option (List Code)} {cn : Str} {cs : Scope} {a : Addr} {ccd : Value} {cl : List (Str × Addr)} {outer : List Env} {A₀ : Around} {base h₀ : Heap} {L : Addr} {m : Str → Option Value} {news : List (Addr × Obj)} {s : Shared} {Q E : Value → Shared → Prop}
theorem d_date4 {n : Int} {tk tn : Tok} (B : Below A₀ base outer h₀) (F : Fr h₀ L s.heap m) (X : (hd.heap_39 w.params).In h₀) (N : News h₀ L s.heap news) (T : Top hd.view_39 loo mean mg mb h₀) (hk : cs.kind = .function) (hdd : dp + 6 < recursionLimit) (hu : un + 48 < cLine)
 (hret : ∀ (D : Addr) (t1 t2 t3 : Tok) (c : Nat) (h' : Heap) (tk' : Nat), Fr h₀ L h' m → News h₀ L h' ((D, ({ cls := .type "tuple", data := .seq #[.int (xY n) t1, .int (xM n) t2, .int (xD n) t3] c } : Obj)) :: news) → AllLt D news → 1 ≤ xM n → xM n ≤ 12 → 1 ≤ xD n → xD n ≤ ([30 + b2i (gLeap (xY n + 78)), 31, 31, 31, 31, 31, 30, 30, 30, 30, 30, 30] : List Int).getD (xM n - 1).toNat 0 → gFirst (xY n + 78) + 80 + (([30 + b2i (gLeap (xY n + 78)), 31, 31, 31, 31, 31, 30, 30, 30, 30, 30, 30] : List Int).take (xM n - 1).toNat).sum + xD n - 1 = n → Q (.ref D) {s with heap := h', toks := tk'}) :
  wpAny (model PySem.Challenge.pw_jb0010_01 w) (ktrTop dp un gd cn cs L a ccd cl outer) (call (.ref 210) [.int 4 tk, .int n tn]) Q E s :=
  c_date B F X N T hk hdd hu fun D t1 t2 t3 c h' tk' F2 N2 l2 => hret D t1 t2 t3 c h' tk' F2 N2 l2 ((xAll n).1).m1 ((xAll n).1).m2 ((xAll n).1).d1 ((xAll n).1).d2 ((xAll n).1).eq
end
section
variable {w : World} {mean : ExcName → Option Value} {mg mb : Str → Option Value} {dp un : Nat} {gd : Option (List Code)} {cn : Str} {cs : Scope} {a : Addr} {ccd : Value} {cl : List (Str × Addr)} {outer : List Env} {A₀ : Around} {base h₀ : Heap} {L : Addr} {m : Str → Option Value} {news : List (Addr × Obj)} {s : Shared} {Q E : Value → Shared → Prop}
theorem d_back4 {n : Int} {tk ty tm td : Tok} (B : Below A₀ base outer h₀) (F : Fr h₀ L s.heap m) (X : (hd.heap_39 w.params).In h₀) (N : News h₀ L s.heap news) (T : Top hd.view_39 loo mean mg mb h₀) (hk : cs.kind = .function) (hdd : dp + 5 < recursionLimit) (hu : un + 40 < cLine)
 (hret : ∀ (t : Tok) (h' : Heap) (tk' : Nat), Fr h₀ L h' m → News h₀ L h' news → Q (.int n t) {s with heap := h', toks := tk'}) :
  wpAny (model PySem.Challenge.pw_jb0010_01 w) (ktrTop dp un gd cn cs L a ccd cl outer) (call (.ref 217) [.int 4 tk, .int (xY n) ty, .int (xM n) tm, .int (xD n) td]) Q E s :=
  c_back B F X N T hk hdd hu (fun e => absurd e (by decide)) (fun e => absurd e (by decide)) fun t h' tk' F2 N2 => by rw [show kTo 4 (xY n) (xM n) (xD n) = n from (xAll n).2]; exact hret t h' tk' F2 N2
end
section
variable {w : World} {mean : ExcName → Option Value} {mg mb : Str → Option Value} {dp un : Nat} {gd : Option (List Code)} {cn : Str} {cs : Scope} {a : Addr} {ccd : Value} {cl : List (Str × Addr)} {outer : List Env} {A₀ : Around} {base h₀ : Heap} {L : Addr} {m : Str → Option Value} {news : List (Addr × Obj)} {s : Shared} {Q E : Value → Shared → Prop}
theorem d_fg4 {n : Int} {tk ty tm td : Tok} (B : Below A₀ base outer h₀) (F : Fr h₀ L s.heap m) (X : (hd.heap_39 w.params).In h₀) (N : News h₀ L s.heap news) (T : Top hd.view_39 loo mean mg mb h₀) (hk : cs.kind = .function) (hdd : dp + 7 < recursionLimit) (hu : un + 56 < cLine)
 (hret : ∀ (D : Addr) (t1 t2 t3 : Tok) (c : Nat) (h' : Heap) (tk' : Nat), Fr h₀ L h' m → News h₀ L h' ((D, ({ cls := .type "tuple", data := .seq #[.int (xY n) t1, .int (xM n) t2, .int (xD n) t3] c } : Obj)) :: news) → AllLt D news → Q (.ref D) {s with heap := h', toks := tk'}) :
  wpAny (model PySem.Challenge.pw_jb0010_01 w) (ktrTop dp un gd cn cs L a ccd cl outer) (call (.ref 224) [.int 4 tk, .int (gY n) ty, .int (gM n) tm, .int (gD n) td]) Q E s :=
  c_fg B F X N T hk hdd hu (by decide) (by have h := gM_spec n; exact ⟨by omega, h.2.2⟩) fun D t1 t2 t3 c h' tk' F2 N2 l2 => by rw [gTo_from n] at N2; exact hret D t1 t2 t3 c h' tk' F2 N2 l2
end
section
variable {w : World} {mean : ExcName → Option Value} {mg mb : Str → Option Value} {dp un : Nat} {gd : Option (List Code)} {cn : Str} {cs : Scope} {a : Addr} {ccd : Value} {cl : List (Str × Addr)} {outer : List Env} {A₀ : Around} {base h₀ : Heap} {L : Addr} {m : Str → Option Value} {news : List (Addr × Obj)} {s : Shared} {Q E : Value → Shared → Prop}
theorem d_tg4 {n : Int} {tk ty tm td : Tok} (B : Below A₀ base outer h₀) (F : Fr h₀ L s.heap m) (X : (hd.heap_39 w.params).In h₀) (N : News h₀ L s.heap news) (T : Top hd.view_39 loo mean mg mb h₀) (hk : cs.kind = .function) (hdd : dp + 6 < recursionLimit) (hu : un + 48 < cLine)
 (hret : ∀ (D : Addr) (t1 t2 t3 : Tok) (c : Nat) (h' : Heap) (tk' : Nat), Fr h₀ L h' m → News h₀ L h' ((D, ({ cls := .type "tuple", data := .seq #[.int (gY n) t1, .int (gM n) t2, .int (gD n) t3] c } : Obj)) :: news) → AllLt D news → Q (.ref D) {s with heap := h', toks := tk'}) :
  wpAny (model PySem.Challenge.pw_jb0010_01 w) (ktrTop dp un gd cn cs L a ccd cl outer) (call (.ref 231) [.int 4 tk, .int (xY n) ty, .int (xM n) tm, .int (xD n) td]) Q E s :=
  c_tg B F X N T hk hdd hu (by decide) (fun e => absurd e (by decide)) fun D t1 t2 t3 c h' tk' F2 N2 l2 => by rw [show kTo 4 (xY n) (xM n) (xD n) = n from (xAll n).2] at N2; exact hret D t1 t2 t3 c h' tk' F2 N2 l2
end
def Halt2 (P : Prop) : Prop := P
theorem halt2 {α : Type} {M : Model} {A : Around} {E : Value → Shared → Prop} {s : Shared} {t : Sem α} {Q : α → Shared → Prop} (h : Halt2 (wpAny M A t Q E s)) : wpAny M A t Q E s := h
structure Passed : Prop where
@[reducible] def tup3 (y m d : Int) (t1 t2 t3 : Tok) (c : Nat) : Obj := { cls := .type "tuple", data := .seq #[.int y t1, .int m t2, .int d t3] c }
theorem UnrPost.mono {h₀ : Heap} {L : Addr} {s₁ : Shared} {I : Addr} {it : Obj} {rest rest' : (Str → Option Value) → List (Addr × Obj) → Prop} {Q : Flow → Shared → Prop} {f : Flow} {s₂ : Shared} (h : ∀ m n, rest m n → rest' m n) (p : UnrPost h₀ L s₁ I it rest Q f s₂) : UnrPost h₀ L s₁ I it rest' Q f s₂ := by
  cases f with
  | ret v => exact p
  | brk => exact p
  | next => obtain ⟨h', tk, m', news', e, F, N, o, r⟩ := p; exact ⟨h', tk, m', news', e, F, N, o, h _ _ r⟩
  | cont => obtain ⟨h', tk, m', news', e, F, N, o, r⟩ := p; exact ⟨h', tk, m', news', e, F, N, o, h _ _ r⟩
def Small (its : Array Value) : Prop := its.size ≤ 8
theorem small1 {v : Value} : Small (#[].push v) := (by decide : (1 : Nat) ≤ 8)
theorem Small.fit {its : Array Value} (h : Small its) : its.size ≤ sizeLine := Nat.le_trans h (Nat.le_of_ble_eq_true rfl)
def dayNews (n : Int) (dt a0 a1 a2 a3 a4 : Addr) (cd : Nat) (t : Nat → Tok) (c : Nat → Nat) : List (Addr × Obj) :=
  [(dt, W.listOf #[.ref a0, .ref a1, .ref a2, .ref a3, .ref a4] cd), (a0, tup3 (gY n) (gM n) (gD n) (t 0) (t 1) (t 2) (c 0)), (a1, tup3 (jY n) (jM n) (jD n) (t 3) (t 4) (t 5) (c 1)), (a2, tup3 (iY n) (iM n) (iD n) (t 6) (t 7) (t 8) (c 2)), (a3, tup3 (cY n) (cM n) (cD n) (t 9) (t 10) (t 11) (c 3)), (a4, tup3 (xY n) (xM n) (xD n) (t 12) (t 13) (t 14) (c 4))]
def DayEnd (R D : Addr) (its : Array Value) (cr : Nat) (od : Obj) (rest : List (Addr × Obj)) (n : Int) (m' : Str → Option Value) (n' : List (Addr × Obj)) : Prop :=
  m' (Str.ofString "rows") = some (.ref R) ∧ m' (Str.ofString "days") = some (.ref D) ∧ ∃ dt a0 a1 a2 a3 a4 cd t c, n' = (R, W.listOf (its.push (.ref dt)) (cr + 1)) :: (D, od) :: (dayNews n dt a0 a1 a2 a3 a4 cd t c ++ rest) ∧ OwnOff (dayNews n dt a0 a1 a2 a3 a4 cd t c) [R]
abbrev dayMap (n : Int) (t : Tok) (R D : Addr) (m1 : Str → Option Value) : Str → Option Value := fun y => if y = Str.ofString "number" then some (.int n t) else if y = Str.ofString "rows" then some (.ref R) else if y = Str.ofString "days" then some (.ref D) else m1 y
theorem dayMap_eq {n : Int} {t : Tok} {R D : Addr} {m : Str → Option Value} (hr : m (Str.ofString "rows") = some (.ref R)) (hd : m (Str.ofString "days") = some (.ref D)) : (fun y => if y = Str.ofString "number" then some (Value.int n t) else m y) = dayMap n t R D m := by
  funext y
  simp only [dayMap]
  split
  · rfl
  · split
    · next h => rw [h]; exact hr
    · split
      · next h => rw [h]; exact hd
      · rfl
theorem iter_days {prog : Program} {w : World} {A : Around} {E : Value → Shared → Prop} {s : Shared} {env : Env} {h₀ : Heap} {body : List Stmt} {Q : Flow → Shared → Prop} {R D : Addr} {n0 n1 : Int} {t0 t1 : Tok} {c c0 : Nat} {m₀ : Str → Option Value}
    (hh : A.handled = none) (F : Fr h₀ env.locals s.heap m₀) (N : News h₀ env.locals s.heap ((R, W.listOf #[] c0) :: (D, W.listOf #[.int n0 t0, .int n1 t1] c) :: []))
    (hDR : @LT.lt Nat _ D R) (mR : m₀ (Str.ofString "rows") = some (.ref R)) (mD : m₀ (Str.ofString "days") = some (.ref D))
    (turn : ∀ (n : Int) (t : Tok) (m1 : Str → Option Value) (its : Array Value) (cr : Nat) (rest : List (Addr × Obj)) (I : Addr) (it : Obj) (h : Heap) (tk : Nat) (hz : Small its), it.cls = .type "list_iterator" → OwnOff rest [R, I] → @LT.lt Nat _ D R → @LT.lt Nat _ D I ∧ @LT.lt Nat _ R I →
      Fr h₀ env.locals h (dayMap n t R D m1) → News h₀ env.locals h ((I, it) :: (R, W.listOf its cr) :: (D, W.listOf #[.int n0 t0, .int n1 t1] c) :: rest) →
      wpAny (model prog w) A (execs body env) (UnrPost h₀ env.locals { s with heap := h, toks := tk } I it (DayEnd R D its cr (W.listOf #[.int n0 t0, .int n1 t1] c) rest n) Q) E { s with heap := h, toks := tk })
    (done : ∀ (m1 : Str → Option Value) (h : Heap) (tk : Nat) (dt a0 a1 a2 a3 a4 : Addr) (cd : Nat) (t : Nat → Tok) (cc : Nat → Nat) (dt' a0' a1' a2' a3' a4' : Addr) (cd' : Nat) (t' : Nat → Tok) (cc' : Nat → Nat),
      Fr h₀ env.locals h (fun y => if y = Str.ofString "rows" then some (.ref R) else if y = Str.ofString "days" then some (.ref D) else m1 y) →
      News h₀ env.locals h ((R, W.listOf #[.ref dt, .ref dt'] (c0 + 2)) :: (D, W.listOf #[.int n0 t0, .int n1 t1] c) :: (dayNews n1 dt' a0' a1' a2' a3' a4' cd' t' cc' ++ dayNews n0 dt a0 a1 a2 a3 a4 cd t cc)) → Q .next { s with heap := h, toks := tk }) :
    wpAny (model prog w) A (pyIter (.ref D)) (fun it s₂ => LoopAtV prog w A h₀ env (Str.ofString "number") body Q E it s₂) E s := by
  refine iter_listUnr (lo := W.listOf #[.int n0 t0, .int n1 t1] c) (vs := [.int n0 t0, .int n1 t1]) hh F N (.tail _ (.head _)) rfl rfl ?_
  intro I hI
  have hRI : R < I := hI _ (.head _)
  have hDI : D < I := hI _ (.tail _ (.head _))
  refine ListRest.succ ?_
  intro it h tk hit F1 N1
  rw [dayMap_eq mR mD] at F1
  refine wpAny_mono (turn n0 t0 m₀ #[] c0 [] I it h tk (Nat.zero_le 8) hit (by intro p hp; cases hp) hDR ⟨hDI, hRI⟩ F1 N1) (fun f s₂ p => UnrPost.mono ?_ p) fun _ _ e => e
  rintro m' n' ⟨hr, hd, dt, a0, a1, a2, a3, a4, cd, t, cc, rfl, off⟩
  refine ⟨.tail _ (.head _), ListRest.succ ?_⟩
  intro it2 h2 tk2 hit2 F2 N2
  rw [dayMap_eq hr hd] at F2
  rw [List.append_nil] at N2
  have offI : OwnOff (dayNews n0 dt a0 a1 a2 a3 a4 cd t cc) [I] := by
    intro q hp b hb e
    rw [List.mem_singleton] at hb
    rw [hb] at e
    have x1 := (N2 _ (.head _)).1
    have x2 := (N2 q (.tail _ (.tail _ (.tail _ hp)))).1
    rw [e] at x2
    have x3 : q.2 = it2 := Option.some.inj (x2.symm.trans x1)
    have x4 : q.2.cls = .type "list_iterator" := x3 ▸ hit2
    simp only [dayNews, List.mem_cons, List.not_mem_nil, or_false] at hp
    rcases hp with rfl | rfl | rfl | rfl | rfl | rfl <;> exact absurd (Value.type.inj x4) (by decide)
  have offRI : OwnOff (dayNews n0 dt a0 a1 a2 a3 a4 cd t cc) [R, I] := by
    intro q hp b hb
    rcases List.mem_cons.mp hb with rfl | hb
    · exact off q hp b (.head _)
    · exact offI q hp b hb
  refine wpAny_mono (turn n1 t1 m' _ _ _ I it2 h2 tk2 small1 hit2 offRI hDR ⟨hDI, hRI⟩ F2 N2) (fun f s₂ p => UnrPost.mono ?_ p) fun _ _ e => e
  rintro m'' n'' ⟨hr', hd', dt', a0', a1', a2', a3', a4', cd', t', cc', rfl, off'⟩
  refine ⟨.tail _ (.head _), ListRest.zero ?_⟩
  intro h3 tk3 F3 N3
  refine done m'' h3 tk3 dt a0 a1 a2 a3 a4 cd t cc dt' a0' a1' a2' a3' a4' cd' t' cc' ?_ N3
  have e : m'' = (fun y => if y = Str.ofString "rows" then some (Value.ref R) else if y = Str.ofString "days" then some (Value.ref D) else m'' y) := by
    funext y
    split
    · next h => rw [h]; exact hr'
    · split
      · next h => rw [h]; exact hd'
      · rfl
  rw [← e]; exact F3
theorem fr_prune1 {h₀ h : Heap} {L : Addr} {m : Str → Option Value} {n k : Int} {t tk : Tok} {R D dt : Addr} (F : Fr h₀ L h m) (h0 : m (Str.ofString "kind") = some (.int k tk)) (h1 : m (Str.ofString "dates") = some (.ref dt)) (h2 : m (Str.ofString "number") = some (.int n t)) (h3 : m (Str.ofString "rows") = some (.ref R)) (h4 : m (Str.ofString "days") = some (.ref D)) :
    ∃ m1 : Str → Option Value, Fr h₀ L h (fun y => if y = Str.ofString "kind" then some (.int k tk) else if y = Str.ofString "dates" then some (.ref dt) else if y = Str.ofString "number" then some (.int n t) else if y = Str.ofString "rows" then some (.ref R) else if y = Str.ofString "days" then some (.ref D) else m1 y) := by
  refine ⟨m, ?_⟩
  have e : m = (fun y => if y = Str.ofString "kind" then some (.int k tk) else if y = Str.ofString "dates" then some (.ref dt) else if y = Str.ofString "number" then some (.int n t) else if y = Str.ofString "rows" then some (.ref R) else if y = Str.ofString "days" then some (.ref D) else m y) := by
    funext y
    (repeat' split) <;> first | rfl | (rename_i hy; rw [hy]; assumption)
  rw [← e]; exact F
theorem fr_prune2 {h₀ h : Heap} {L : Addr} {m : Str → Option Value} {n k y₀ m₀ d₀ : Int} {t tk ty tm td : Tok} {R D dt : Addr} (F : Fr h₀ L h m) (h0 : m (Str.ofString "kind") = some (.int k tk)) (h5 : m (Str.ofString "year") = some (.int y₀ ty)) (h6 : m (Str.ofString "month") = some (.int m₀ tm)) (h7 : m (Str.ofString "day") = some (.int d₀ td)) (h1 : m (Str.ofString "dates") = some (.ref dt)) (h2 : m (Str.ofString "number") = some (.int n t)) (h3 : m (Str.ofString "rows") = some (.ref R)) (h4 : m (Str.ofString "days") = some (.ref D)) :
    ∃ m1 : Str → Option Value, Fr h₀ L h (fun y => if y = Str.ofString "kind" then some (.int k tk) else if y = Str.ofString "year" then some (.int y₀ ty) else if y = Str.ofString "month" then some (.int m₀ tm) else if y = Str.ofString "day" then some (.int d₀ td) else if y = Str.ofString "dates" then some (.ref dt) else if y = Str.ofString "number" then some (.int n t) else if y = Str.ofString "rows" then some (.ref R) else if y = Str.ofString "days" then some (.ref D) else m1 y) := by
  refine ⟨m, ?_⟩
  have e : m = (fun y => if y = Str.ofString "kind" then some (.int k tk) else if y = Str.ofString "year" then some (.int y₀ ty) else if y = Str.ofString "month" then some (.int m₀ tm) else if y = Str.ofString "day" then some (.int d₀ td) else if y = Str.ofString "dates" then some (.ref dt) else if y = Str.ofString "number" then some (.int n t) else if y = Str.ofString "rows" then some (.ref R) else if y = Str.ofString "days" then some (.ref D) else m y) := by
    funext y
    (repeat' split) <;> first | rfl | (rename_i hy; rw [hy]; assumption)
  rw [← e]; exact F
theorem cls_ne {h₀ h : Heap} {L : Addr} {all : List (Addr × Obj)} (N : News h₀ L h all) {p q : Addr × Obj} (hp : p ∈ all) (hq : q ∈ all) (hc : p.2.cls ≠ q.2.cls) : p.1 ≠ q.1 := fun e => by
  have x1 := (N p hp).1
  have x2 := (N q hq).1
  rw [e] at x1
  exact hc (congrArg Obj.cls (Option.some.inj (x1.symm.trans x2)))
theorem day_unr {h₀ : Heap} {L I R D : Addr} {it od : Obj} {its : Array Value} {cr : Nat} {rest all : List (Addr × Obj)} {n : Int} {s₁ : Shared} {h' : Heap} {tk : Nat} {m' : Str → Option Value} {dt a0 a1 a2 a3 a4 : Addr} {cd t0 t1 t2 t3 t4 t5 t6 t7 t8 t9 t10 t11 t12 t13 t14 c0 c1 c2 c3 c4 : Nat}
    (F : Fr h₀ L h' m') (N : News h₀ L h' all) (hit : it.cls = .type "list_iterator") (hod : od.cls = .type "list") (hI : (I, it) ∈ all) (hR : (R, W.listOf (its.push (.ref dt)) (cr + 1)) ∈ all) (hD : (D, od) ∈ all)
    (hdt : (dt, W.listOf #[.ref a0, .ref a1, .ref a2, .ref a3, .ref a4] cd) ∈ all) (h0 : (a0, tup3 (gY n) (gM n) (gD n) t0 t1 t2 c0) ∈ all) (h1 : (a1, tup3 (jY n) (jM n) (jD n) t3 t4 t5 c1) ∈ all) (h2 : (a2, tup3 (iY n) (iM n) (iD n) t6 t7 t8 c2) ∈ all) (h3 : (a3, tup3 (cY n) (cM n) (cD n) t9 t10 t11 c3) ∈ all) (h4 : (a4, tup3 (xY n) (xM n) (xD n) t12 t13 t14 c4) ∈ all)
    (hrest : ∀ p ∈ rest, p ∈ all) (off : OwnOff rest [R, I]) (hne : dt ≠ R) (mR : m' (Str.ofString "rows") = some (.ref R)) (mD : m' (Str.ofString "days") = some (.ref D)) :
    UnrEnd h₀ L s₁ I it (DayEnd R D its cr od rest n) { s₁ with heap := h', toks := tk } := by
  have l : Value.type "list" ≠ Value.type "list_iterator" := fun e => absurd (Value.type.inj e) (by decide)
  have t : Value.type "tuple" ≠ Value.type "list_iterator" := fun e => absurd (Value.type.inj e) (by decide)
  have tl : Value.type "tuple" ≠ Value.type "list" := fun e => absurd (Value.type.inj e) (by decide)
  refine UnrEnd.intro F N ((R, W.listOf (its.push (.ref dt)) (cr + 1)) :: (D, od) :: (dt, W.listOf #[.ref a0, .ref a1, .ref a2, .ref a3, .ref a4] cd) :: (a0, tup3 (gY n) (gM n) (gD n) t0 t1 t2 c0) :: (a1, tup3 (jY n) (jM n) (jD n) t3 t4 t5 c1) :: (a2, tup3 (iY n) (iM n) (iD n) t6 t7 t8 c2) :: (a3, tup3 (cY n) (cM n) (cD n) t9 t10 t11 c3) :: (a4, tup3 (xY n) (xM n) (xD n) t12 t13 t14 c4) :: rest) ?_ ?_ ⟨mR, mD, dt, a0, a1, a2, a3, a4, cd, (fun i => match i with | 0 => t0 | 1 => t1 | 2 => t2 | 3 => t3 | 4 => t4 | 5 => t5 | 6 => t6 | 7 => t7 | 8 => t8 | 9 => t9 | 10 => t10 | 11 => t11 | 12 => t12 | 13 => t13 | _ => t14), (fun i => match i with | 0 => c0 | 1 => c1 | 2 => c2 | 3 => c3 | _ => c4), rfl, ?_⟩
  · refine List.forall_mem_cons.mpr ⟨hI, ?_⟩
    refine List.forall_mem_cons.mpr ⟨hR, ?_⟩
    refine List.forall_mem_cons.mpr ⟨hD, ?_⟩
    refine List.forall_mem_cons.mpr ⟨hdt, ?_⟩
    refine List.forall_mem_cons.mpr ⟨h0, ?_⟩
    refine List.forall_mem_cons.mpr ⟨h1, ?_⟩
    refine List.forall_mem_cons.mpr ⟨h2, ?_⟩
    refine List.forall_mem_cons.mpr ⟨h3, ?_⟩
    exact List.forall_mem_cons.mpr ⟨h4, hrest⟩
  · refine List.forall_mem_cons.mpr ⟨cls_ne N hR hI (by rw [hit]; exact l), ?_⟩
    refine List.forall_mem_cons.mpr ⟨cls_ne N hD hI (by rw [hit]; show od.cls ≠ _; rw [hod]; exact l), ?_⟩
    refine List.forall_mem_cons.mpr ⟨cls_ne N hdt hI (by rw [hit]; exact l), ?_⟩
    refine List.forall_mem_cons.mpr ⟨cls_ne N h0 hI (by rw [hit]; exact t), ?_⟩
    refine List.forall_mem_cons.mpr ⟨cls_ne N h1 hI (by rw [hit]; exact t), ?_⟩
    refine List.forall_mem_cons.mpr ⟨cls_ne N h2 hI (by rw [hit]; exact t), ?_⟩
    refine List.forall_mem_cons.mpr ⟨cls_ne N h3 hI (by rw [hit]; exact t), ?_⟩
    refine List.forall_mem_cons.mpr ⟨cls_ne N h4 hI (by rw [hit]; exact t), ?_⟩
    exact fun p hp => off p hp I (.tail _ (.head _))
  · intro q hq b hb
    rw [List.mem_singleton] at hb
    subst hb
    simp only [dayNews, List.mem_cons, List.not_mem_nil, or_false] at hq
    rcases hq with rfl | rfl | rfl | rfl | rfl | rfl
    · exact hne
    · exact cls_ne N h0 hR tl
    · exact cls_ne N h1 hR tl
    · exact cls_ne N h2 hR tl
    · exact cls_ne N h3 hR tl
    · exact cls_ne N h4 hR tl
inductive Pick (I : Addr) (it : Obj) : List (Addr × Obj) → List (Addr × Obj) → Prop
  | head {post : List (Addr × Obj)} (h : ∀ p ∈ post, p.1 ≠ I) : Pick I it ((I, it) :: post) post
  | tail {p : Addr × Obj} {all news' : List (Addr × Obj)} (h : p.1 ≠ I) (r : Pick I it all news') : Pick I it (p :: all) (p :: news')
  | dropL {a : Addr} {vs : Array Value} {c : Nat} {all news' : List (Addr × Obj)} (r : Pick I it all news') : Pick I it ((a, W.listOf vs c) :: all) news'
  | dropT {a : Addr} {d : Data} {all news' : List (Addr × Obj)} (r : Pick I it all news') : Pick I it ((a, { cls := .type "tuple", data := d }) :: all) news'
theorem Pick.mem {I : Addr} {it : Obj} {all news' : List (Addr × Obj)} (P : Pick I it all news') : ∀ p ∈ (I, it) :: news', p ∈ all := by
  induction P with
  | head h => exact fun p hp => hp
  | tail h r ih =>
    intro p hp
    rcases List.mem_cons.mp hp with rfl | hp
    · exact .tail _ (ih _ (.head _))
    · rcases List.mem_cons.mp hp with rfl | hp
      · exact .head _
      · exact .tail _ (ih _ (.tail _ hp))
  | dropL r ih => exact fun p hp => .tail _ (ih p hp)
  | dropT r ih => exact fun p hp => .tail _ (ih p hp)
theorem Pick.off {I : Addr} {it : Obj} {all news' : List (Addr × Obj)} (P : Pick I it all news') : ∀ p ∈ news', p.1 ≠ I := by
  induction P with
  | head h => exact h
  | tail h r ih =>
    intro p hp
    rcases List.mem_cons.mp hp with rfl | hp
    · exact h
    · exact ih p hp
  | dropL r ih => exact ih
  | dropT r ih => exact ih
theorem UnrEnd.pick {h₀ : Heap} {L I : Addr} {it : Obj} {rest : (Str → Option Value) → List (Addr × Obj) → Prop} {s₁ : Shared} {h' : Heap} {tk : Nat} {m' : Str → Option Value} {all news' : List (Addr × Obj)} (F : Fr h₀ L h' m') (N : News h₀ L h' all) (P : Pick I it all news')
    (r : rest m' news') : UnrEnd h₀ L s₁ I it rest { s₁ with heap := h', toks := tk } := UnrEnd.intro F N news' P.mem P.off r
def L3 (l : List (Value × Value)) (y m d y' m' d' : Int) (t1 t2 t3 u1 u2 u3 : Tok) : Prop :=
  l = [(.int y t1, .int y' u1), (.int m t2, .int m' u2), (.int d t3, .int d' u3)] ∨ (l = [(.int m t2, .int m' u2), (.int d t3, .int d' u3)] ∧ y = y') ∨ (l = [(.int d t3, .int d' u3)] ∧ y = y' ∧ m = m') ∨ (l = [] ∧ y = y' ∧ m = m' ∧ d = d')
theorem rc_lt {prog : Program} {w : World} {A : Around} {E : Value → Shared → Prop} {s : Shared} {a b : Int} {t u : Tok} {Q : Value → Shared → Prop} (h : Q (.bool (decide (a < b))) s) : wpAny (model prog w) A (richCompare .Lt (.int a t) (.int b u)) Q E s := wpAny_lt_int h
theorem tuple_lt3 (l b : Addr) (y m dy y' m' d' : Int) (t1 t2 t3 u1 u2 u3 : Tok) (n n2 : Nat) (dd dd2 : Option Addr) (sl sl2 : Array (Option Value)) :
    Meets (Builtin.«tuple.__lt__» ⟨[.ref l, .ref b], []⟩)
      (fun A R s => s.heap.get? l = some { cls := .type "tuple", dict := dd, data := .seq #[.int y t1, .int m t2, .int dy t3] n, slots := sl } ∧ s.heap.get? b = some { cls := .type "tuple", dict := dd2, data := .seq #[.int y' u1, .int m' u2, .int d' u3] n2, slots := sl2 } ∧
        R (.ok (.ret (.bool (decide (y < y' ∨ (y = y' ∧ (m < m' ∨ (m = m' ∧ dy < d')))))))) s) :=
  .of_wp fun prog w A R s h => by
    obtain ⟨hp, g, d, tk, os⟩ := s; obtain ⟨hl, hb, h⟩ := h
    have f2 := AutoSeq1.sub_tuple_tuple
    wp_walk using AutoSeq1.wpAny_loadPart' hl, AutoSeq1.wpAny_loadPart' hb, wpAny_forIn_list _ (fun rest b s' => b.1 = none ∧ s' = ⟨hp, g, d, tk, os⟩ ∧ L3 rest y m dy y' m' d' t1 t2 t3 u1 u2 u3) _
    case turn =>
      rintro ⟨p, q⟩ rest b s' ⟨hb', rfl, hz⟩
      rcases hz with hz | ⟨hz, e1⟩ | ⟨hz, e1, e2⟩ | ⟨hz, _⟩
      · obtain ⟨⟨rfl, rfl⟩, rfl⟩ : (p = .int y t1 ∧ q = .int y' u1) ∧ rest = [(.int m t2, .int m' u2), (.int dy t3, .int d' u3)] := by simpa using hz
        refine wpAny_bind (wpAny_eqBool_int ?_)
        by_cases hy : y = y'
        · rw [beq_iff_eq.mpr hy]
          wp_walk
          exact ⟨rfl, rfl, .inr (.inl ⟨rfl, hy⟩)⟩
        · rw [beq_eq_false_iff_ne.mpr hy]
          wp_walk using rc_lt
          have e : decide (y < y' ∨ (y = y' ∧ (m < m' ∨ (m = m' ∧ dy < d')))) = decide (y < y') := decide_eq_decide.mpr (by omega)
          exact ⟨_, rfl, by rw [← e]; exact h⟩
      · obtain ⟨⟨rfl, rfl⟩, rfl⟩ : (p = .int m t2 ∧ q = .int m' u2) ∧ rest = [(.int dy t3, .int d' u3)] := by simpa using hz
        refine wpAny_bind (wpAny_eqBool_int ?_)
        by_cases hy : m = m'
        · rw [beq_iff_eq.mpr hy]
          wp_walk
          exact ⟨rfl, rfl, .inr (.inr (.inl ⟨rfl, e1, hy⟩))⟩
        · rw [beq_eq_false_iff_ne.mpr hy]
          wp_walk using rc_lt
          have e : decide (y < y' ∨ (y = y' ∧ (m < m' ∨ (m = m' ∧ dy < d')))) = decide (m < m') := decide_eq_decide.mpr (by omega)
          exact ⟨_, rfl, by rw [← e]; exact h⟩
      · obtain ⟨⟨rfl, rfl⟩, rfl⟩ : (p = .int dy t3 ∧ q = .int d' u3) ∧ rest = [] := by simpa using hz
        refine wpAny_bind (wpAny_eqBool_int ?_)
        by_cases hy : dy = d'
        · rw [beq_iff_eq.mpr hy]
          wp_walk
          exact ⟨rfl, rfl, .inr (.inr (.inr ⟨rfl, e1, e2, hy⟩))⟩
        · rw [beq_eq_false_iff_ne.mpr hy]
          wp_walk using rc_lt
          have e : decide (y < y' ∨ (y = y' ∧ (m < m' ∨ (m = m' ∧ dy < d')))) = decide (dy < d') := decide_eq_decide.mpr (by omega)
          exact ⟨_, rfl, by rw [← e]; exact h⟩
      · cases hz
    case fin =>
      rintro ⟨b1, b2⟩ s' ⟨hb', rfl, hz⟩
      simp only at hb'
      subst hb'
      rcases hz with hz | ⟨hz, e1⟩ | ⟨hz, e1, e2⟩ | ⟨hz, e1, e2, e3⟩
      · cases hz
      · cases hz
      · cases hz
      · wp_walk
        have e : decide (y < y' ∨ (y = y' ∧ (m < m' ∨ (m = m' ∧ dy < d')))) = false := decide_eq_false (by omega)
        exact ⟨_, rfl, by rw [e] at h; simpa [Builtin.Tuple.tupleCompareSizes] using h⟩
    case h =>
      exact ⟨rfl, rfl, .inl rfl⟩
theorem rich_lt3 {prog : Program} {w : World} {A : Around} {E : Value → Shared → Prop} {s : Shared} {l b : Addr} {y m d y' m' d' : Int} {t1 t2 t3 u1 u2 u3 : Tok} {n n2 : Nat} {Q : Value → Shared → Prop}
    (hl : s.heap.get? l = some (tup3 y m d t1 t2 t3 n)) (hb : s.heap.get? b = some (tup3 y' m' d' u1 u2 u3 n2)) (hu : A.units < cLine)
    (h : Q (.bool (decide (y < y' ∨ (y = y' ∧ (m < m' ∨ (m = m' ∧ d < d')))))) s) : wpAny (model prog w) A (compareOp .Lt (.ref l) (.ref b)) Q E s :=
  richCompare_meets_room (op := .Lt) ⟨_, hl, rfl⟩ ⟨_, hb, rfl⟩ F.slot_tuple_lt F.entry_tuple_lt (F.args_tuple_lt_2 _ _) (tuple_lt3 l b y m d y' m' d' t1 t2 t3 u1 u2 u3 n n2 _ _ _ _)
    ⟨hl, hb, show Value.bool (decide (y < y' ∨ (y = y' ∧ (m < m' ∨ (m = m' ∧ d < d'))))) ≠ Value.notImplemented ∧ Q (.bool (decide (y < y' ∨ (y = y' ∧ (m < m' ∨ (m = m' ∧ d < d')))))) s from ⟨(fun x => nomatch x), h⟩⟩ hu
theorem lt_days {prog : Program} {w : World} {A : Around} {E : Value → Shared → Prop} {s : Shared} {h₀ : Heap} {L : Addr} {news : List (Addr × Obj)} {l b : Addr} {n0 n1 y m d y' m' d' : Int} {t1 t2 t3 u1 u2 u3 : Tok} {n n2 : Nat} {Q : Value → Shared → Prop}
    (N : News h₀ L s.heap news) (hl : (l, tup3 y m d t1 t2 t3 n) ∈ news) (hb : (b, tup3 y' m' d' u1 u2 u3 n2) ∈ news) (hu : A.units < cLine) (ho : n0 < n1 ↔ lt3 y m d y' m' d')
    (h : Q (.bool (decide (n0 < n1))) s) : wpAny (model prog w) A (compareOp .Lt (.ref l) (.ref b)) Q E s :=
  rich_lt3 (N _ hl).1 (N _ hb).1 hu (by rw [show decide (y < y' ∨ (y = y' ∧ (m < m' ∨ (m = m' ∧ d < d')))) = decide (n0 < n1) from decide_eq_decide.mpr ho.symm]; exact h)
theorem ne_bool_same {prog : Program} {w : World} {A : Around} {E : Value → Shared → Prop} {s : Shared} {p q : Bool} {Q : Value → Shared → Prop} (e : p = q) (h : Q (.bool false) s) : wpAny (model prog w) A (compareOp .NotEq (.bool p) (.bool q)) Q E s := by
  refine ne_bool ?_
  rw [e, bne_self_eq_false]
  exact h
theorem law1 : PySem.Challenge.rw_jb0010_01.Holds := hd (by
  k_with_none
  k_with_none
  k_with "m eval Call" => (((with_reducible show wpAny _ _ (eval (Expr.Call (Expr.Name _ _) (Expr.Name _ _ :: _) [] _) _) _ _ _); k_dflt (refine Call_ ?_)))
  k_with "m ite" => ((k_closed; first | rw [if_pos (by decide)] | rw [if_neg (by decide)]))
  k_with "m call ref" => ((k_here; (with_reducible show wpAny _ _ (call (Value.ref 203) [_, _]) _ _ _); k_dflt (show wpAny _ _ (call (Value.ref 203) [Value.int 0 _, _]) _ _ _); k_dflt (refine' c_first0 ?zzk1 ?zzk2 ?zzk3 ?zzk4 ?zzk5 ?zzk6 ?zzk7 ?zzk8 ?_; (case zzk1 => k_asm); (case zzk2 => k_asm); (case zzk3 => k_asm); (case zzk4 => k_asm); (case zzk5 => k_asm); (case zzk6 => first | exact rfl | assumption); (case zzk7 => ktr_room); (case zzk8 => ktr_units); skip); intro t9 h9 tk9 F9 N9; (try dsimp only); (try k_fold)))
  k_with "m call ref" => ((k_here; (with_reducible show wpAny _ _ (call (Value.ref 203) [_, _]) _ _ _); k_dflt (show wpAny _ _ (call (Value.ref 203) [Value.int 1 _, _]) _ _ _); k_dflt (refine' c_first1 ?zzk1 ?zzk2 ?zzk3 ?zzk4 ?zzk5 ?zzk6 ?zzk7 ?zzk8 ?_; (case zzk1 => k_asm); (case zzk2 => k_asm); (case zzk3 => k_asm); (case zzk4 => k_asm); (case zzk5 => k_asm); (case zzk6 => first | exact rfl | assumption); (case zzk7 => ktr_room); (case zzk8 => ktr_units); skip); intro t9 h9 tk9 F9 N9; (try dsimp only); (try k_fold)))
  k_with "m call ref" => ((k_here; (with_reducible show wpAny _ _ (call (Value.ref 203) [_, _]) _ _ _); k_dflt (show wpAny _ _ (call (Value.ref 203) [Value.int 2 _, _]) _ _ _); k_dflt (refine' c_first2 ?zzk1 ?zzk2 ?zzk3 ?zzk4 ?zzk5 ?zzk6 ?zzk7 ?zzk8 ?_; (case zzk1 => k_asm); (case zzk2 => k_asm); (case zzk3 => k_asm); (case zzk4 => k_asm); (case zzk5 => k_asm); (case zzk6 => first | exact rfl | assumption); (case zzk7 => ktr_room); (case zzk8 => ktr_units); skip); intro t9 h9 tk9 F9 N9; (try dsimp only); (try k_fold)))
  k_with "m call ref" => ((k_here; (with_reducible show wpAny _ _ (call (Value.ref 203) [_, _]) _ _ _); k_dflt (show wpAny _ _ (call (Value.ref 203) [Value.int 3 _, _]) _ _ _); k_dflt (refine' c_first3 ?zzk1 ?zzk2 ?zzk3 ?zzk4 ?zzk5 ?zzk6 ?zzk7 ?zzk8 ?_; (case zzk1 => k_asm); (case zzk2 => k_asm); (case zzk3 => k_asm); (case zzk4 => k_asm); (case zzk5 => k_asm); (case zzk6 => first | exact rfl | assumption); (case zzk7 => ktr_room); (case zzk8 => ktr_units); skip); intro t9 h9 tk9 F9 N9; (try dsimp only); (try k_fold)))
  k_with "m call ref" => ((k_here; (with_reducible show wpAny _ _ (call (Value.ref 203) [_, _]) _ _ _); k_dflt (show wpAny _ _ (call (Value.ref 203) [Value.int 4 _, _]) _ _ _); k_dflt (refine' c_first4 ?zzk1 ?zzk2 ?zzk3 ?zzk4 ?zzk5 ?zzk6 ?zzk7 ?zzk8 ?_; (case zzk1 => k_asm); (case zzk2 => k_asm); (case zzk3 => k_asm); (case zzk4 => k_asm); (case zzk5 => k_asm); (case zzk6 => first | exact rfl | assumption); (case zzk7 => ktr_room); (case zzk8 => ktr_units); skip); intro t9 h9 tk9 F9 N9; (try dsimp only); (try k_fold)))
  k_with "m call ref" => ((k_here; (with_reducible show wpAny _ _ (call (Value.ref 198) [_, _]) _ _ _); k_dflt (show wpAny _ _ (call (Value.ref 198) [Value.int 0 _, _]) _ _ _); k_dflt (refine' c_months0 ?zzk1 ?zzk2 ?zzk3 ?zzk4 ?zzk5 ?zzk6 ?zzk7 ?zzk8 ?_; (case zzk1 => k_asm); (case zzk2 => k_asm); (case zzk3 => k_asm); (case zzk4 => k_asm); (case zzk5 => k_asm); (case zzk6 => first | exact rfl | assumption); (case zzk7 => ktr_room); (case zzk8 => ktr_units); skip); intro D9 t90 t91 t92 t93 t94 t95 t96 t97 t98 t99 t910 t911 h9 tk9 F9 N9 l9; (try dsimp only); (try simp only [AllLt, and_true] at l9); (try k_sweep); (try k_fold)))
  k_with "m call ref" => ((k_here; (with_reducible show wpAny _ _ (call (Value.ref 198) [_, _]) _ _ _); k_dflt (show wpAny _ _ (call (Value.ref 198) [Value.int 1 _, _]) _ _ _); k_dflt (refine' c_months1 ?zzk1 ?zzk2 ?zzk3 ?zzk4 ?zzk5 ?zzk6 ?zzk7 ?zzk8 ?_; (case zzk1 => k_asm); (case zzk2 => k_asm); (case zzk3 => k_asm); (case zzk4 => k_asm); (case zzk5 => k_asm); (case zzk6 => first | exact rfl | assumption); (case zzk7 => ktr_room); (case zzk8 => ktr_units); skip); intro D9 t90 t91 t92 t93 t94 t95 t96 t97 t98 t99 t910 t911 h9 tk9 F9 N9 l9; (try dsimp only); (try simp only [AllLt, and_true] at l9); (try k_sweep); (try k_fold)))
  k_with "m call ref" => ((k_here; (with_reducible show wpAny _ _ (call (Value.ref 198) [_, _]) _ _ _); k_dflt (show wpAny _ _ (call (Value.ref 198) [Value.int 2 _, _]) _ _ _); k_dflt (refine' c_months2 ?zzk1 ?zzk2 ?zzk3 ?zzk4 ?zzk5 ?zzk6 ?zzk7 ?zzk8 ?_; (case zzk1 => k_asm); (case zzk2 => k_asm); (case zzk3 => k_asm); (case zzk4 => k_asm); (case zzk5 => k_asm); (case zzk6 => first | exact rfl | assumption); (case zzk7 => ktr_room); (case zzk8 => ktr_units); skip); intro D9 t90 t91 t92 t93 t94 t95 t96 t97 t98 t99 t910 t911 h9 tk9 F9 N9 l9; (try dsimp only); (try simp only [AllLt, and_true] at l9); (try k_sweep); (try k_fold)))
  k_with "m call ref" => ((k_here; (with_reducible show wpAny _ _ (call (Value.ref 198) [_, _]) _ _ _); k_dflt (show wpAny _ _ (call (Value.ref 198) [Value.int 3 _, _]) _ _ _); k_dflt (refine' c_months3 ?zzk1 ?zzk2 ?zzk3 ?zzk4 ?zzk5 ?zzk6 ?zzk7 ?zzk8 ?_; (case zzk1 => k_asm); (case zzk2 => k_asm); (case zzk3 => k_asm); (case zzk4 => k_asm); (case zzk5 => k_asm); (case zzk6 => first | exact rfl | assumption); (case zzk7 => ktr_room); (case zzk8 => ktr_units); skip); intro D9 t90 t91 t92 t93 t94 t95 t96 t97 t98 t99 t910 t911 t912 h9 tk9 F9 N9 l9; (try dsimp only); (try simp only [AllLt, and_true] at l9); (try k_sweep); (try k_fold)))
  k_with "m call ref" => ((k_here; (with_reducible show wpAny _ _ (call (Value.ref 198) [_, _]) _ _ _); k_dflt (show wpAny _ _ (call (Value.ref 198) [Value.int 4 _, _]) _ _ _); k_dflt (refine' c_months4 ?zzk1 ?zzk2 ?zzk3 ?zzk4 ?zzk5 ?zzk6 ?zzk7 ?zzk8 ?_; (case zzk1 => k_asm); (case zzk2 => k_asm); (case zzk3 => k_asm); (case zzk4 => k_asm); (case zzk5 => k_asm); (case zzk6 => first | exact rfl | assumption); (case zzk7 => ktr_room); (case zzk8 => ktr_units); skip); intro D9 t90 t91 t92 t93 t94 t95 t96 t97 t98 t99 t910 t911 h9 tk9 F9 N9 l9; (try dsimp only); (try simp only [AllLt, and_true] at l9); (try k_sweep); (try k_fold)))
  k_with "m call ref" => ((k_here; (with_reducible show wpAny _ _ (call (Value.ref 210) [_, _]) _ _ _); k_dflt (show wpAny _ _ (call (Value.ref 210) [Value.int 0 _, _]) _ _ _); k_dflt (refine' d_date0 ?zzk1 ?zzk2 ?zzk3 ?zzk4 ?zzk5 ?zzk6 ?zzk7 ?zzk8 ?_; (case zzk1 => k_asm); (case zzk2 => k_asm); (case zzk3 => k_asm); (case zzk4 => k_asm); (case zzk5 => k_asm); (case zzk6 => first | exact rfl | assumption); (case zzk7 => ktr_room); (case zzk8 => ktr_units); skip); intro D9 t91 t92 t93 c9 h9 tk9 F9 N9 l9 f91 f92 f93 f94 f95; (try dsimp only); (try simp only [AllLt, and_true] at l9); (try k_sweep); (try k_fold)))
  k_with "m call ref" => ((k_here; (with_reducible show wpAny _ _ (call (Value.ref 217) [_, _, _, _]) _ _ _); k_dflt (show wpAny _ _ (call (Value.ref 217) [Value.int 0 _, _, _, _]) _ _ _); k_dflt (refine' d_back0 ?zzk1 ?zzk2 ?zzk3 ?zzk4 ?zzk5 ?zzk6 ?zzk7 ?zzk8 ?_; (case zzk1 => k_asm); (case zzk2 => k_asm); (case zzk3 => k_asm); (case zzk4 => k_asm); (case zzk5 => k_asm); (case zzk6 => first | exact rfl | assumption); (case zzk7 => ktr_room); (case zzk8 => ktr_units); skip); intro t9 h9 tk9 F9 N9; (try dsimp only); (try k_fold)))
  k_with "m call ref" => ((k_here; (with_reducible show wpAny _ _ (call (Value.ref 210) [_, _]) _ _ _); k_dflt (show wpAny _ _ (call (Value.ref 210) [Value.int 1 _, _]) _ _ _); k_dflt (refine' d_date1 ?zzk1 ?zzk2 ?zzk3 ?zzk4 ?zzk5 ?zzk6 ?zzk7 ?zzk8 ?_; (case zzk1 => k_asm); (case zzk2 => k_asm); (case zzk3 => k_asm); (case zzk4 => k_asm); (case zzk5 => k_asm); (case zzk6 => first | exact rfl | assumption); (case zzk7 => ktr_room); (case zzk8 => ktr_units); skip); intro D9 t91 t92 t93 c9 h9 tk9 F9 N9 l9 f91 f92 f93 f94 f95; (try dsimp only); (try simp only [AllLt, and_true] at l9); (try k_sweep); (try k_fold)))
  k_with "m call ref" => ((k_here; (with_reducible show wpAny _ _ (call (Value.ref 217) [_, _, _, _]) _ _ _); k_dflt (show wpAny _ _ (call (Value.ref 217) [Value.int 1 _, _, _, _]) _ _ _); k_dflt (refine' d_back1 ?zzk1 ?zzk2 ?zzk3 ?zzk4 ?zzk5 ?zzk6 ?zzk7 ?zzk8 ?_; (case zzk1 => k_asm); (case zzk2 => k_asm); (case zzk3 => k_asm); (case zzk4 => k_asm); (case zzk5 => k_asm); (case zzk6 => first | exact rfl | assumption); (case zzk7 => ktr_room); (case zzk8 => ktr_units); skip); intro t9 h9 tk9 F9 N9; (try dsimp only); (try k_fold)))
  k_with "m call ref" => ((k_here; (with_reducible show wpAny _ _ (call (Value.ref 224) [_, _, _, _]) _ _ _); k_dflt (show wpAny _ _ (call (Value.ref 224) [Value.int 1 _, _, _, _]) _ _ _); k_dflt (refine' d_fg1 ?zzk1 ?zzk2 ?zzk3 ?zzk4 ?zzk5 ?zzk6 ?zzk7 ?zzk8 ?_; (case zzk1 => k_asm); (case zzk2 => k_asm); (case zzk3 => k_asm); (case zzk4 => k_asm); (case zzk5 => k_asm); (case zzk6 => first | exact rfl | assumption); (case zzk7 => ktr_room); (case zzk8 => ktr_units); skip); intro D9 t91 t92 t93 c9 h9 tk9 F9 N9 l9; (try dsimp only); (try simp only [AllLt, and_true] at l9); (try k_sweep); (try k_fold)))
  k_with "m call ref" => ((k_here; (with_reducible show wpAny _ _ (call (Value.ref 231) [_, _, _, _]) _ _ _); k_dflt (show wpAny _ _ (call (Value.ref 231) [Value.int 1 _, _, _, _]) _ _ _); k_dflt (refine' d_tg1 ?zzk1 ?zzk2 ?zzk3 ?zzk4 ?zzk5 ?zzk6 ?zzk7 ?zzk8 ?_; (case zzk1 => k_asm); (case zzk2 => k_asm); (case zzk3 => k_asm); (case zzk4 => k_asm); (case zzk5 => k_asm); (case zzk6 => first | exact rfl | assumption); (case zzk7 => ktr_room); (case zzk8 => ktr_units); skip); intro D9 t91 t92 t93 c9 h9 tk9 F9 N9 l9; (try dsimp only); (try simp only [AllLt, and_true] at l9); (try k_sweep); (try k_fold)))
  k_with "m call ref" => ((k_here; (with_reducible show wpAny _ _ (call (Value.ref 210) [_, _]) _ _ _); k_dflt (show wpAny _ _ (call (Value.ref 210) [Value.int 2 _, _]) _ _ _); k_dflt (refine' d_date2 ?zzk1 ?zzk2 ?zzk3 ?zzk4 ?zzk5 ?zzk6 ?zzk7 ?zzk8 ?_; (case zzk1 => k_asm); (case zzk2 => k_asm); (case zzk3 => k_asm); (case zzk4 => k_asm); (case zzk5 => k_asm); (case zzk6 => first | exact rfl | assumption); (case zzk7 => ktr_room); (case zzk8 => ktr_units); skip); intro D9 t91 t92 t93 c9 h9 tk9 F9 N9 l9 f91 f92 f93 f94 f95; (try dsimp only); (try simp only [AllLt, and_true] at l9); (try k_sweep); (try k_fold)))
  k_with "m call ref" => ((k_here; (with_reducible show wpAny _ _ (call (Value.ref 217) [_, _, _, _]) _ _ _); k_dflt (show wpAny _ _ (call (Value.ref 217) [Value.int 2 _, _, _, _]) _ _ _); k_dflt (refine' d_back2 ?zzk1 ?zzk2 ?zzk3 ?zzk4 ?zzk5 ?zzk6 ?zzk7 ?zzk8 ?_; (case zzk1 => k_asm); (case zzk2 => k_asm); (case zzk3 => k_asm); (case zzk4 => k_asm); (case zzk5 => k_asm); (case zzk6 => first | exact rfl | assumption); (case zzk7 => ktr_room); (case zzk8 => ktr_units); skip); intro t9 h9 tk9 F9 N9; (try dsimp only); (try k_fold)))
  k_with "m call ref" => ((k_here; (with_reducible show wpAny _ _ (call (Value.ref 224) [_, _, _, _]) _ _ _); k_dflt (show wpAny _ _ (call (Value.ref 224) [Value.int 2 _, _, _, _]) _ _ _); k_dflt (refine' d_fg2 ?zzk1 ?zzk2 ?zzk3 ?zzk4 ?zzk5 ?zzk6 ?zzk7 ?zzk8 ?_; (case zzk1 => k_asm); (case zzk2 => k_asm); (case zzk3 => k_asm); (case zzk4 => k_asm); (case zzk5 => k_asm); (case zzk6 => first | exact rfl | assumption); (case zzk7 => ktr_room); (case zzk8 => ktr_units); skip); intro D9 t91 t92 t93 c9 h9 tk9 F9 N9 l9; (try dsimp only); (try simp only [AllLt, and_true] at l9); (try k_sweep); (try k_fold)))
  k_with "m call ref" => ((k_here; (with_reducible show wpAny _ _ (call (Value.ref 231) [_, _, _, _]) _ _ _); k_dflt (show wpAny _ _ (call (Value.ref 231) [Value.int 2 _, _, _, _]) _ _ _); k_dflt (refine' d_tg2 ?zzk1 ?zzk2 ?zzk3 ?zzk4 ?zzk5 ?zzk6 ?zzk7 ?zzk8 ?_; (case zzk1 => k_asm); (case zzk2 => k_asm); (case zzk3 => k_asm); (case zzk4 => k_asm); (case zzk5 => k_asm); (case zzk6 => first | exact rfl | assumption); (case zzk7 => ktr_room); (case zzk8 => ktr_units); skip); intro D9 t91 t92 t93 c9 h9 tk9 F9 N9 l9; (try dsimp only); (try simp only [AllLt, and_true] at l9); (try k_sweep); (try k_fold)))
  k_with "m call ref" => ((k_here; (with_reducible show wpAny _ _ (call (Value.ref 210) [_, _]) _ _ _); k_dflt (show wpAny _ _ (call (Value.ref 210) [Value.int 3 _, _]) _ _ _); k_dflt (refine' d_date3 ?zzk1 ?zzk2 ?zzk3 ?zzk4 ?zzk5 ?zzk6 ?zzk7 ?zzk8 ?_; (case zzk1 => k_asm); (case zzk2 => k_asm); (case zzk3 => k_asm); (case zzk4 => k_asm); (case zzk5 => k_asm); (case zzk6 => first | exact rfl | assumption); (case zzk7 => ktr_room); (case zzk8 => ktr_units); skip); intro D9 t91 t92 t93 c9 h9 tk9 F9 N9 l9 f91 f92 f93 f94 f95; (try dsimp only); (try simp only [AllLt, and_true] at l9); (try k_sweep); (try k_fold)))
  k_with "m call ref" => ((k_here; (with_reducible show wpAny _ _ (call (Value.ref 217) [_, _, _, _]) _ _ _); k_dflt (show wpAny _ _ (call (Value.ref 217) [Value.int 3 _, _, _, _]) _ _ _); k_dflt (refine' d_back3 ?zzk1 ?zzk2 ?zzk3 ?zzk4 ?zzk5 ?zzk6 ?zzk7 ?zzk8 ?_; (case zzk1 => k_asm); (case zzk2 => k_asm); (case zzk3 => k_asm); (case zzk4 => k_asm); (case zzk5 => k_asm); (case zzk6 => first | exact rfl | assumption); (case zzk7 => ktr_room); (case zzk8 => ktr_units); skip); intro t9 h9 tk9 F9 N9; (try dsimp only); (try k_fold)))
  k_with "m call ref" => ((k_here; (with_reducible show wpAny _ _ (call (Value.ref 224) [_, _, _, _]) _ _ _); k_dflt (show wpAny _ _ (call (Value.ref 224) [Value.int 3 _, _, _, _]) _ _ _); k_dflt (refine' d_fg3 ?zzk1 ?zzk2 ?zzk3 ?zzk4 ?zzk5 ?zzk6 ?zzk7 ?zzk8 ?_; (case zzk1 => k_asm); (case zzk2 => k_asm); (case zzk3 => k_asm); (case zzk4 => k_asm); (case zzk5 => k_asm); (case zzk6 => first | exact rfl | assumption); (case zzk7 => ktr_room); (case zzk8 => ktr_units); skip); intro D9 t91 t92 t93 c9 h9 tk9 F9 N9 l9; (try dsimp only); (try simp only [AllLt, and_true] at l9); (try k_sweep); (try k_fold)))
  k_with "m call ref" => ((k_here; (with_reducible show wpAny _ _ (call (Value.ref 231) [_, _, _, _]) _ _ _); k_dflt (show wpAny _ _ (call (Value.ref 231) [Value.int 3 _, _, _, _]) _ _ _); k_dflt (refine' d_tg3 ?zzk1 ?zzk2 ?zzk3 ?zzk4 ?zzk5 ?zzk6 ?zzk7 ?zzk8 ?_; (case zzk1 => k_asm); (case zzk2 => k_asm); (case zzk3 => k_asm); (case zzk4 => k_asm); (case zzk5 => k_asm); (case zzk6 => first | exact rfl | assumption); (case zzk7 => ktr_room); (case zzk8 => ktr_units); skip); intro D9 t91 t92 t93 c9 h9 tk9 F9 N9 l9; (try dsimp only); (try simp only [AllLt, and_true] at l9); (try k_sweep); (try k_fold)))
  k_with "m call ref" => ((k_here; (with_reducible show wpAny _ _ (call (Value.ref 210) [_, _]) _ _ _); k_dflt (show wpAny _ _ (call (Value.ref 210) [Value.int 4 _, _]) _ _ _); k_dflt (refine' d_date4 ?zzk1 ?zzk2 ?zzk3 ?zzk4 ?zzk5 ?zzk6 ?zzk7 ?zzk8 ?_; (case zzk1 => k_asm); (case zzk2 => k_asm); (case zzk3 => k_asm); (case zzk4 => k_asm); (case zzk5 => k_asm); (case zzk6 => first | exact rfl | assumption); (case zzk7 => ktr_room); (case zzk8 => ktr_units); skip); intro D9 t91 t92 t93 c9 h9 tk9 F9 N9 l9 f91 f92 f93 f94 f95; (try dsimp only); (try simp only [AllLt, and_true] at l9); (try k_sweep); (try k_fold)))
  k_with "m call ref" => ((k_here; (with_reducible show wpAny _ _ (call (Value.ref 217) [_, _, _, _]) _ _ _); k_dflt (show wpAny _ _ (call (Value.ref 217) [Value.int 4 _, _, _, _]) _ _ _); k_dflt (refine' d_back4 ?zzk1 ?zzk2 ?zzk3 ?zzk4 ?zzk5 ?zzk6 ?zzk7 ?zzk8 ?_; (case zzk1 => k_asm); (case zzk2 => k_asm); (case zzk3 => k_asm); (case zzk4 => k_asm); (case zzk5 => k_asm); (case zzk6 => first | exact rfl | assumption); (case zzk7 => ktr_room); (case zzk8 => ktr_units); skip); intro t9 h9 tk9 F9 N9; (try dsimp only); (try k_fold)))
  k_with "m call ref" => ((k_here; (with_reducible show wpAny _ _ (call (Value.ref 224) [_, _, _, _]) _ _ _); k_dflt (show wpAny _ _ (call (Value.ref 224) [Value.int 4 _, _, _, _]) _ _ _); k_dflt (refine' d_fg4 ?zzk1 ?zzk2 ?zzk3 ?zzk4 ?zzk5 ?zzk6 ?zzk7 ?zzk8 ?_; (case zzk1 => k_asm); (case zzk2 => k_asm); (case zzk3 => k_asm); (case zzk4 => k_asm); (case zzk5 => k_asm); (case zzk6 => first | exact rfl | assumption); (case zzk7 => ktr_room); (case zzk8 => ktr_units); skip); intro D9 t91 t92 t93 c9 h9 tk9 F9 N9 l9; (try dsimp only); (try simp only [AllLt, and_true] at l9); (try k_sweep); (try k_fold)))
  k_with "m call ref" => ((k_here; (with_reducible show wpAny _ _ (call (Value.ref 231) [_, _, _, _]) _ _ _); k_dflt (show wpAny _ _ (call (Value.ref 231) [Value.int 4 _, _, _, _]) _ _ _); k_dflt (refine' d_tg4 ?zzk1 ?zzk2 ?zzk3 ?zzk4 ?zzk5 ?zzk6 ?zzk7 ?zzk8 ?_; (case zzk1 => k_asm); (case zzk2 => k_asm); (case zzk3 => k_asm); (case zzk4 => k_asm); (case zzk5 => k_asm); (case zzk6 => first | exact rfl | assumption); (case zzk7 => ktr_room); (case zzk8 => ktr_units); skip); intro D9 t91 t92 t93 c9 h9 tk9 F9 N9 l9; (try dsimp only); (try simp only [AllLt, and_true] at l9); (try k_sweep); (try k_fold)))
  k_with "m call builtin:list.append" => ((k_here; (with_reducible show wpAny _ _ (call (Value.builtin _) [Value.ref _, Value.ref _]) _ _ _); (repeat (rename ((_ : Int) ≤ _) => zz; clear zz)); (repeat (rename ((_ : Int) = _) => zz; clear zz)); (repeat (rename (@Eq Nat _ _) => zz; clear zz)); (repeat (rename (@LE.le Nat _ _ _) => zz; clear zz)); k_dflt (refine' append_K ?zzk1 ?zzk2 ?zzk3 ?_ ?zzz; (case zzk1 => k_asm); (case zzk2 => k_asm); (case zzk3 => k_upd); (case zzz => first | exact Small.fit (by assumption) | size_fits); k_whole); intro h' F' N'; (try k_sweep)))
  k_with "m UnrEnd" => (((with_reducible show UnrEnd _ _ _ _ (itR _ _) _ _); (rename Fr _ _ _ _ => lF'); (rename News _ _ _ _ => lN'); (first | (k_dflt (refine UnrEnd.pick lF' lN' (.dropL (.dropL (.tail ?zzh1 (.head ?zzh2)))) ?_); (case zzh1 => k_ne); (case zzh2 => k_all)) | (k_dflt (refine UnrEnd.pick lF' lN' (.dropT (.dropT (.dropT (.head ?zzh2)))) ?_); (case zzh2 => k_all)))))
  k_with "m RangeRest" => (((with_unfolding_all (refine RangeRest.succ (fun t' h' tk' F' N' => ?_))); (have pk := And.intro F' N'); (clear F' N'); (repeat (rename Fr _ _ _ _ => zz; clear zz)); (repeat (rename News _ _ _ _ => zz; clear zz)); (repeat (rename ((_ : Int) ≤ _) => zz; clear zz)); (repeat (rename ((_ : Int) = _) => zz; clear zz)); (obtain ⟨F', N'⟩ := pk); (first | (obtain ⟨m1', F'⟩ := fr_prune2 F' rfl rfl rfl rfl rfl rfl rfl rfl) | (obtain ⟨m1', F'⟩ := fr_prune1 F' rfl rfl rfl rfl rfl) | skip)))
  k_with "m pyIter ref" => (((with_reducible show wpAny _ _ (pyIter (Value.ref _)) (fun it s₂ => LoopAtV _ _ _ _ _ (Str.ofString "number") _ _ _ it s₂) _ _); refine halt2 ?_))
  k_with "m compareOp Lt ref ref" => ((k_here; (with_reducible show wpAny _ _ (compareOp CmpOp.Lt (Value.ref _) (Value.ref _)) _ _ _); k_dflt (first | (refine' lt_days ?zzN ?zza ?zzb ?zzu (gOrd _ _) ?_; (case zzN => k_asm); (case zza => with_reducible_and_instances k_mem); (case zzb => with_reducible_and_instances k_mem); (case zzu => first | decide | ktr_units | ke_room); k_whole) | (refine' lt_days ?zzN ?zza ?zzb ?zzu (jOrd _ _) ?_; (case zzN => k_asm); (case zza => with_reducible_and_instances k_mem); (case zzb => with_reducible_and_instances k_mem); (case zzu => first | decide | ktr_units | ke_room); k_whole) | (refine' lt_days ?zzN ?zza ?zzb ?zzu (iOrd _ _) ?_; (case zzN => k_asm); (case zza => with_reducible_and_instances k_mem); (case zzb => with_reducible_and_instances k_mem); (case zzu => first | decide | ktr_units | ke_room); k_whole) | (refine' lt_days ?zzN ?zza ?zzb ?zzu (cOrd _ _) ?_; (case zzN => k_asm); (case zza => with_reducible_and_instances k_mem); (case zzb => with_reducible_and_instances k_mem); (case zzu => first | decide | ktr_units | ke_room); k_whole) | (refine' lt_days ?zzN ?zza ?zzb ?zzu (xOrd _ _) ?_; (case zzN => k_asm); (case zza => with_reducible_and_instances k_mem); (case zzb => with_reducible_and_instances k_mem); (case zzu => first | decide | ktr_units | ke_room); k_whole))))
  k_with "m compareOp NotEq bool bool" => ((k_here; k_dflt (refine ne_bool_same (by with_unfolding_all rfl) ?_)))
  k_go0
  all_goals (try k_fold)
  k_steps
  rename Fr _ _ _ _ => nF
  rename News _ _ _ _ => nN
  refine days_gen nF nN ?_
  clear nF nN
  intro n0 n1 m1 nF nN
  (repeat (rename (@Eq Nat _ _) => zz; clear zz))
  (repeat (rename (@LE.le Nat _ _ _) => zz; clear zz))
  unfold Halt2
  refine iter_days rfl nF nN (ltN (by omega)) rfl rfl ?_ ?_
  · clear nF nN
    intro n t m1 its cr rest I it h tk hz hit offR hDR hDI F1 N1
    (try k_fold)
    k_steps
    rename Fr _ _ _ _ => nF
    rename News _ _ _ _ => nN
    refine' day_unr nF nN hit rfl ?hI ?hR ?hD ?hdt ?h0 ?h1 ?h2 ?h3 ?h4 ?hrest offR ?hne rfl rfl
    case hI => with_reducible_and_instances k_mem
    case hR => with_reducible_and_instances k_mem
    case hD => with_reducible_and_instances k_mem
    case hdt => with_reducible_and_instances k_mem
    case h0 => with_reducible_and_instances k_mem
    case h1 => with_reducible_and_instances k_mem
    case h2 => with_reducible_and_instances k_mem
    case h3 => with_reducible_and_instances k_mem
    case h4 => with_reducible_and_instances k_mem
    case hrest => (intro p hp; repeat (first | exact hp | refine List.Mem.tail _ ?_))
    case hne => k_ne
  · clear nF nN
    intro m1 h tk dt a0 a1 a2 a3 a4 cd t cc dt' a0' a1' a2' a3' a4' cd' t' cc' F1 N1
    simp only [dayNews, List.cons_append, List.nil_append] at N1
    dsimp only
    (try k_fold)
    k_steps
  )
end Mine
theorem PySem.Challenge.cw_jb0010_01_holds : PySem.Challenge.rw_jb0010_01.Holds :=
  Mine.law1
