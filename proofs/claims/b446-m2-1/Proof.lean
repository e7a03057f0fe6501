import JvmDerived
import JvmDerived.Pilot.@@N@@Statement
import JvmDerived.Pilot.@@N@@Code
set_option linter.unusedVariables false
set_option linter.unusedSimpArgs false
namespace Jvm.RoadKit
open Sem ClassFile Op Lib Jvm.Stand Jvm.Free Jvm.LawKit
section New
variable {p : Program} {l : Launch} {e : Env} {R : Room} {s : State} {m : MethodId} {args : Array Value} {below : List Frame} {meth : Method} {c : Code} {T : State} {locs : List Loc} {cells slots : Nat}
theorem retI (X : Stand p l e R s m args below meth c T locs cells slots) (hx : p.tables.exec = Jvm.exec) {pc : Nat} {Ls : Array Slot} {z : Int32} {rest : List Value} (hret : meth.sig.returnType = some .int) (hd : decode c.code pc = .ok (.ireturn, 1)) {fs : List Frame}
    (hl : ∀ (f : JFrame) (acts : List Action), f.method = m → f.locked = none → f.entered = [] → (doReturn e (T.setTop f) acts (some (.int z))).1 = T.setFrames fs) : Steps p.tables e below (T.setTop (mkF m pc Ls (.int z :: rest))) (T.setFrames fs) := by
  have hm' : T.vm.method? m = some meth := X.method'
  have hn : narrow .int (.int z) = .int z := rfl
  show Steps p.tables e below (T.setTop { method := m, pc := pc, locals := Ls, stack := _ :: rest, locked := none }) _
  jvm_step X.here [X.here.top, hx, hd, hm', hret, hn]
  first | (intro acts; rw [hl _ acts rfl rfl rfl]) | rw [hl _ _ rfl rfl rfl]
  exact Steps.refl _
end New
end Jvm.RoadKit
namespace Jvm.Pilot.@@N@@
namespace Rnd
open Jvm Jvm.FP.Core Op
/-! powers of two as rationals -/
def own_P (k : Int) : Rat := (2 : Rat) ^ k
theorem own_Ppos (k : Int) : 0 < own_P k := Rat.zpow_pos (by decide)
theorem own_Padd (a b : Int) : own_P (a + b) = own_P a * own_P b := Rat.zpow_add (by decide) a b
theorem own_Pnat (n : Nat) : own_P (n : Int) = ((2 ^ n : Nat) : Rat) := by
  rw [own_P, Rat.zpow_natCast, Rat.natCast_pow]; rfl
theorem own_P0 : own_P 0 = 1 := Rat.zpow_zero 2
theorem own_Pmono {a b : Int} (h : a ≤ b) : own_P a ≤ own_P b := by
  obtain ⟨n, rfl⟩ : ∃ n : Nat, b = a + n := ⟨(b - a).toNat, by omega⟩
  rw [own_Padd, own_Pnat]
  have h1 : (1 : Rat) ≤ ((2 ^ n : Nat) : Rat) := by
    have := Rat.natCast_le_natCast.mpr (show 1 ≤ 2 ^ n from Nat.one_le_two_pow)
    simpa using this
  have h2 := Rat.mul_le_mul_of_nonneg_left h1 (Rat.le_of_lt (own_Ppos a))
  simpa using h2
theorem own_units (e r : Int) : own_P e * ((2 ^ (r - e).toNat : Nat) : Rat) = own_P r * ((2 ^ (e - r).toNat : Nat) : Rat) := by
  rw [← own_Pnat, ← own_Pnat, ← own_Padd, ← own_Padd]
  congr 1
  omega
/-- the unit of rounding: 2^-53 -/
def own_T (t : Rat) : Prop := -1 ≤ 9007199254740992 * t ∧ 9007199254740992 * t ≤ 1
/-- the rounding law: a magnitude W = A / B * 2^e between 2^-1022 and 2^1000 is rounded to W * (1 + t) -/
theorem own_rr {s : Bool} {A B : Nat} {e : Int} (hA : 0 < A) (hB : 0 < B) {W : Rat} (hW : W * (B : Rat) = (A : Rat) * own_P e) (lo : own_P (-1022) ≤ W) (hi : W ≤ own_P 1000) :
    ∃ (c : Nat) (q : Int) (t : Rat), roundRatio b64 s A B e = .fin s c q ∧ (c : Rat) * own_P q = W * (1 + t) ∧ own_T t := by
  have g1 := quantum_ge b64 A B e
  have g2 := nearest_units_le (f := b64) hA hB e
  have g3 := quantum_not_below (f := b64) hA hB e
  have hq1 : b64.qmin = -1074 := by decide
  have hq2 : b64.qmax = 971 := by decide
  have hp : b64.p = 53 := rfl
  have ht : b64.tails = 2 ^ 52 := by decide
  unfold roundRatio
  rw [if_neg (by omega)]
  unfold roundAt
  generalize quantum b64 A B e = r at g1 g2 g3
  have hD := unitsDen_pos hB e r
  have hns := nearest_spec (unitsNum A e r) (unitsDen B e r) hD
  have hN : ((unitsNum A e r : Nat) : Rat) * own_P r = W * ((unitsDen B e r : Nat) : Rat) := by
    have hu := own_units e r
    have hB' : (0 : Rat) < (B : Rat) := Rat.natCast_pos.mpr hB
    unfold unitsNum unitsDen
    rw [Rat.natCast_mul, Rat.natCast_mul]
    generalize ((2 ^ (e - r).toNat : Nat) : Rat) = x at *
    generalize ((2 ^ (r - e).toNat : Nat) : Rat) = y at *
    grind
  have hDr : (0 : Rat) < ((unitsDen B e r : Nat) : Rat) := Rat.natCast_pos.mpr hD
  have hPr := own_Ppos r
  -- 2^52 * P r ≤ W
  have hb : 4503599627370496 * own_P r ≤ W := by
    rcases g3 with g3 | g3
    · have : own_P (-1022) = 4503599627370496 * own_P r := by
        rw [g3, hq1, show (-1022 : Int) = ((52 : Nat) : Int) + (-1074) by decide, own_Padd, own_Pnat]
        congr 1
      rw [← this]; exact lo
    · rw [hp, show ((53 : Nat) : Int) - 1 = ((52 : Nat) : Int) by decide, ← units_below] at g3
      have g4 : 2 ^ 52 * unitsDen B e r ≤ unitsNum A e r := Nat.le_of_not_lt g3
      have g5 : (4503599627370496 : Rat) * ((unitsDen B e r : Nat) : Rat) ≤ ((unitsNum A e r : Nat) : Rat) := by
        have := Rat.natCast_le_natCast.mpr g4
        rw [Rat.natCast_mul] at this
        exact this
      have g6 := Rat.mul_le_mul_of_nonneg_right g5 (Rat.le_of_lt hPr)
      rw [hN] at g6
      refine Rat.le_of_mul_le_mul_right (c := ((unitsDen B e r : Nat) : Rat)) ?_ hDr
      grind
  have hr : r ≤ 971 - 1 := by
    refine Int.not_lt.mp fun hlt => ?_
    have h1 : own_P 971 ≤ own_P r := own_Pmono (by omega)
    have h2 : own_P 1000 ≤ 4503599627370496 * own_P 971 := by
      have : (4503599627370496 : Rat) * own_P 971 = own_P (((52 : Nat) : Int) + 971) := by rw [own_Padd, own_Pnat]; congr 1
      rw [this]; exact own_Pmono (by decide)
    have h3 : own_P 1000 < own_P 1023 := by
      have e1 : own_P 1023 = own_P 1000 * own_P ((23 : Nat) : Int) := by rw [← own_Padd]; rfl
      have h0 := own_Ppos 1000
      rw [e1, own_Pnat]
      have : ((2 ^ 23 : Nat) : Rat) = 8388608 := rfl
      rw [this]
      grind
    have h4 : own_P 1023 = 4503599627370496 * own_P 971 := by rw [show (1023 : Int) = ((52 : Nat) : Int) + 971 by decide, own_Padd, own_Pnat]; congr 1
    grind
  have hWpos : 0 < W := by have := own_Ppos (-1022); grind
  generalize hm : nearest (unitsNum A e r) (unitsDen B e r) = m at g2 hns
  -- the value of what settle gives
  have hset : ∃ (c : Nat) (q : Int), settle b64 s m r = .fin s c q ∧ (c : Rat) * own_P q = (m : Rat) * own_P r := by
    unfold settle bound
    rw [hq2]
    split
    · rw [if_pos (by omega)]
      exact ⟨_, _, rfl, rfl⟩
    · rename_i hm2
      rw [if_pos (by omega)]
      have hm3 : m = 2 ^ 53 := by rw [hp] at g2 hm2; omega
      refine ⟨_, _, rfl, ?_⟩
      rw [hm3, ht, own_Padd, show own_P 1 = 2 from Rat.zpow_one 2]
      have e1 : ((2 ^ 52 : Nat) : Rat) = 4503599627370496 := rfl
      have e2 : ((2 ^ 53 : Nat) : Rat) = 9007199254740992 := rfl
      rw [e1, e2]
      grind
  obtain ⟨c, q, hs1, hs2⟩ := hset
  have n1 : 2 * ((unitsNum A e r : Nat) : Rat) ≤ (2 * (m : Rat) + 1) * ((unitsDen B e r : Nat) : Rat) := by
    have := Rat.natCast_le_natCast.mpr hns.1
    simpa using this
  have n2 : 2 * (m : Rat) * ((unitsDen B e r : Nat) : Rat) ≤ 2 * ((unitsNum A e r : Nat) : Rat) + ((unitsDen B e r : Nat) : Rat) := by
    have := Rat.natCast_le_natCast.mpr hns.2.1
    simpa using this
  have n1' := Rat.mul_le_mul_of_nonneg_right n1 (Rat.le_of_lt hPr)
  have n2' := Rat.mul_le_mul_of_nonneg_right n2 (Rat.le_of_lt hPr)
  generalize ((unitsNum A e r : Nat) : Rat) = N at *
  generalize ((unitsDen B e r : Nat) : Rat) = D at *
  have k1 : 2 * W ≤ (2 * (m : Rat) + 1) * own_P r := Rat.le_of_mul_le_mul_right (c := D) (by grind) hDr
  have k2 : 2 * (m : Rat) * own_P r ≤ 2 * W + own_P r := Rat.le_of_mul_le_mul_right (c := D) (by grind) hDr
  refine ⟨c, q, ((m : Rat) * own_P r - W) / W, hs1, ?_, ?_, ?_⟩
  · rw [hs2]
    have hne : W ≠ 0 := by grind
    have hc := Rat.div_mul_cancel (a := (m : Rat) * own_P r - W) hne
    grind
  · have hne : W ≠ 0 := by grind
    have hc := Rat.div_mul_cancel (a := (m : Rat) * own_P r - W) hne
    generalize ((m : Rat) * own_P r - W) / W = t at *
    refine Rat.le_of_mul_le_mul_right (c := W) ?_ hWpos
    grind
  · have hne : W ≠ 0 := by grind
    have hc := Rat.div_mul_cancel (a := (m : Rat) * own_P r - W) hne
    generalize ((m : Rat) * own_P r - W) / W = t at *
    refine Rat.le_of_mul_le_mul_right (c := W) ?_ hWpos
    grind
/-! signs, ranges, values -/
def own_sg (s : Bool) : Rat := if s then -1 else 1
theorem own_sg2 (s : Bool) : own_sg s * own_sg s = 1 := by cases s <;> decide +kernel
theorem own_sgx (s t : Bool) : own_sg (s != t) = own_sg s * own_sg t := by cases s <;> cases t <;> decide +kernel
/-- nought, or a magnitude between 2^-k and 2^k -/
def own_M (k : Nat) (v : Rat) : Prop := v = 0 ∨ (own_P (-k) ≤ v ∧ v ≤ own_P k) ∨ (own_P (-k) ≤ -v ∧ -v ≤ own_P k)
/-- the double x is finite and worth v -/
def own_V (x : UInt64) (v : Rat) : Prop := ∃ (s : Bool) (c : Nat) (q : Int), val64 x = .fin s c q ∧ v = own_sg s * (c : Rat) * own_P q
theorem own_rs {s : Bool} {A B : Nat} {e : Int} (hB : 0 < B) {V : Rat} (hV : V * (B : Rat) = own_sg s * (A : Rat) * own_P e) {k : Nat} (hk : k ≤ 1000) (hM : own_M k V) :
    ∃ (c : Nat) (q : Int) (t : Rat), roundRatio b64 s A B e = .fin s c q ∧ own_sg s * (c : Rat) * own_P q = V * (1 + t) ∧ own_T t := by
  have hB' : (0 : Rat) < (B : Rat) := Rat.natCast_pos.mpr hB
  have hBn : (B : Rat) ≠ 0 := by grind
  by_cases hA : A = 0
  · subst hA
    have hV0 : V = 0 := by
      have q : V * (B : Rat) = 0 := by rw [hV]; simp
      have := Rat.mul_div_cancel (a := V) hBn
      rw [q, Rat.div_def, Rat.zero_mul] at this
      exact this.symm
    refine ⟨0, b64.qmin, 0, ?_, ?_, by decide +kernel, by decide +kernel⟩
    · unfold roundRatio; rw [if_pos rfl]
    · rw [hV0]; simp
  · have hA' : 0 < A := by omega
    have hAr : (0 : Rat) < (A : Rat) := Rat.natCast_pos.mpr hA'
    have hPe := own_Ppos e
    have h2 := own_sg2 s
    have hWB : own_sg s * V * (B : Rat) = (A : Rat) * own_P e := by
      rw [Rat.mul_assoc, hV]; grind
    have hAP := Rat.mul_pos hAr hPe
    have hWpos : 0 < own_sg s * V := by
      refine (Rat.mul_pos_iff_of_pos_right hB').mp ?_
      rw [hWB]; exact hAP
    have l1 : own_P (-1022) ≤ own_P (-(k : Int)) := own_Pmono (by omega)
    have l2 : own_P (k : Int) ≤ own_P 1000 := own_Pmono (by omega)
    have pk := own_Ppos (-(k : Int))
    have rng : own_P (-1022) ≤ own_sg s * V ∧ own_sg s * V ≤ own_P 1000 := by
      cases s <;> simp only [own_sg, if_true, if_false, Bool.false_eq_true] at hWpos ⊢ <;> rcases hM with h | ⟨h, h'⟩ | ⟨h, h'⟩ <;> constructor <;> grind
    obtain ⟨c, q, t, r1, r2, r3⟩ := own_rr (s := s) hA' hB hWB rng.1 rng.2
    refine ⟨c, q, t, r1, ?_, r3⟩
    rw [Rat.mul_assoc, r2]
    grind
theorem own_mul {x y : UInt64} {v w : Rat} (hx : own_V x v) (hy : own_V y w) {k : Nat} (hk : k ≤ 1000) (hM : own_M k (v * w)) : ∃ t, own_T t ∧ own_V (Jvm.FP.dmul x y) (v * w * (1 + t)) := by
  obtain ⟨s, c, q, h1, rfl⟩ := hx
  obtain ⟨s', d, r, h2, rfl⟩ := hy
  have hd : val64 (dmul x y) = roundRatio b64 (s != s') (c * d) 1 (q + r) := by rw [val64_dmul, h1, h2]; rfl
  have hV : (own_sg s * (c : Rat) * own_P q) * (own_sg s' * (d : Rat) * own_P r) * ((1 : Nat) : Rat) = own_sg (s != s') * ((c * d : Nat) : Rat) * own_P (q + r) := by
    rw [own_sgx, Rat.natCast_mul, own_Padd]
    have : ((1 : Nat) : Rat) = 1 := rfl
    grind
  obtain ⟨c', q', t, r1, r2, r3⟩ := own_rs (s := s != s') (A := c * d) (B := 1) (by decide) hV hk hM
  exact ⟨t, r3, _, c', q', hd.trans r1, r2.symm⟩
theorem own_div {x y : UInt64} {v w : Rat} (hx : own_V x v) (hy : own_V y w) (hw : w ≠ 0) {k : Nat} (hk : k ≤ 1000) (hM : own_M k (v / w)) : ∃ t, own_T t ∧ own_V (Jvm.FP.ddiv x y) (v / w * (1 + t)) := by
  obtain ⟨s, c, q, h1, rfl⟩ := hx
  obtain ⟨s', d, r, h2, rfl⟩ := hy
  have hd0 : d ≠ 0 := by
    intro h; subst h; apply hw; simp
  have hd : val64 (ddiv x y) = roundRatio b64 (s != s') c d (q - r) := by rw [val64_ddiv, h1, h2]; show (if d = 0 then _ else _) = _; rw [if_neg hd0]
  have hV : (own_sg s * (c : Rat) * own_P q) / (own_sg s' * (d : Rat) * own_P r) * (d : Rat) = own_sg (s != s') * (c : Rat) * own_P (q - r) := by
    have hdr : (d : Rat) ≠ 0 := by
      intro h; exact hd0 (Rat.natCast_eq_zero_iff.mp h)
    have hc := Rat.div_mul_cancel (a := own_sg s * (c : Rat) * own_P q) hw
    have hp : own_P q = own_P (q - r) * own_P r := by rw [← own_Padd]; congr 1; omega
    have hpr := own_Ppos r
    have h2' := own_sg2 s'
    rw [own_sgx]
    generalize own_sg s * (c : Rat) * own_P q / (own_sg s' * (d : Rat) * own_P r) = z at *
    rw [hp] at hc
    generalize own_P (q - r) = u at *
    generalize own_P r = p at *
    -- z * (σ' d p) = σ c (u p): cancel p, multiply by σ'
    have hc2 : (z * (d : Rat)) * p = (own_sg s * own_sg s' * (c : Rat) * u) * p := by grind
    have hpn : p ≠ 0 := by grind
    have a1 := Rat.mul_div_cancel (a := z * (d : Rat)) hpn
    have a2 := Rat.mul_div_cancel (a := own_sg s * own_sg s' * (c : Rat) * u) hpn
    rw [hc2] at a1
    rw [← a1, a2]
  obtain ⟨c', q', t, r1, r2, r3⟩ := own_rs (s := s != s') (A := c) (B := d) (by omega) hV hk hM
  exact ⟨t, r3, _, c', q', hd.trans r1, r2.symm⟩
theorem own_signed (s : Bool) (c : Nat) : ((signed s c : Int) : Rat) = own_sg s * (c : Rat) := by
  cases s with
  | false => show ((c : Int) : Rat) = 1 * (c : Rat); rw [Rat.intCast_natCast, Rat.one_mul]
  | true => show ((-(c : Int) : Int) : Rat) = -1 * (c : Rat); rw [Rat.intCast_neg, Rat.intCast_natCast]; grind
theorem own_inU (c : Nat) {q e : Int} (h : e ≤ q) : ((inUnits c q e : Nat) : Rat) * own_P e = (c : Rat) * own_P q := by
  unfold inUnits
  rw [Rat.natCast_mul, ← own_Pnat, Rat.mul_assoc, ← own_Padd]
  congr 2
  omega
theorem own_abs (S : Int) (a b : Bool) (h : S ≠ 0) : own_sg (sumSign a b S) * ((S.natAbs : Nat) : Rat) = (S : Rat) := by
  unfold sumSign
  rw [if_neg h]
  rcases Int.lt_or_le S 0 with h0 | h0
  · rw [decide_eq_true h0]
    have : (S.natAbs : Int) = -S := by omega
    rw [← Rat.intCast_natCast, this]; simp [own_sg]; grind
  · rw [decide_eq_false (by omega)]
    have : (S.natAbs : Int) = S := by omega
    rw [← Rat.intCast_natCast, this]; simp [own_sg]
theorem own_sum {s : Bool} {c : Nat} {q : Int} {s' : Bool} {d : Nat} {r : Int} {z : UInt64} (hz : val64 z = round b64 (exactSum (.fin s c q) (.fin s' d r))) {k : Nat} (hk : k ≤ 1000)
    (hM : own_M k (own_sg s * (c : Rat) * own_P q + own_sg s' * (d : Rat) * own_P r)) : ∃ t, own_T t ∧ own_V z ((own_sg s * (c : Rat) * own_P q + own_sg s' * (d : Rat) * own_P r) * (1 + t)) := by
  have hS : ((sumUnits s c q s' d r (min q r) : Int) : Rat) * own_P (min q r) = own_sg s * (c : Rat) * own_P q + own_sg s' * (d : Rat) * own_P r := by
    unfold sumUnits
    rw [Rat.intCast_add, own_signed, own_signed]
    have a1 := own_inU c (q := q) (e := min q r) (by omega)
    have a2 := own_inU d (q := r) (e := min q r) (by omega)
    grind
  have hd : val64 z = roundRatio b64 (sumSign s s' (sumUnits s c q s' d r (min q r))) (sumUnits s c q s' d r (min q r)).natAbs 1 (min q r) := by rw [hz]; rfl
  generalize sumUnits s c q s' d r (min q r) = S at *
  generalize own_sg s * (c : Rat) * own_P q + own_sg s' * (d : Rat) * own_P r = V at *
  by_cases h0 : S = 0
  · subst h0
    have hV0 : V = 0 := by rw [← hS]; simp
    refine ⟨0, ⟨by decide +kernel, by decide +kernel⟩, sumSign s s' 0, 0, b64.qmin, hd.trans ?_, ?_⟩
    · unfold roundRatio; rw [if_pos (show Int.natAbs 0 = 0 from rfl)]
    · rw [hV0]; simp
  · have hV : V * ((1 : Nat) : Rat) = own_sg (sumSign s s' S) * ((S.natAbs : Nat) : Rat) * own_P (min q r) := by
      rw [own_abs S s s' h0, hS]
      have : ((1 : Nat) : Rat) = 1 := rfl
      grind
    obtain ⟨c', q', t, r1, r2, r3⟩ := own_rs (by decide) hV hk hM
    exact ⟨t, r3, _, c', q', hd.trans r1, r2.symm⟩
theorem own_add {x y : UInt64} {v w : Rat} (hx : own_V x v) (hy : own_V y w) {k : Nat} (hk : k ≤ 1000) (hM : own_M k (v + w)) : ∃ t, own_T t ∧ own_V (Jvm.FP.dadd x y) ((v + w) * (1 + t)) := by
  obtain ⟨s, c, q, h1, rfl⟩ := hx
  obtain ⟨s', d, r, h2, rfl⟩ := hy
  exact own_sum (z := Jvm.FP.dadd x y) ((val64_dadd x y).trans (by rw [h1, h2])) hk hM
theorem own_sub {x y : UInt64} {v w : Rat} (hx : own_V x v) (hy : own_V y w) {k : Nat} (hk : k ≤ 1000) (hM : own_M k (v - w)) : ∃ t, own_T t ∧ own_V (Jvm.FP.dsub x y) ((v - w) * (1 + t)) := by
  obtain ⟨s, c, q, h1, rfl⟩ := hx
  obtain ⟨s', d, r, h2, rfl⟩ := hy
  have e : own_sg s * (c : Rat) * own_P q - own_sg s' * (d : Rat) * own_P r = own_sg s * (c : Rat) * own_P q + own_sg (!s') * (d : Rat) * own_P r := by
    have : own_sg (!s') = -own_sg s' := by cases s' <;> decide +kernel
    grind
  rw [e] at hM ⊢
  exact own_sum (z := Jvm.FP.dsub x y) ((val64_dsub x y).trans (by rw [h1, h2]; rfl)) hk hM
theorem own_int {z : UInt64} {i : Int} (hz : val64 z = round b64 (ofInt i)) (h1 : -9223372036854775808 ≤ i) (h2 : i ≤ 9223372036854775808) : ∃ t, own_T t ∧ own_V z ((i : Rat) * (1 + t)) := by
  have hd : val64 z = roundRatio b64 (decide (i < 0)) i.natAbs 1 0 := by rw [hz]; rfl
  have hV : (i : Rat) * ((1 : Nat) : Rat) = own_sg (decide (i < 0)) * ((i.natAbs : Nat) : Rat) * own_P 0 := by
    rw [own_P0]
    have e1 : ((1 : Nat) : Rat) = 1 := rfl
    rcases Int.lt_or_le i 0 with h0 | h0
    · rw [decide_eq_true h0]
      have : (i.natAbs : Int) = -i := by omega
      rw [← Rat.intCast_natCast i.natAbs, this, e1]; simp [own_sg]; grind
    · rw [decide_eq_false (by omega)]
      have : (i.natAbs : Int) = i := by omega
      rw [← Rat.intCast_natCast i.natAbs, this, e1]; simp [own_sg]
  have p1 : own_P (-(64 : Nat) : Int) ≤ 1 := by rw [← own_P0]; exact own_Pmono (by decide)
  have p2 : (9223372036854775808 : Rat) ≤ own_P ((64 : Nat) : Int) := by rw [own_Pnat]; decide +kernel
  have hM : own_M 64 (i : Rat) := by
    have l1 : (-9223372036854775808 : Rat) ≤ (i : Rat) := by have := Rat.intCast_le_intCast.mpr h1; simpa using this
    have l2 : (i : Rat) ≤ (9223372036854775808 : Rat) := by have := Rat.intCast_le_intCast.mpr h2; simpa using this
    rcases (show i = 0 ∨ 1 ≤ i ∨ i ≤ -1 by omega) with h | h | h
    · exact Or.inl (by rw [h]; rfl)
    · have : (1 : Rat) ≤ (i : Rat) := by have := Rat.intCast_le_intCast.mpr h; simpa using this
      exact Or.inr (Or.inl ⟨by grind, by grind⟩)
    · have : (i : Rat) ≤ (-1 : Rat) := by have := Rat.intCast_le_intCast.mpr h; simpa using this
      exact Or.inr (Or.inr ⟨by grind, by grind⟩)
  obtain ⟨c', q', t, r1, r2, r3⟩ := own_rs (by decide) hV (by decide : 64 ≤ 1000) hM
  exact ⟨t, r3, _, c', q', hd.trans r1, r2.symm⟩
theorem own_i2d (a : Int32) : ∃ t, own_T t ∧ own_V (Jvm.FP.i2d a) ((a.toInt : Rat) * (1 + t)) := own_int (val64_i2d a) (by have := a.le_toInt; omega) (by have := a.toInt_lt; omega)
theorem own_l2d (a : Int64) : ∃ t, own_T t ∧ own_V (Jvm.FP.l2d a) ((a.toInt : Rat) * (1 + t)) := own_int (val64_l2d a) (by have := a.le_toInt; omega) (by have := a.toInt_lt; omega)
theorem own_nn {x : UInt64} {v : Rat} (h : own_V x v) : Jvm.Free.Fl.NoNaN64 x := by
  obtain ⟨s, c, q, h, -⟩ := h
  refine Jvm.Free.Fl.noNaN64_no.mpr ?_
  show decide (val64 x = .nan) = false
  rw [h]; rfl
theorem own_cmp {x y : UInt64} {v w : Rat} (hx : own_V x v) (hy : own_V y w) (h : v ≤ w) : (cmpValue (Jvm.FP.dcmp x y) .g).toInt ≤ 0 := by
  obtain ⟨s, c, q, h1, rfl⟩ := hx
  obtain ⟨s', d, r, h2, rfl⟩ := hy
  have hc : dcmp x y = some (compare (signed s (inUnits c q (min q r))) (signed s' (inUnits d r (min q r)))) := by
    show order (val64 x) (val64 y) = _
    rw [h1, h2]; rfl
  have hle : signed s (inUnits c q (min q r)) ≤ signed s' (inUnits d r (min q r)) := by
    refine Rat.intCast_le_intCast.mp ?_
    rw [own_signed, own_signed]
    have hp := own_Ppos (min q r)
    have a1 := own_inU c (q := q) (e := min q r) (by omega)
    have a2 := own_inU d (q := r) (e := min q r) (by omega)
    refine Rat.le_of_mul_le_mul_right (c := own_P (min q r)) ?_ hp
    rw [Rat.mul_assoc, a1, Rat.mul_assoc (own_sg s'), a2, ← Rat.mul_assoc, ← Rat.mul_assoc]
    exact h
  show (cmpValue (dcmp x y) .g).toInt ≤ 0
  rw [hc]
  generalize signed s (inUnits c q (min q r)) = i at *
  generalize signed s' (inUnits d r (min q r)) = j at *
  rcases Int.lt_or_eq_of_le hle with h | h
  · rw [show compare i j = .lt from Int.compare_eq_lt.mpr h]; decide
  · subst h
    rw [show compare i i = .eq from Int.compare_eq_eq.mpr rfl]; decide
/-! ranges -/
theorem own_Pn (k : Nat) : own_P (-(k : Int)) * own_P (k : Int) = 1 := by rw [← own_Padd, show -(k : Int) + (k : Int) = 0 by omega]; exact own_P0
theorem own_Mm {k l : Nat} {v w : Rat} (hv : own_M k v) (hw : own_M l w) : own_M (k + l) (v * w) := by
  have e1 : own_P (-((k + l : Nat) : Int)) = own_P (-(k : Int)) * own_P (-(l : Int)) := by rw [← own_Padd]; congr 1; omega
  have e2 : own_P ((k + l : Nat) : Int) = own_P (k : Int) * own_P (l : Int) := by rw [← own_Padd]; congr 1
  have key : ∀ {x y : Rat}, own_P (-(k : Int)) ≤ x → x ≤ own_P (k : Int) → own_P (-(l : Int)) ≤ y → y ≤ own_P (l : Int) → own_P (-((k + l : Nat) : Int)) ≤ x * y ∧ x * y ≤ own_P ((k + l : Nat) : Int) := by
    intro x y h1 h2 h3 h4
    have p1 := own_Ppos (-(k : Int))
    have p2 := own_Ppos (-(l : Int))
    rw [e1, e2]
    constructor
    · exact Rat.le_trans (Rat.mul_le_mul_of_nonneg_right h1 (Rat.le_of_lt p2)) (Rat.mul_le_mul_of_nonneg_left h3 (by grind))
    · exact Rat.le_trans (Rat.mul_le_mul_of_nonneg_right h2 (by grind)) (Rat.mul_le_mul_of_nonneg_left h4 (by have := own_Ppos (k : Int); grind))
  rcases hv with rfl | ⟨h1, h2⟩ | ⟨h1, h2⟩
  · exact Or.inl (by grind)
  · rcases hw with rfl | ⟨h3, h4⟩ | ⟨h3, h4⟩
    · exact Or.inl (by grind)
    · exact Or.inr (Or.inl (key h1 h2 h3 h4))
    · have := key h1 h2 h3 h4
      rw [show v * -w = -(v * w) by grind] at this
      exact Or.inr (Or.inr this)
  · rcases hw with rfl | ⟨h3, h4⟩ | ⟨h3, h4⟩
    · exact Or.inl (by grind)
    · have := key h1 h2 h3 h4
      rw [show -v * w = -(v * w) by grind] at this
      exact Or.inr (Or.inr this)
    · have := key h1 h2 h3 h4
      rw [show -v * -w = v * w by grind] at this
      exact Or.inr (Or.inl this)
theorem own_Mi {l : Nat} {w : Rat} (hw : own_M l w) (h0 : w ≠ 0) : own_M l w⁻¹ := by
  have pn := own_Pn l
  have p1 := own_Ppos (-(l : Int))
  have p2 := own_Ppos (l : Int)
  have key : ∀ {y : Rat}, own_P (-(l : Int)) ≤ y → y ≤ own_P (l : Int) → own_P (-(l : Int)) ≤ y⁻¹ ∧ y⁻¹ ≤ own_P (l : Int) := by
    intro y h3 h4
    have hy : 0 < y := by grind
    have hc := Rat.inv_mul_cancel y (by grind)
    constructor
    · refine Rat.le_of_mul_le_mul_right (c := y) ?_ hy
      rw [hc, ← pn]
      exact Rat.mul_le_mul_of_nonneg_left h4 (Rat.le_of_lt p1)
    · refine Rat.le_of_mul_le_mul_right (c := y) ?_ hy
      rw [hc, ← pn, Rat.mul_comm]
      exact Rat.mul_le_mul_of_nonneg_left h3 (Rat.le_of_lt p2)
  rcases hw with h | ⟨h1, h2⟩ | ⟨h1, h2⟩
  · exact absurd h h0
  · exact Or.inr (Or.inl (key h1 h2))
  · have h := key h1 h2
    have hn : (-w)⁻¹ = -w⁻¹ := by
      refine Rat.inv_eq_of_mul_eq_one ?_
      have := Rat.mul_inv_cancel w h0
      grind
    rw [hn] at h
    exact Or.inr (Or.inr h)
theorem own_Md {k l : Nat} {v w : Rat} (hv : own_M k v) (hw : own_M l w) (h0 : w ≠ 0) : own_M (k + l) (v / w) := by
  rw [Rat.div_def]; exact own_Mm hv (own_Mi hw h0)
theorem own_Mc {k : Nat} {w : Rat} (h1 : 1 ≤ w * ((2 ^ k : Nat) : Rat)) (h2 : w ≤ ((2 ^ k : Nat) : Rat)) : own_M k w := by
  have pn := own_Pn k
  have p1 := own_Ppos (-(k : Int))
  refine Or.inr (Or.inl ⟨?_, by rw [own_Pnat]; exact h2⟩)
  rw [← own_Pnat] at h1
  have := Rat.mul_le_mul_of_nonneg_left h1 (Rat.le_of_lt p1)
  generalize own_P (-(k : Int)) = a at *
  generalize own_P (k : Int) = b at *
  have e : a * (w * b) = w * (a * b) := by grind
  rw [e, pn] at this
  simpa using this
theorem own_Mt {t : Rat} (h : own_T t) : own_M 1 (1 + t) := by
  obtain ⟨h1, h2⟩ := h
  have : ((2 ^ 1 : Nat) : Rat) = 2 := rfl
  exact own_Mc (by rw [this]; grind) (by rw [this]; grind)
theorem own_Mz {k : Nat} {i : Int} (h1 : -(2 ^ k : Nat) ≤ i) (h2 : i ≤ (2 ^ k : Nat)) : own_M k (i : Rat) := by
  have p1 : own_P (-(k : Int)) ≤ 1 := by rw [← own_P0]; exact own_Pmono (by omega)
  have l1 : ((-(2 ^ k : Nat) : Int) : Rat) ≤ (i : Rat) := Rat.intCast_le_intCast.mpr h1
  have l2 : (i : Rat) ≤ (((2 ^ k : Nat) : Int) : Rat) := Rat.intCast_le_intCast.mpr h2
  rw [Rat.intCast_neg, Rat.intCast_natCast, ← own_Pnat] at l1
  rw [Rat.intCast_natCast, ← own_Pnat] at l2
  rcases (show i = 0 ∨ 1 ≤ i ∨ i ≤ -1 by omega) with h | h | h
  · exact Or.inl (by rw [h]; rfl)
  · have : (1 : Rat) ≤ (i : Rat) := by have := Rat.intCast_le_intCast.mpr h; simpa using this
    exact Or.inr (Or.inl ⟨by grind, l2⟩)
  · have : (i : Rat) ≤ (-1 : Rat) := by have := Rat.intCast_le_intCast.mpr h; simpa using this
    exact Or.inr (Or.inr ⟨by grind, by grind⟩)
/-! errors -/
def own_E (n t : Rat) : Prop := -1 ≤ n * t ∧ n * t ≤ 1
theorem own_bm {x y a b : Rat} (x1 : -a ≤ x) (x2 : x ≤ a) (y1 : -b ≤ y) (y2 : y ≤ b) : -(a * b) ≤ x * y ∧ x * y ≤ a * b := by
  have h1 := Rat.mul_nonneg (show 0 ≤ a - x by grind) (show 0 ≤ b + y by grind)
  have h2 := Rat.mul_nonneg (show 0 ≤ a + x by grind) (show 0 ≤ b - y by grind)
  have h3 := Rat.mul_nonneg (show 0 ≤ a + x by grind) (show 0 ≤ b + y by grind)
  have h4 := Rat.mul_nonneg (show 0 ≤ a - x by grind) (show 0 ≤ b - y by grind)
  constructor <;> grind
theorem own_EE {m n x y : Rat} (hm : m = 4 * n) (hn : 1 ≤ n) (hx : own_E m x) (hy : own_E m y) : own_E n (x + y + x * y) := by
  subst hm
  obtain ⟨x1, x2⟩ := hx
  obtain ⟨y1, y2⟩ := hy
  have h := own_bm (a := 1) (b := 1) (by grind) x2 (by grind) y2
  have hw : -1 ≤ 16 * (n * x * y) ∧ 16 * (n * x * y) ≤ 1 := by
    have e : 4 * n * x * (4 * n * y) = 16 * (n * (n * x * y)) := by grind
    rw [e] at h
    obtain ⟨z, hz⟩ : ∃ z, z = n * x * y := ⟨_, rfl⟩
    rw [← hz] at h ⊢
    have h' : -1 ≤ 16 * (n * z) ∧ 16 * (n * z) ≤ 1 := by constructor <;> grind
    rcases Rat.le_total (a := z) (b := 0) with h0 | h0
    · have := Rat.mul_nonneg (show 0 ≤ n - 1 by grind) (show 0 ≤ -z by grind)
      constructor <;> grind
    · have := Rat.mul_nonneg (show 0 ≤ n - 1 by grind) h0
      constructor <;> grind
  constructor <;> grind
theorem own_Em {m n t : Rat} (h : own_E n t) (hm : 0 ≤ m) (hmn : m ≤ n) : own_E m t := by
  obtain ⟨h1, h2⟩ := h
  rcases Rat.le_total (a := t) (b := 0) with h0 | h0
  · have p1 := Rat.mul_nonneg (show 0 ≤ n - m by grind) (show 0 ≤ -t by grind)
    have p2 := Rat.mul_nonneg hm (show 0 ≤ -t by grind)
    constructor <;> grind
  · have p1 := Rat.mul_nonneg (show 0 ≤ n - m by grind) h0
    have p2 := Rat.mul_nonneg hm h0
    constructor <;> grind
/-! the constants, and the whole reckoning -/
theorem own_k04 : own_V 4600877379321698714 (3602879701896397 / 9007199254740992) := ⟨false, 7205759403792794, -54, by decide +kernel, by decide +kernel⟩
theorem own_k14 : own_V 4608983858650965606 (3152519739159347 / 2251799813685248) := ⟨false, 6305039478318694, -52, by decide +kernel, by decide +kernel⟩
theorem own_k1024 : own_V 4652218415073722368 1024 := ⟨false, 4503599627370496, -42, by decide +kernel, by decide +kernel⟩
theorem own_k05 : own_V 4602678819172646912 (1 / 2) := ⟨false, 4503599627370496, -53, by decide +kernel, by decide +kernel⟩
theorem own_k15 : own_V 4609434218613702656 (3 / 2) := ⟨false, 6755399441055744, -52, by decide +kernel, by decide +kernel⟩
theorem own_k1 : own_V 4607182418800017408 1 := ⟨false, 4503599627370496, -52, by decide +kernel, by decide +kernel⟩
theorem own_cancel {x y s : Rat} (h : x * s = y * s) (hs : s ≠ 0) : x = y := by
  have a1 := Rat.mul_div_cancel (a := x) hs
  rw [h, Rat.mul_div_cancel hs] at a1
  exact a1.symm
theorem own_g1 {A S c4 c14 D1 D2 D3 p1 p2 p4 p5 p6 p7 p8 p9 : Rat} (d1 : D1 * c14 = (A * p1 * S * p2 + c4 * (A * p1 * S * p2) * p5 * (D3 * p4) * p6) * p7) (d2 : D2 * S = D1 * p8) : D2 * p9 * c14 * S = (A * (p1 * p2 * p7 * p8) * (1 + c4 * p5 * D3 * p4 * p6) * p9) * S := by
  have e1 : D2 * p9 * c14 * S = (D2 * S) * c14 * p9 := by clear d1 d2; grind
  have e2 : D1 * p8 * c14 * p9 = (D1 * c14) * p8 * p9 := by clear d1 d2; grind
  rw [e1, d2, e2, d1]
  clear d1 d2 e1 e2
  grind
theorem own_g3 {c4 K D3 p3 p4 p5 p6 : Rat} (d3 : D3 * 1024 = K * p3) : 1024 * (1 + c4 * p5 * D3 * p4 * p6) = 1024 + c4 * K * (p3 * p4 * p5 * p6) := by
  have e1 : 1024 * (1 + c4 * p5 * D3 * p4 * p6) = 1024 + c4 * (D3 * 1024) * (p4 * p5 * p6) := by clear d3; grind
  rw [e1, d3]
  clear d3 e1
  grind
theorem own_g4 {A B R x c14 p9 y Y : Rat} (g : R * c14 = A * x * B * p9) (f : x * p9 = y) (h : 1024 * B = Y) : 1024 * R * c14 = A * y * Y := by
  have e1 : 1024 * R * c14 = 1024 * (R * c14) := by clear g f h; grind
  have e2 : 1024 * (A * x * B * p9) = A * (x * p9) * (1024 * B) := by clear g f h; grind
  rw [e1, g, e2, f, h]
/-- the pure reckoning: rho = the merged score over the scale -/
theorem own_err {A K c4 c14 S D1 D2 D3 t1 t2 t3 t4 t5 t6 t7 t8 t9 : Rat} (h4 : c4 = 3602879701896397 / 9007199254740992) (h14 : c14 = 3152519739159347 / 2251799813685248) (hS : S ≠ 0)
    (a1 : -2147483648 ≤ A) (a2 : A ≤ 2147483648) (k1 : 0 ≤ K) (k2 : K ≤ 1024)
    (T1 : own_T t1) (T2 : own_T t2) (T3 : own_T t3) (T4 : own_T t4) (T5 : own_T t5) (T6 : own_T t6) (T7 : own_T t7) (T8 : own_T t8) (T9 : own_T t9)
    (d3 : D3 * 1024 = K * (1 + t3)) (d1 : D1 * c14 = (A * (1 + t1) * S * (1 + t2) + c4 * (A * (1 + t1) * S * (1 + t2)) * (1 + t5) * (D3 * (1 + t4)) * (1 + t6)) * (1 + t7)) (d2 : D2 * S = D1 * (1 + t8)) :
    -1 ≤ 7168 * (D2 * (1 + t9)) - A * (5120 + 2 * K) ∧ 7168 * (D2 * (1 + t9)) - A * (5120 + 2 * K) ≤ 1 := by
  have hT : ∀ {t}, own_T t → own_E 9007199254740992 t := fun h => h
  have E12 := own_EE (n := 2251799813685248) (by decide +kernel) (by decide +kernel) (hT T1) (hT T2)
  have E34 := own_EE (n := 2251799813685248) (by decide +kernel) (by decide +kernel) (hT T3) (hT T4)
  have E56 := own_EE (n := 2251799813685248) (by decide +kernel) (by decide +kernel) (hT T5) (hT T6)
  have E78 := own_EE (n := 2251799813685248) (by decide +kernel) (by decide +kernel) (hT T7) (hT T8)
  have E3 := own_EE (n := 562949953421312) (by decide +kernel) (by decide +kernel) E34 E56
  have E4' := own_EE (n := 562949953421312) (by decide +kernel) (by decide +kernel) E12 E78
  have E4 := own_EE (n := 140737488355328) (by decide +kernel) (by decide +kernel) E4' (own_Em (hT T9) (m := 562949953421312) (by decide +kernel) (by decide +kernel))
  obtain ⟨x3, q3⟩ : ∃ z, z = t3 + t4 + t3 * t4 + (t5 + t6 + t5 * t6) + (t3 + t4 + t3 * t4) * (t5 + t6 + t5 * t6) := ⟨_, rfl⟩
  have f3 : (1 + t3) * (1 + t4) * (1 + t5) * (1 + t6) = 1 + x3 := by rw [q3]; grind
  rw [← q3] at E3
  obtain ⟨x4', q4'⟩ : ∃ z, z = t1 + t2 + t1 * t2 + (t7 + t8 + t7 * t8) + (t1 + t2 + t1 * t2) * (t7 + t8 + t7 * t8) := ⟨_, rfl⟩
  have f4' : (1 + t1) * (1 + t2) * (1 + t7) * (1 + t8) = 1 + x4' := by rw [q4']; grind
  rw [← q4'] at E4
  obtain ⟨x4, q4⟩ : ∃ z, z = x4' + t9 + x4' * t9 := ⟨_, rfl⟩
  have f4 : (1 + x4') * (1 + t9) = 1 + x4 := by rw [q4]; grind
  rw [← q4] at E4
  -- 1024 * c14 * rho = A * (1 + x4) * (1024 + c4 * K * (1 + x3))
  have g1 := own_g1 (p9 := 1 + t9) d1 d2
  have g2 := own_cancel g1 hS
  rw [f4'] at g2
  have g3 := own_g3 (c4 := c4) (p4 := 1 + t4) (p5 := 1 + t5) (p6 := 1 + t6) d3
  rw [f3] at g3
  have g4 := own_g4 g2 f4 g3
  obtain ⟨e31, e32⟩ := E3
  obtain ⟨e41, e42⟩ := E4
  generalize D2 * (1 + t9) = R at *
  clear g1 g2 g3 f3 f4 f4' q3 q4 q4' E12 E34 E56 E78 E4' d1 d2 d3 T1 T2 T3 T4 T5 T6 T7 T8 T9 hT
  -- bounds of the products
  have b1 := own_bm (x := K) (y := x3) (a := 1024) (b := 1 / 562949953421312) (by grind) k2 (by grind) (by grind)
  generalize hKx : K * x3 = u at *
  have h5 : c4 * K * (1 + x3) = c4 * K + c4 * u := by rw [← hKx]; grind
  rw [h5] at g4
  obtain ⟨Y, hY⟩ : ∃ Y, Y = 1024 + (c4 * K + c4 * u) := ⟨_, rfl⟩
  rw [← hY] at g4
  have y1 : 0 ≤ Y := by rw [hY, h4]; grind
  have y2 : Y ≤ 1500 := by rw [hY, h4]; grind
  have b2 := own_bm (x := x4) (y := Y) (a := 1 / 140737488355328) (b := 1500) (by grind) (by grind) (by grind) y2
  generalize hxY : x4 * Y = w at *
  have g5 : 1024 * R * c14 = A * (Y + w) := by rw [g4, ← hxY]; grind
  -- 5 * (Y + w) against 5120 + 2 K
  obtain ⟨η, hη⟩ : ∃ η, η = 5 * (Y + w) - (5120 + 2 * K) := ⟨_, rfl⟩
  have n1 : -(1 / 17179869184) ≤ η := by rw [hη, hY, h4]; grind
  have n2 : η ≤ 1 / 17179869184 := by rw [hη, hY, h4]; grind
  have b3 := own_bm (x := A) (y := η) (a := 2147483648) (b := 1 / 17179869184) a1 a2 n1 n2
  have b4 := own_bm (x := A) (y := 5120 + 2 * K) (a := 2147483648) (b := 7168) a1 a2 (by grind) (by grind)
  have g6 : 5120 * R * c14 = A * (5120 + 2 * K) + A * η := by rw [hη]; grind
  generalize A * (5120 + 2 * K) = X at *
  generalize A * η = Z at *
  rw [h14] at g6
  constructor <;> grind
theorem own_Mw {k l : Nat} {v : Rat} (h : own_M k v) (hkl : k ≤ l) : own_M l v := by
  have l1 : own_P (-(l : Int)) ≤ own_P (-(k : Int)) := own_Pmono (by omega)
  have l2 : own_P (k : Int) ≤ own_P (l : Int) := own_Pmono (by omega)
  rcases h with h | ⟨h, h'⟩ | ⟨h, h'⟩
  · exact Or.inl h
  · exact Or.inr (Or.inl ⟨Rat.le_trans l1 h, Rat.le_trans h' l2⟩)
  · exact Or.inr (Or.inr ⟨Rat.le_trans l1 h, Rat.le_trans h' l2⟩)
theorem own_Mneg {k : Nat} {v : Rat} (h : own_M k (-v)) : own_M k v := by
  rcases h with h | ⟨h, h'⟩ | ⟨h, h'⟩
  · exact Or.inl (by grind)
  · exact Or.inr (Or.inr ⟨h, h'⟩)
  · rw [show - -v = v by grind] at h h'
    exact Or.inr (Or.inl ⟨h, h'⟩)
theorem own_ne {v w : Rat} (h : v ≠ 0) (h' : w ≠ 0) : v * w ≠ 0 := by
  intro q
  apply h
  have := Rat.mul_div_cancel (a := v) h'
  rw [q, Rat.div_def, Rat.zero_mul] at this
  exact this.symm
theorem own_ne1 {t : Rat} (h : own_T t) : 1 + t ≠ 0 := by
  obtain ⟨h1, h2⟩ := h
  grind
theorem own_kd1 : own_V Jvm.FP.dconst1 1 := own_k1
/-- the scale, as a whole number or its inverse -/
theorem own_scP {x : Int64} (h1 : 1 ≤ x.toInt) (h2 : x.toInt ≤ 4294967296) : ∃ S, own_V (Jvm.FP.l2d x) S ∧ own_M 40 S ∧ S ≠ 0 := by
  obtain ⟨t, T, V⟩ := own_l2d x
  have M : own_M 32 (x.toInt : Rat) := own_Mz (by omega) (by omega)
  have hx : (x.toInt : Rat) ≠ 0 := fun q => by have := Rat.intCast_eq_zero_iff.mp q; omega
  exact ⟨_, V, own_Mw (own_Mm M (own_Mt T)) (by decide), own_ne hx (own_ne1 T)⟩
theorem own_scN {x : Int64} (h1 : 1 ≤ x.toInt) (h2 : x.toInt ≤ 4294967296) : ∃ S, own_V (Jvm.FP.ddiv Jvm.FP.dconst1 (Jvm.FP.l2d x)) S ∧ own_M 40 S ∧ S ≠ 0 := by
  obtain ⟨t, T, V⟩ := own_l2d x
  have M : own_M 32 (x.toInt : Rat) := own_Mz (by omega) (by omega)
  have hx : (x.toInt : Rat) ≠ 0 := fun q => by have := Rat.intCast_eq_zero_iff.mp q; omega
  have hn := own_ne hx (own_ne1 T)
  have M1 : own_M 0 (1 : Rat) := own_Mc (by decide +kernel) (by decide +kernel)
  have MD := own_Md M1 (own_Mm M (own_Mt T)) hn
  obtain ⟨t', T', V'⟩ := own_div own_kd1 V hn (by decide) MD
  refine ⟨_, V', own_Mw (own_Mm MD (own_Mt T')) (by decide), own_ne ?_ (own_ne1 T')⟩
  intro q
  have := Rat.div_mul_cancel (a := 1) hn
  rw [q, Rat.zero_mul] at this
  exact absurd this (by decide +kernel)
theorem own_chain (a k : Int32) (sc : UInt64) {S : Rat} (hS : own_V sc S) (hSM : own_M 40 S) (hS0 : S ≠ 0) (k0 : 0 ≤ k.toInt) (k1 : k.toInt ≤ 1024) (nrm loc p1 p2 sm m r : UInt64)
    (en : nrm = Jvm.FP.ddiv (Jvm.FP.i2d k) 4652218415073722368) (el : loc = Jvm.FP.dmul (Jvm.FP.i2d a) sc) (e1 : p1 = Jvm.FP.dmul 4600877379321698714 loc) (e2 : p2 = Jvm.FP.dmul p1 nrm) (es : sm = Jvm.FP.dadd loc p2) (em : m = Jvm.FP.ddiv sm 4608983858650965606) (er : r = Jvm.FP.ddiv m sc) :
    (∃ v, own_V nrm v) ∧ (∃ v, own_V loc v) ∧ (∃ v, own_V p1 v) ∧ (∃ v, own_V p2 v) ∧ (∃ v, own_V sm v) ∧ (∃ v, own_V m v) ∧ ∃ ρ, own_V r ρ ∧ -1 ≤ 7168 * ρ - (a.toInt : Rat) * (5120 + 2 * (k.toInt : Rat)) ∧ 7168 * ρ - (a.toInt : Rat) * (5120 + 2 * (k.toInt : Rat)) ≤ 1 := by
  obtain ⟨t1, T1, V1⟩ := own_i2d a
  obtain ⟨t3, T3, V3⟩ := own_i2d k
  have a1 := a.le_toInt
  have a2 := a.toInt_lt
  have Ma : own_M 31 (a.toInt : Rat) := own_Mz (by omega) (by omega)
  have Mk : own_M 10 (k.toInt : Rat) := own_Mz (by omega) (by omega)
  have A1 : (-2147483648 : Rat) ≤ (a.toInt : Rat) := by have := Rat.intCast_le_intCast.mpr (show (-2147483648 : Int) ≤ a.toInt by omega); simpa using this
  have A2 : (a.toInt : Rat) ≤ (2147483648 : Rat) := by have := Rat.intCast_le_intCast.mpr (show a.toInt ≤ (2147483648 : Int) by omega); simpa using this
  have K1 : (0 : Rat) ≤ (k.toInt : Rat) := by have := Rat.intCast_le_intCast.mpr k0; simpa using this
  have K2 : (k.toInt : Rat) ≤ (1024 : Rat) := by have := Rat.intCast_le_intCast.mpr k1; simpa using this
  generalize (a.toInt : Rat) = A at *
  generalize (k.toInt : Rat) = K at *
  have ML := own_Mm (own_Mm Ma (own_Mt T1)) hSM
  obtain ⟨t2, T2, V2⟩ := own_mul V1 hS (by decide) ML
  rw [← el] at V2
  have ML2 := own_Mm ML (own_Mt T2)
  have n1024 : (1024 : Rat) ≠ 0 := by decide +kernel
  have M1024 : own_M 10 (1024 : Rat) := own_Mc (by decide +kernel) (by decide +kernel)
  have MN := own_Md (own_Mm Mk (own_Mt T3)) M1024 n1024
  obtain ⟨t4, T4, V4⟩ := own_div V3 own_k1024 n1024 (by decide) MN
  rw [← en] at V4
  have M4 : own_M 2 (3602879701896397 / 9007199254740992 : Rat) := own_Mc (by decide +kernel) (by decide +kernel)
  have M14 : own_M 1 (3152519739159347 / 2251799813685248 : Rat) := own_Mc (by decide +kernel) (by decide +kernel)
  have n14 : (3152519739159347 / 2251799813685248 : Rat) ≠ 0 := by decide +kernel
  obtain ⟨c4, h4⟩ : ∃ c, c = (3602879701896397 / 9007199254740992 : Rat) := ⟨_, rfl⟩
  obtain ⟨c14, h14⟩ : ∃ c, c = (3152519739159347 / 2251799813685248 : Rat) := ⟨_, rfl⟩
  have W4 := own_k04
  have W14 := own_k14
  rw [← h4] at M4 W4
  rw [← h14] at M14 n14 W14
  have MP := own_Mm M4 ML2
  obtain ⟨t5, T5, V5⟩ := own_mul W4 V2 (by decide) MP
  rw [← e1] at V5
  have MP2 := own_Mm (own_Mm MP (own_Mt T5)) (own_Mm MN (own_Mt T4))
  obtain ⟨t6, T6, V6⟩ := own_mul V5 V4 (by decide) MP2
  rw [← e2] at V6
  -- the sum: L * (1 + y), y between 0 and 1
  obtain ⟨D3, hD3⟩ : ∃ D, D = K * (1 + t3) / 1024 := ⟨_, rfl⟩
  have d3 : D3 * 1024 = K * (1 + t3) := by rw [hD3]; exact Rat.div_mul_cancel n1024
  rw [← hD3] at V4 V6 MN MP2
  obtain ⟨L, hL⟩ : ∃ L, L = A * (1 + t1) * S * (1 + t2) := ⟨_, rfl⟩
  have hy : 0 ≤ c4 * (1 + t5) * D3 * (1 + t4) * (1 + t6) ∧ c4 * (1 + t5) * D3 * (1 + t4) * (1 + t6) ≤ 1 := by
    have g3 := own_g3 (c4 := c4) (p4 := 1 + t4) (p5 := 1 + t5) (p6 := 1 + t6) d3
    have hT : ∀ {t}, own_T t → own_E 9007199254740992 t := fun h => h
    have E34 := own_EE (n := 2251799813685248) (by decide +kernel) (by decide +kernel) (hT T3) (hT T4)
    have E56 := own_EE (n := 2251799813685248) (by decide +kernel) (by decide +kernel) (hT T5) (hT T6)
    have E3 := own_EE (n := 562949953421312) (by decide +kernel) (by decide +kernel) E34 E56
    obtain ⟨x3, q3⟩ : ∃ z, z = t3 + t4 + t3 * t4 + (t5 + t6 + t5 * t6) + (t3 + t4 + t3 * t4) * (t5 + t6 + t5 * t6) := ⟨_, rfl⟩
    have f3 : (1 + t3) * (1 + t4) * (1 + t5) * (1 + t6) = 1 + x3 := by rw [q3]; clear g3 d3 E3 E34 E56; grind
    rw [← q3] at E3
    rw [f3] at g3
    obtain ⟨y, hy⟩ : ∃ y, y = c4 * (1 + t5) * D3 * (1 + t4) * (1 + t6) := ⟨_, rfl⟩
    rw [← hy] at g3 ⊢
    obtain ⟨e31, e32⟩ := E3
    have p0 : 0 ≤ c4 * K := Rat.mul_nonneg (by rw [h4]; decide +kernel) K1
    have p1 : c4 * K ≤ 410 := by rw [h4]; clear g3; grind
    have p2 := Rat.mul_nonneg p0 (show 0 ≤ 1 + x3 by clear g3; grind)
    have p3 := Rat.mul_nonneg (show 0 ≤ 410 - c4 * K by clear g3; grind) (show 0 ≤ 1 + x3 by clear g3; grind)
    have p4 : c4 * K * (1 + x3) ≤ 820 := by
      have : (410 - c4 * K) * (1 + x3) = 410 * (1 + x3) - c4 * K * (1 + x3) := by clear g3 p3 p2; grind
      rw [this] at p3
      generalize c4 * K * (1 + x3) = z at *
      clear g3
      grind
    generalize c4 * K * (1 + x3) = z at *
    constructor
    · clear p1 p3 e31 e32 f3 q3; grind
    · clear p1 p3 e31 e32 f3 q3; grind
  have hsum : L + c4 * L * (1 + t5) * (D3 * (1 + t4)) * (1 + t6) = L * (1 + c4 * (1 + t5) * D3 * (1 + t4) * (1 + t6)) := by clear hL hy d3 hD3; grind
  have MB : own_M 1 (1 + c4 * (1 + t5) * D3 * (1 + t4) * (1 + t6)) := by
    generalize c4 * (1 + t5) * D3 * (1 + t4) * (1 + t6) = y at *
    have : ((2 ^ 1 : Nat) : Rat) = 2 := rfl
    exact own_Mc (by rw [this]; grind) (by rw [this]; grind)
  rw [← hL] at V2 V5 V6 ML2 MP MP2
  have MS := own_Mm ML2 MB
  rw [← hsum] at MS
  obtain ⟨t7, T7, V7⟩ := own_add V2 V6 (by decide) MS
  rw [← es] at V7
  have MS2 := own_Mm MS (own_Mt T7)
  have MD1 := own_Md MS2 M14 n14
  obtain ⟨t8, T8, V8⟩ := own_div V7 W14 n14 (by decide) MD1
  rw [← em] at V8
  have MD2 := own_Md (own_Mm MD1 (own_Mt T8)) hSM hS0
  obtain ⟨t9, T9, V9⟩ := own_div V8 hS hS0 (by decide) MD2
  rw [← er] at V9
  refine ⟨⟨_, V4⟩, ⟨_, V2⟩, ⟨_, V5⟩, ⟨_, V6⟩, ⟨_, V7⟩, ⟨_, V8⟩, _, V9, ?_⟩
  rw [hL]
  exact own_err h4 h14 hS0 A1 A2 K1 K2 T1 T2 T3 T4 T5 T6 T7 T8 T9 d3 (Rat.div_mul_cancel n14) (Rat.div_mul_cancel hS0)
theorem own_final (q : Int64) (r : UInt64) {ρ : Rat} (hr : own_V r ρ) {N : Int} (q1 : -1099511627776 ≤ q.toInt) (q2 : q.toInt ≤ 1099511627776) (n1 : 7168 * q.toInt ≤ N) (n2 : N < 7168 * (q.toInt + 1)) (r1 : -1 ≤ 7168 * ρ - (N : Rat)) (r2 : 7168 * ρ - (N : Rat) ≤ 1) :
    (∃ v, own_V (Jvm.FP.dsub (Jvm.FP.l2d q) 4602678819172646912) v) ∧ (∃ v, own_V (Jvm.FP.dadd (Jvm.FP.l2d q) 4609434218613702656) v) ∧ (cmpValue (Jvm.FP.dcmp (Jvm.FP.dsub (Jvm.FP.l2d q) 4602678819172646912) r) .g).toInt ≤ 0 ∧ (cmpValue (Jvm.FP.dcmp r (Jvm.FP.dadd (Jvm.FP.l2d q) 4609434218613702656)) .g).toInt ≤ 0 := by
  obtain ⟨t, T, V⟩ := own_l2d q
  have N1 : 7168 * (q.toInt : Rat) ≤ (N : Rat) := by have := Rat.intCast_le_intCast.mpr n1; simpa using this
  have N2 : (N : Rat) + 1 ≤ 7168 * ((q.toInt : Rat) + 1) := by have := Rat.intCast_le_intCast.mpr (show N + 1 ≤ 7168 * (q.toInt + 1) by omega); simpa using this
  have Q1 : (-1099511627776 : Rat) ≤ (q.toInt : Rat) := by have := Rat.intCast_le_intCast.mpr q1; simpa using this
  have Q2 : (q.toInt : Rat) ≤ (1099511627776 : Rat) := by have := Rat.intCast_le_intCast.mpr q2; simpa using this
  have C1 : (q.toInt : Rat) ≤ 0 ∨ 1 ≤ (q.toInt : Rat) := by
    rcases (show q.toInt ≤ 0 ∨ 1 ≤ q.toInt by omega) with h | h
    · exact Or.inl (by have := Rat.intCast_le_intCast.mpr h; simpa using this)
    · exact Or.inr (by have := Rat.intCast_le_intCast.mpr h; simpa using this)
  have C2 : (q.toInt : Rat) ≤ -2 ∨ -1 ≤ (q.toInt : Rat) := by
    rcases (show q.toInt ≤ -2 ∨ -1 ≤ q.toInt by omega) with h | h
    · exact Or.inl (by have := Rat.intCast_le_intCast.mpr h; simpa using this)
    · exact Or.inr (by have := Rat.intCast_le_intCast.mpr h; simpa using this)
  generalize (q.toInt : Rat) = Q at *
  generalize (N : Rat) = N at *
  obtain ⟨T1, T2⟩ := T
  have b := own_bm (x := Q) (y := t) (a := 1099511627776) (b := 1 / 9007199254740992) Q1 Q2 (by grind) (by grind)
  have eQ : Q * (1 + t) = Q + Q * t := by grind
  rw [eQ] at V
  generalize Q * t = e at *
  have e42 : ((2 ^ 42 : Nat) : Rat) = 4398046511104 := rfl
  have MA : own_M 42 (Q + e - 1 / 2) := by
    rcases C1 with h | h
    · exact own_Mneg (own_Mc (by rw [e42]; grind) (by rw [e42]; grind))
    · exact own_Mc (by rw [e42]; grind) (by rw [e42]; grind)
  have MB : own_M 42 (Q + e + 3 / 2) := by
    rcases C2 with h | h
    · exact own_Mneg (own_Mc (by rw [e42]; grind) (by rw [e42]; grind))
    · exact own_Mc (by rw [e42]; grind) (by rw [e42]; grind)
  obtain ⟨u, U, VA⟩ := own_sub V own_k05 (by decide) MA
  obtain ⟨w, W, VB⟩ := own_add V own_k15 (by decide) MB
  obtain ⟨U1, U2⟩ := U
  obtain ⟨W1, W2⟩ := W
  have bU := own_bm (x := Q + e - 1 / 2) (y := u) (a := 2199023255552) (b := 1 / 9007199254740992) (by grind) (by grind) (by grind) (by grind)
  have bW := own_bm (x := Q + e + 3 / 2) (y := w) (a := 2199023255552) (b := 1 / 9007199254740992) (by grind) (by grind) (by grind) (by grind)
  have eU : (Q + e - 1 / 2) * (1 + u) = (Q + e - 1 / 2) + (Q + e - 1 / 2) * u := by clear bU bW; grind
  have eW : (Q + e + 3 / 2) * (1 + w) = (Q + e + 3 / 2) + (Q + e + 3 / 2) * w := by clear bU bW eU; grind
  refine ⟨⟨_, VA⟩, ⟨_, VB⟩, own_cmp VA hr ?_, own_cmp hr VB ?_⟩
  · rw [eU]
    generalize (Q + e - 1 / 2) * u = z at *
    clear eW bW MA MB V VA VB
    grind
  · rw [eW]
    generalize (Q + e + 3 / 2) * w = z at *
    clear eU bU MA MB V VA VB
    grind
end Rnd
end Jvm.Pilot.@@N@@
namespace Jvm.Pilot.@@N@@
open Jvm Jvm.ClassFile Sem Op Lib Jvm.Free Jvm.Stand Jvm.LawKit Jvm.RoadKit Bundle Jvm.Pilot.@@N@@.Jvm.D
def bI (P : Prop) [Decidable P] : Int32 := if P then 1 else 0
theorem own_b1 {P : Prop} [Decidable P] (h : P) : some (Value.int (1 : Int32)) = some (Value.int (bI P)) := by rw [bI, if_pos h]
theorem own_b0 {P : Prop} [Decidable P] (h : ¬ P) : some (Value.int (0 : Int32)) = some (Value.int (bI P)) := by rw [bI, if_neg h]
theorem own_c1 {P : Prop} [Decidable P] (h : P) : (1 : Int32) = bI P := by rw [bI, if_pos h]
theorem own_c0 {P : Prop} [Decidable P] (h : ¬ P) : (0 : Int32) = bI P := by rw [bI, if_neg h]
theorem own_bI {P : Prop} [Decidable P] : (P ∧ bI P = 1) ∨ (¬ P ∧ bI P = 0) := by by_cases h : P <;> simp [bI, h]
theorem own_bt {P : Prop} [Decidable P] : (P ∧ (bI P).toInt = 1) ∨ (¬ P ∧ (bI P).toInt = 0) := by by_cases h : P <;> simp [bI, h]
theorem own_nar {P : Prop} [Decidable P] : nar .boolean (bI P) = bI P := by by_cases h : P <;> simp only [bI, h, if_true, if_false] <;> decide
theorem own_lt {a b : Int32} : a < b ↔ a.toInt < b.toInt := Int32.lt_iff_toInt_lt
theorem own_nlt {a b : Int32} : ¬ (a < b) ↔ b.toInt ≤ a.toInt := by rw [own_lt]; omega
theorem own_eq {a b : Int32} : a = b ↔ a.toInt = b.toInt := Int32.toInt_inj.symm
theorem own_neq {a b : Int32} : ¬ (a = b) ↔ ¬ (a.toInt = b.toInt) := by rw [own_eq]
theorem own_ltL {a b : Int64} : a < b ↔ a.toInt < b.toInt := Int64.lt_iff_toInt_lt
theorem own_eqL {a b : Int64} : a = b ↔ a.toInt = b.toInt := Int64.toInt_inj.symm
theorem own_sk {Z : State} {h h' : Heap} {C n d K : String} {v : Value} {b : Addr} (F : Sta Z h C n d v) (Kp : Keep h h' [b]) (E : Exa Z h b K) : Sta Z h' C n d v := by
  obtain ⟨cf, i, k, f, st, cell, h1, h2, h3, h4, h5, h6, h7⟩ := F
  refine ⟨cf, i, k, f, st, cell, h1, h2, h3, h4, Kp.2.1 st cell h5 (fun q => ?_), h6, h7⟩
  obtain ⟨cl, kk, e1, e2, e3, e4, e5⟩ := E
  have q' := List.mem_singleton.mp q
  subst q'
  rw [h5] at e1
  cases e1
  rw [h6] at e4
  cases e4
theorem own_eqI {t : Term} {k : Int32} {args : Array Value} {Z : State} (h : (Jvm.Cond.eq t (Term.int k)).value args Z none Z [] = some true) : t.eval args Z none [] Z = some (.int k) := by
  obtain ⟨x, y, hx, hy, K1, K2⟩ := cmp_v (Or.inl h)
  have hy' : y = .int k := by simpa [Term.eval] using hy.symm
  subst hy'
  obtain ⟨z, rfl⟩ := K2
  have q : z = k := by simpa [Jvm.Cond.value, hx, Term.eval] using h
  rw [hx, q]
theorem own_fldI {t : Term} {C n d : String} {k : Int32} {a : Addr} {args : Array Value} {Z : State} (ev : t.eval args Z none [] Z = some (.ref a)) (h : (Jvm.Cond.eq (Term.field t C n d) (Term.int k)).value args Z none Z [] = some true) : Z.fieldOf? a C n d = some (.int k) := by
  rw [← fld_at ev]; exact own_eqI h
theorem own_ford {C n d : String} {k k' : Int32} {a b : Addr} {Z : State} (h1 : Z.fieldOf? a C n d = some (.int k)) (h2 : Z.fieldOf? b C n d = some (.int k')) (hk : k ≠ k') : a ≠ b := fun q => by
  rw [q, h2] at h1
  exact hk (Value.int.inj (Option.some.inj h1)).symm
theorem own_s0 {Z : State} {h h' : Heap} {C n d : String} {v : Value} (F : Sta Z h C n d v) (Kp : Keep h h' []) : Sta Z h' C n d v := by
  obtain ⟨cf, i, k, f, st, cell, h1, h2, h3, h4, h5, h6, h7⟩ := F
  exact ⟨cf, i, k, f, st, cell, h1, h2, h3, h4, Kp.2.1 st cell h5 (by simp), h6, h7⟩
theorem own_a0 {Z : State} {h h' : Heap} {a : Addr} {c : Cell} {ty : FieldType} (A : Arr Z h a c ty) (Kp : Keep h h' []) : Arr Z h' a c ty := ⟨Kp.2.1 a c A.1 (by simp), A.2⟩
theorem own_f0 {Z : State} {h h' : Heap} {C n d : String} {a : Addr} {v : Value} (F : Fld Z h a C n d v) (Kp : Keep h h' []) : Fld Z h' a C n d v := F.keep Kp (by simp)
theorem own_no2 {Z : State} {a0 : Array Value} {C S O K : String} {n : Nat} (w1 : (Jvm.Cond.superclass C S).before a0 Z = true) (w2 : (Jvm.Cond.superclass S O).before a0 Z = true) (w3 : (Jvm.Cond.noSuperclass O).before a0 Z = true) (wk : (Jvm.Cond.instantiable K n).before a0 Z = true)
    (n1 : C ≠ K) (n2 : S ≠ K) (n3 : O ≠ K) : ∃ c t, Z.vm.findClass C = some c ∧ Z.vm.findClass K = some t ∧ Z.vm.assignable c t = false := by
  obtain ⟨t, kt, ht, hkt, ho, hi, -, -⟩ := Cond.instantiable_spec wk
  obtain ⟨cO, kO, hO, hkO, hs, -, -⟩ := Cond.noSuperclass_spec w3
  have neO := ids_ne hO ht n3
  have r0 : NS Z O K := ⟨cO, t, hO, ht, fun fuel => by cases fuel with
    | zero => rfl
    | succ f => simp [Vm.isSubclassAux, neO, hkO, hs]⟩
  obtain ⟨c, t', h0, g0, n3'⟩ := NS.step w1 (NS.step w2 r0 n2) n1
  cases ht.symm.trans g0
  obtain ⟨p, k, kp, h1, h2, h3, h4, h5, -, h7⟩ := Cond.superclass_spec h0 w1
  have ne := ids_ne h0 ht n1
  have hi' : kt.isInterface = false := by simp only [Bool.or_eq_false_iff] at hi; exact hi.1
  refine ⟨c, t, h0, ht, ?_⟩
  show Z.vm.assignableAux (255 + 1) c t = false
  simp [Vm.assignableAux, ne, h2, hkt, h5, ho, hi', Vm.isSubclass, n3']
theorem own_box {Z : State} {args : Array Value} {t : Term} {K : String} {X : Jvm.Cond} {a : Addr} {c : Cell} (et : ∀ idx, t.eval args Z none idx Z = some (.ref a)) (A : Arr Z Z.heap a c (.object K))
    (h : (Jvm.Cond.all t (.and (.exactly (.elem t (.index 0)) K) X)).value args Z none Z [] = some true) (j : Int32) (hj : ¬ (j < 0 ∨ c.slots.size ≤ j.toNatClampNeg)) : ∃ b : Addr, c.slots[j.toNatClampNeg]? = some (.ref b) ∧ Exa Z Z.heap b K := by
  have nn : ¬ j < 0 := fun x => hj (Or.inl x)
  have u := (and_e (Cond.all_elim (et []) (A.fin (Vm.Alike.refl _)) h j.toNatClampNeg (Nat.lt_of_not_le fun x => hj (Or.inr x)))).1
  obtain ⟨box, eb⟩ := exa_v u
  exact ⟨box, (elem_f (et _) (idx_at nn) (A.fin (Vm.Alike.refl _)) nn).symm.trans eb, exa_at eb u⟩
theorem own_len {Z : State} {args : Array Value} {t : Term} {a : Addr} {c : Cell} {ty : FieldType} {z : Int32} (ev : t.eval args Z none [] Z = some (.ref a)) (A : Arr Z Z.heap a c ty) (h : (Term.length t).eval args Z none [] Z = some (.int z)) : c.slots.size < 2 ^ 31 ∧ c.slots.size.toInt32 = z := by
  have ha := A.fin (Vm.Alike.refl _)
  simpa [Term.eval, ev, ha] using h
theorem own_size {c : Cell} {z : Int32} {n : Nat} (h : c.slots.size < 2 ^ 31 ∧ c.slots.size.toInt32 = z) (hz : z.toInt = n) : c.slots.size = n := by
  have q := len_toInt h.1
  rw [h.2] at q
  omega
theorem own_eqR {t u : Term} {b : Addr} {args : Array Value} {Z : State} (hu : u.eval args Z none [] Z = some (.ref b)) (h : (Jvm.Cond.eq t u).value args Z none Z [] = some true) : t.eval args Z none [] Z = some (.ref b) := by
  obtain ⟨x, y, hx, hy, K1, K2⟩ := cmp_v (Or.inl h)
  cases hu.symm.trans hy
  have hr : x.isRef = true := K2.2
  have e := eq_R hx hu hr rfl
  rw [h] at e
  rw [hx, of_decide_eq_true (Option.some.inj e).symm]
theorem own_rew {s t : State} {o : Outcome} {L : List Loc} {k n k' n' : Nat} (h : ReturnedEndW s o t L k n) (hk : k ≤ k') (hn : n ≤ n') : ReturnedEndW s o t L k' n' := ⟨h.1, h.2.1, h.2.2.1, h.2.2.2.mono hk hn⟩
theorem own_ra {Z : State} {EL : List (String × Nat)} {vm vm1 vm2 : Vm} {h h1 : Heap} {T : State} (A : CHr Z EL vm h vm1 h1) (e : T.heap = h1) (B : CHr Z EL vm1 h1 vm2 h1) : CHr Z EL vm h vm2 T.heap := by rw [e]; exact A.trans B
theorem own_m31 (x : Int32) : (x &&& (2147483647 : Int32)).toInt = x.toInt % 2147483648 := c_mask x (2147483647 : Int32) 31 (by decide) (by decide)
theorem own_mrem (x y : Int32) (d : Int) (hy : y.toInt = d) : ((x &&& (2147483647 : Int32)) % y).toInt = (x.toInt % 2147483648) % d := by
  have h := own_m31 x
  rw [(c_irem _ y d hy).1 (by omega), h]
open Rnd
theorem own_sh (e : Int32) (h1 : 0 ≤ e.toInt) (h2 : e.toInt ≤ 32) : 1 ≤ ((1 : Int64) <<< (e &&& 0x3f).toInt64).toInt ∧ ((1 : Int64) <<< (e &&& 0x3f).toInt64).toInt ≤ 4294967296 := by
  have hk : e.toBitVec.toNat % 64 ≤ 32 := by
    have q : e.toInt = e.toBitVec.toInt := rfl
    rw [BitVec.toInt_eq_toNat_cond] at q
    have := e.toBitVec.isLt
    split at q <;> omega
  have h := c_lshl (1 : Int64) e _ rfl
  rw [show (1 : Int64).toInt = 1 from rfl] at h
  generalize e.toBitVec.toNat % 64 = k at *
  have p1 : 1 ≤ 2 ^ k := Nat.one_le_two_pow
  have p2 : 2 ^ k ≤ 2 ^ 32 := Nat.pow_le_pow_right (by decide) hk
  generalize 2 ^ k = N at *
  have r1 := Int64.toInt_lt ((1 : Int64) <<< (e &&& 0x3f).toInt64)
  have r2 := Int64.le_toInt ((1 : Int64) <<< (e &&& 0x3f).toInt64)
  omega
theorem own_num (a k : Int32) (k0 : 0 ≤ k.toInt) (k1 : k.toInt ≤ 1024) : (a.toInt64 * ((5120 : Int64) + ((2 : Int64) * k.toInt64))).toInt = a.toInt * (5120 + 2 * k.toInt) ∧ -15393162788864 ≤ a.toInt * (5120 + 2 * k.toInt) ∧ a.toInt * (5120 + 2 * k.toInt) ≤ 15393162788864 := by
  have h1 := c_i2l a
  have h2 := c_i2l k
  have h3 := c_lmul (2 : Int64) k.toInt64
  have h4 := c_ladd (5120 : Int64) ((2 : Int64) * k.toInt64)
  have h5 := c_lmul a.toInt64 ((5120 : Int64) + ((2 : Int64) * k.toInt64))
  rw [show (2 : Int64).toInt = 2 from rfl] at h3
  rw [show (5120 : Int64).toInt = 5120 from rfl] at h4
  have r1 := Int64.toInt_lt ((2 : Int64) * k.toInt64)
  have r2 := Int64.le_toInt ((2 : Int64) * k.toInt64)
  have r3 := Int64.toInt_lt ((5120 : Int64) + ((2 : Int64) * k.toInt64))
  have r4 := Int64.le_toInt ((5120 : Int64) + ((2 : Int64) * k.toInt64))
  have e3 : ((2 : Int64) * k.toInt64).toInt = 2 * k.toInt := by omega
  have e4 : ((5120 : Int64) + ((2 : Int64) * k.toInt64)).toInt = 5120 + 2 * k.toInt := by omega
  rw [h1, e4] at h5
  have a1 := a.le_toInt
  have a2 := a.toInt_lt
  have m1 : a.toInt * (5120 + 2 * k.toInt) ≤ 2147483648 * (5120 + 2 * k.toInt) := Int.mul_le_mul_of_nonneg_right (by omega) (by omega)
  have m2 : -2147483648 * (5120 + 2 * k.toInt) ≤ a.toInt * (5120 + 2 * k.toInt) := Int.mul_le_mul_of_nonneg_right (by omega) (by omega)
  generalize a.toInt * (5120 + 2 * k.toInt) = N at *
  have r5 := Int64.toInt_lt (a.toInt64 * ((5120 : Int64) + ((2 : Int64) * k.toInt64)))
  have r6 := Int64.le_toInt (a.toInt64 * ((5120 : Int64) + ((2 : Int64) * k.toInt64)))
  omega
theorem own_castN (a k : Int) : ((a * (5120 + 2 * k) : Int) : Rat) = (a : Rat) * (5120 + 2 * (k : Rat)) := by simp
theorem own_nrm (k : Int32) (k0 : 0 ≤ k.toInt) (k1 : k.toInt ≤ 1024) : ∃ v, own_V (FP.ddiv (FP.i2d k) 4652218415073722368) v := by
  have h := own_chain k k FP.dconst1 own_kd1 (own_Mw (k := 0) (own_Mc (by decide +kernel) (by decide +kernel)) (by decide)) (by decide +kernel) k0 k1 _ _ _ _ _ _ _ rfl rfl rfl rfl rfl rfl rfl
  exact h.1
theorem ef_1 (m : MethodId) (x0 : UInt64) (x1 : UInt64) : entryFrame m #[(.double x0), (.double x1)] 4 = mkF m 0 #[.val (.double x0), .second, .val (.double x1), .second] [] := by first | (simp [entryFrame, mkF, argsToLocals, Value.category]; done) | rfl
theorem pn_com_example_nest5_nest5_federated_Cori : plainName "com/example/nest5/nest5/federated/Cori" = true := by first | (simp [plainName, overriddenIn]; done) | decide +kernel
theorem d1_0 : decode prog_10_method_5_code 0 = .ok (.dload_n 0, 1) := by decide +kernel
theorem d1_1 : decode prog_10_method_5_code 1 = .ok (.ldc2_w 140, 3) := by decide +kernel
theorem d1_4 : decode prog_10_method_5_code 4 = .ok (.dload_n 0, 1) := by decide +kernel
theorem d1_5 : decode prog_10_method_5_code 5 = .ok (.dmul, 1) := by decide +kernel
theorem d1_6 : decode prog_10_method_5_code 6 = .ok (.dload_n 2, 1) := by decide +kernel
theorem d1_7 : decode prog_10_method_5_code 7 = .ok (.dmul, 1) := by decide +kernel
theorem d1_8 : decode prog_10_method_5_code 8 = .ok (.dadd, 1) := by decide +kernel
theorem d1_9 : decode prog_10_method_5_code 9 = .ok (.ldc2_w 142, 3) := by decide +kernel
theorem d1_12 : decode prog_10_method_5_code 12 = .ok (.ddiv, 1) := by decide +kernel
theorem d1_13 : decode prog_10_method_5_code 13 = .ok (.dreturn, 1) := by decide +kernel
theorem ef_0 (m : MethodId) (x0 : Int32) (x1 : Int32) (x2 : Int32) : entryFrame m #[(.int x0), (.int x1), (.int x2)] maxLocals = mkF m 0 #[.val (.int x0), .val (.int x1), .val (.int x2), .unset, .unset, .unset, .unset, .unset, .unset, .unset, .unset, .unset, .unset, .unset, .unset, .unset, .unset] [] := by first | (simp [entryFrame, mkF, argsToLocals, Value.category, maxLocals]; done) | rfl
theorem pn_com_example_nest5_nest5_federated_CoriMergedScorePinLaw : plainName "com/example/nest5/nest5/federated/CoriMergedScorePinLaw" = true := by first | (simp [plainName, overriddenIn]; done) | decide +kernel
theorem pd_0 : parseMethodDescriptor "(DD)D" = some ⟨[.double, .double], some .double⟩ := by decide +kernel
def Q1 (Z : State) (f0 : UInt64) (f1 : UInt64) (h0 : Heap) (n0 : Nat) (v : Option Value) (h : Heap) (L : List Loc) : Prop := v = some (.double (FP.ddiv (FP.dadd f0 (FP.dmul (FP.dmul (4600877379321698714 : UInt64) f0) f1)) (4608983858650965606 : UInt64))) ∧ Fr n0 L ∧ h = h0
set_option maxRecDepth 65536 in
set_option maxHeartbeats 40000000 in
theorem rm1 (l : Launch) (Z : State) (a0 : Array Value) (hw : ∀ d ∈ tables_1, d.before a0 Z = true) (ws : List Jvm.Cond) (f0 : UInt64) (f1 : UInt64) (h0 : Heap) (n0 : Nat) (Z0 : n0 ≤ h0.size) (hn1 : Jvm.Free.Fl.NoNaN64 (FP.dmul (4600877379321698714 : UInt64) f0)) (hn2 : Jvm.Free.Fl.NoNaN64 (FP.dmul (FP.dmul (4600877379321698714 : UInt64) f0) f1)) (hn3 : Jvm.Free.Fl.NoNaN64 (FP.dadd f0 (FP.dmul (FP.dmul (4600877379321698714 : UInt64) f0) f1))) (hn4 : Jvm.Free.Fl.NoNaN64 (FP.ddiv (FP.dadd f0 (FP.dmul (FP.dmul (4600877379321698714 : UInt64) f0) f1)) (4608983858650965606 : UInt64))) :
    MetFree l (⟨"com/example/nest5/nest5/federated/Cori", "mergedScore", "(DD)D"⟩ : MethodName) (head1 (Jvm.Cond.code (⟨"com/example/nest5/nest5/federated/Cori", "mergedScore", "(DD)D"⟩ : MethodName) prog_10_method_5_code 4 (some .double) :: ws) ({ frames := 0, cells := 0, slots := 0, locals := 0 } : Room)) (fun a U => a = #[(.double f0), (.double f1)] ∧ Z.Warmed39 U.vm ∧ U.heap = h0) (fun _ _ _ _ _ => True) (fun _ U o U' => ∃ v L, o = .returned v ∧ Q1 Z f0 f1 h0 n0 v U'.heap L ∧ FrameEnd U o U' L ({ frames := 0, cells := 0, slots := 0, locals := 0 } : Room).cells ({ frames := 0, cells := 0, slots := 0, locals := 0 } : Room).slots) := by
  refine MetFree.of_bodySF (plainFor_of_name pn_com_example_nest5_nest5_federated_Cori) hisR ?_
  intro p e s m args below meth c s₁ Bd hml0 hP hK
  obtain ⟨rfl, hZ, hh⟩ := hP
  have hx := Bd.exec
  have hby := Bd.bytes
  have hml : c.maxLocals = 4 := hml0
  have hown : s.vm.findClass "com/example/nest5/nest5/federated/Cori" = some m.cls := findClass_of_methodNamed Bd.named
  have hnm := (name_of_methodNamed Bd.named Bd.method).1
  have X0 : Stand p l e ({ frames := 0, cells := 0, slots := 0, locals := 0 } : Room) s m #[(.double f0), (.double f1)] below meth c s₁ [] 0 0 := Stand.of_body Bd
  have e0 : s₁.heap = h0 := by rw [← hh, Bd.state]; rfl
  have N0 := Fr.nil n0
  have pre0 : ∀ t, Steps p.tables e below (s₁.setTop (mkF m 0 #[.val (.double f0), .second, .val (.double f1), .second] [])) t → Steps p.tables e below (s₁.setTop (entryFrame m #[(.double f0), (.double f1)] 4)) t := fun t k => castTop (ef_1 m f0 f1) k
  have preS : ∀ t, Steps p.tables e below (s₁.setTop (mkF m 0 #[.val (.double f0), .second, .val (.double f1), .second] [])) t → Steps p.tables e below (s₁.setTop (mkF m 0 #[.val (.double f0), .second, .val (.double f1), .second] [])) t := fun t k => k
  obtain ⟨fs, hr, hrun, hended, hW, hsame⟩ := X0.leave (v := some (.double (FP.ddiv (FP.dadd f0 (FP.dmul (FP.dmul (4600877379321698714 : UInt64) f0) f1)) (4608983858650965606 : UInt64)))) (fun h => by rw [Bd.returns] at h; cases h)
  refine ⟨_, _, pre0 _ (preS _ ?_), hrun, hended, _, _, rfl, ?_, ⟨_, rfl⟩, hW, hsame.mono (by decide) (by decide)⟩
  · skip
    show Steps p.tables e below (s₁.setTop (mkF m 0 #[.val (.double f0), .second, .val (.double f1), .second] [])) _
    refine XS.dloadN X0.here hx rfl (hb hby d1_0) rfl ?_
    show Steps p.tables e below (s₁.setTop (mkF m 1 #[.val (.double f0), .second, .val (.double f1), .second] [(.double f0)])) _
    refine X0.ldc2DoubleC hx hown (mvT hZ (hw _ (List.mem_of_getElem? (i := 6) rfl))) (g := (mkF m 1 #[.val (.double f0), .second, .val (.double f1), .second] [(.double f0)])) rfl (hb hby d1_1) _ ?_
    show Steps p.tables e below (s₁.setTop (mkF m 4 #[.val (.double f0), .second, .val (.double f1), .second] [(.double (4600877379321698714 : UInt64)), (.double f0)])) _
    refine XS.dloadN X0.here hx rfl (hb hby d1_4) rfl ?_
    show Steps p.tables e below (s₁.setTop (mkF m 5 #[.val (.double f0), .second, .val (.double f1), .second] [(.double f0), (.double (4600877379321698714 : UInt64)), (.double f0)])) _
    refine XS.dmulS X0.here hx rfl (hb hby d1_5) rfl hn1 rfl ?_
    show Steps p.tables e below (s₁.setTop (mkF m 6 #[.val (.double f0), .second, .val (.double f1), .second] [(.double (FP.dmul (4600877379321698714 : UInt64) f0)), (.double f0)])) _
    refine XS.dloadN X0.here hx rfl (hb hby d1_6) rfl ?_
    show Steps p.tables e below (s₁.setTop (mkF m 7 #[.val (.double f0), .second, .val (.double f1), .second] [(.double f1), (.double (FP.dmul (4600877379321698714 : UInt64) f0)), (.double f0)])) _
    refine XS.dmulS X0.here hx rfl (hb hby d1_7) rfl hn2 rfl ?_
    show Steps p.tables e below (s₁.setTop (mkF m 8 #[.val (.double f0), .second, .val (.double f1), .second] [(.double (FP.dmul (FP.dmul (4600877379321698714 : UInt64) f0) f1)), (.double f0)])) _
    refine XS.daddS X0.here hx rfl (hb hby d1_8) rfl hn3 rfl ?_
    show Steps p.tables e below (s₁.setTop (mkF m 9 #[.val (.double f0), .second, .val (.double f1), .second] [(.double (FP.dadd f0 (FP.dmul (FP.dmul (4600877379321698714 : UInt64) f0) f1)))])) _
    refine X0.ldc2DoubleC hx hown (mvT hZ (hw _ (List.mem_of_getElem? (i := 7) rfl))) (g := (mkF m 9 #[.val (.double f0), .second, .val (.double f1), .second] [(.double (FP.dadd f0 (FP.dmul (FP.dmul (4600877379321698714 : UInt64) f0) f1)))])) rfl (hb hby d1_9) _ ?_
    show Steps p.tables e below (s₁.setTop (mkF m 12 #[.val (.double f0), .second, .val (.double f1), .second] [(.double (4608983858650965606 : UInt64)), (.double (FP.dadd f0 (FP.dmul (FP.dmul (4600877379321698714 : UInt64) f0) f1)))])) _
    refine XS.ddivS X0.here hx rfl (hb hby d1_12) rfl hn4 rfl ?_
    show Steps p.tables e below (s₁.setTop (mkF m 13 #[.val (.double f0), .second, .val (.double f1), .second] [(.double (FP.ddiv (FP.dadd f0 (FP.dmul (FP.dmul (4600877379321698714 : UInt64) f0) f1)) (4608983858650965606 : UInt64)))])) _
    jvm_step X0.here [X0.here.top, hx, (hb hby d1_13), X0.method', Bd.returns, narrow]
    first | (intro acts; rw [hr _ acts rfl rfl rfl]) | rw [hr _ _ rfl rfl rfl]
    exact Steps.refl _
  · show Q1 Z f0 f1 h0 n0 _ s₁.heap _
    rw [e0]
    exact ⟨rfl, N0, rfl⟩
def Q0 (Z : State) (p0 : Int32) (p1 : Int32) (p2 : Int32) (h0 : Heap) (n0 : Nat) (v : Option Value) (h : Heap) (L : List Loc) : Prop := v = some (.int 1) ∧ Fr n0 L
set_option maxRecDepth 65536 in
set_option maxHeartbeats 40000000 in
theorem rm0 (l : Launch) (Z : State) (a0 : Array Value) (hw : ∀ d ∈ tables_1, d.before a0 Z = true) (ws : List Jvm.Cond) (p0 : Int32) (p1 : Int32) (p2 : Int32) (h0 : Heap) (n0 : Nat) (Z0 : n0 ≤ h0.size) :
    MetFree l x (head1 (Jvm.Cond.code x code maxLocals ret :: ws) room_1) (fun a U => a = #[(.int p0), (.int p1), (.int p2)] ∧ Z.Warmed39 U.vm ∧ U.heap = h0) (fun _ _ _ _ _ => True) (fun _ U o U' => ∃ v L, o = .returned v ∧ Q0 Z p0 p1 p2 h0 n0 v U'.heap L ∧ FrameEnd U o U' L room_1.cells room_1.slots) := by
  refine MetFree.of_bodySF (plainFor_of_name pn_com_example_nest5_nest5_federated_CoriMergedScorePinLaw) hisR ?_
  intro p e s m args below meth c s₁ Bd hml0 hP hK
  obtain ⟨rfl, hZ, hh⟩ := hP
  have hx := Bd.exec
  have hby := Bd.bytes
  have hml : c.maxLocals = 17 := hml0
  have hown : s.vm.findClass "com/example/nest5/nest5/federated/CoriMergedScorePinLaw" = some m.cls := findClass_of_methodNamed Bd.named
  have hnm := (name_of_methodNamed Bd.named Bd.method).1
  have X0 : Stand p l e room_1 s m #[(.int p0), (.int p1), (.int p2)] below meth c s₁ [] 0 0 := Stand.of_body Bd
  have e0 : s₁.heap = h0 := by rw [← hh, Bd.state]; rfl
  have N0 := Fr.nil n0
  have pre0 : ∀ t, Steps p.tables e below (s₁.setTop (mkF m 0 #[.val (.int p0), .val (.int p1), .val (.int p2), .unset, .unset, .unset, .unset, .unset, .unset, .unset, .unset, .unset, .unset, .unset, .unset, .unset, .unset] [])) t → Steps p.tables e below (s₁.setTop (entryFrame m #[(.int p0), (.int p1), (.int p2)] maxLocals)) t := fun t k => castTop (ef_0 m p0 p1 p2) k
  have preS : ∀ t, Steps p.tables e below (s₁.setTop (mkF m 0 #[.val (.int p0), .val (.int p1), .val (.int p2), .unset, .unset, .unset, .unset, .unset, .unset, .unset, .unset, .unset, .unset, .unset, .unset, .unset, .unset] [])) t → Steps p.tables e below (s₁.setTop (mkF m 0 #[.val (.int p0), .val (.int p1), .val (.int p2), .unset, .unset, .unset, .unset, .unset, .unset, .unset, .unset, .unset, .unset, .unset, .unset, .unset, .unset] [])) t := fun t k => k
  have pre1 : ∀ t, Steps p.tables e below (s₁.setTop (mkF m 8 #[.val (.int p0), .val (.int p1), .val (.int p2), .unset, .unset, .unset, .unset, .unset, .unset, .unset, .unset, .unset, .unset, .unset, .unset, .unset, .unset] [(.int ((p2 &&& (2147483647 : Int32)) % (1025 : Int32)))])) t → Steps p.tables e below (s₁.setTop (mkF m 0 #[.val (.int p0), .val (.int p1), .val (.int p2), .unset, .unset, .unset, .unset, .unset, .unset, .unset, .unset, .unset, .unset, .unset, .unset, .unset, .unset] [])) t := fun t k => preS t (by
    show Steps p.tables e below (s₁.setTop (mkF m 0 #[.val (.int p0), .val (.int p1), .val (.int p2), .unset, .unset, .unset, .unset, .unset, .unset, .unset, .unset, .unset, .unset, .unset, .unset, .unset, .unset] [])) _
    refine XS.iloadN X0.here hx rfl (hb hby at_0) rfl ?_
    show Steps p.tables e below (s₁.setTop (mkF m 1 #[.val (.int p0), .val (.int p1), .val (.int p2), .unset, .unset, .unset, .unset, .unset, .unset, .unset, .unset, .unset, .unset, .unset, .unset, .unset, .unset] [(.int p2)])) _
    refine X0.ldcInt hx hown (mvT hZ (hw _ (List.mem_of_getElem? (i := 0) rfl))) (g := (mkF m 1 #[.val (.int p0), .val (.int p1), .val (.int p2), .unset, .unset, .unset, .unset, .unset, .unset, .unset, .unset, .unset, .unset, .unset, .unset, .unset, .unset] [(.int p2)])) rfl (hb hby at_1) _ ?_
    show Steps p.tables e below (s₁.setTop (mkF m 3 #[.val (.int p0), .val (.int p1), .val (.int p2), .unset, .unset, .unset, .unset, .unset, .unset, .unset, .unset, .unset, .unset, .unset, .unset, .unset, .unset] [(.int (2147483647 : Int32)), (.int p2)])) _
    refine XS.iand X0.here hx rfl (hb hby at_3) rfl ?_
    show Steps p.tables e below (s₁.setTop (mkF m 4 #[.val (.int p0), .val (.int p1), .val (.int p2), .unset, .unset, .unset, .unset, .unset, .unset, .unset, .unset, .unset, .unset, .unset, .unset, .unset, .unset] [(.int (p2 &&& (2147483647 : Int32)))])) _
    refine XS.sipush X0.here hx rfl (hb hby at_4) ?_
    show Steps p.tables e below (s₁.setTop (mkF m 7 #[.val (.int p0), .val (.int p1), .val (.int p2), .unset, .unset, .unset, .unset, .unset, .unset, .unset, .unset, .unset, .unset, .unset, .unset, .unset, .unset] [(.int (1025 : Int32)), (.int (p2 &&& (2147483647 : Int32)))])) _
    refine Jvm.RoadKit.iremM (g := (mkF m 7 #[.val (.int p0), .val (.int p1), .val (.int p2), .unset, .unset, .unset, .unset, .unset, .unset, .unset, .unset, .unset, .unset, .unset, .unset, .unset, .unset] [(.int (1025 : Int32)), (.int (p2 &&& (2147483647 : Int32)))])) X0 hx rfl (hb hby at_7) rfl (by decide) ?_
    exact k)
  obtain ⟨kk, h_kk⟩ : ∃ z, z = ((p2 &&& (2147483647 : Int32)) % (1025 : Int32)) := ⟨_, rfl⟩
  rw [← h_kk] at pre1
  have hkk := own_mrem p2 (1025 : Int32) 1025 rfl
  rw [← h_kk] at hkk
  obtain ⟨vn, hvn⟩ := own_nrm kk (by omega) (by omega)
  have pre2 : ∀ t, Steps p.tables e below (s₁.setTop (mkF m 24 #[.val (.int p0), .val (.int p1), .val (.int p2), .val (.int kk), .val (.double (FP.ddiv (FP.i2d kk) (4652218415073722368 : UInt64))), .second, .unset, .unset, .unset, .unset, .unset, .unset, .unset, .unset, .unset, .unset, .unset] [(.int ((p1 &&& (63 : Int32)) - (32 : Int32)))])) t → Steps p.tables e below (s₁.setTop (mkF m 0 #[.val (.int p0), .val (.int p1), .val (.int p2), .unset, .unset, .unset, .unset, .unset, .unset, .unset, .unset, .unset, .unset, .unset, .unset, .unset, .unset] [])) t := fun t k => pre1 t (by
    show Steps p.tables e below (s₁.setTop (mkF m 8 #[.val (.int p0), .val (.int p1), .val (.int p2), .unset, .unset, .unset, .unset, .unset, .unset, .unset, .unset, .unset, .unset, .unset, .unset, .unset, .unset] [(.int kk)])) _
    refine XS.istoreN X0.here hx rfl (hb hby at_8) rfl (l' := #[.val (.int p0), .val (.int p1), .val (.int p2), .val (.int kk), .unset, .unset, .unset, .unset, .unset, .unset, .unset, .unset, .unset, .unset, .unset, .unset, .unset]) rfl ?_
    show Steps p.tables e below (s₁.setTop (mkF m 9 #[.val (.int p0), .val (.int p1), .val (.int p2), .val (.int kk), .unset, .unset, .unset, .unset, .unset, .unset, .unset, .unset, .unset, .unset, .unset, .unset, .unset] [])) _
    refine XS.iloadN X0.here hx rfl (hb hby at_9) rfl ?_
    show Steps p.tables e below (s₁.setTop (mkF m 10 #[.val (.int p0), .val (.int p1), .val (.int p2), .val (.int kk), .unset, .unset, .unset, .unset, .unset, .unset, .unset, .unset, .unset, .unset, .unset, .unset, .unset] [(.int kk)])) _
    refine XS.i2dS X0.here hx rfl (hb hby at_10) rfl rfl ?_
    show Steps p.tables e below (s₁.setTop (mkF m 11 #[.val (.int p0), .val (.int p1), .val (.int p2), .val (.int kk), .unset, .unset, .unset, .unset, .unset, .unset, .unset, .unset, .unset, .unset, .unset, .unset, .unset] [(.double (FP.i2d kk))])) _
    refine X0.ldc2DoubleC hx hown (mvT hZ (hw _ (List.mem_of_getElem? (i := 1) rfl))) (g := (mkF m 11 #[.val (.int p0), .val (.int p1), .val (.int p2), .val (.int kk), .unset, .unset, .unset, .unset, .unset, .unset, .unset, .unset, .unset, .unset, .unset, .unset, .unset] [(.double (FP.i2d kk))])) rfl (hb hby at_11) _ ?_
    show Steps p.tables e below (s₁.setTop (mkF m 14 #[.val (.int p0), .val (.int p1), .val (.int p2), .val (.int kk), .unset, .unset, .unset, .unset, .unset, .unset, .unset, .unset, .unset, .unset, .unset, .unset, .unset] [(.double (4652218415073722368 : UInt64)), (.double (FP.i2d kk))])) _
    refine XS.ddivS X0.here hx rfl (hb hby at_14) rfl (own_nn hvn) rfl ?_
    show Steps p.tables e below (s₁.setTop (mkF m 15 #[.val (.int p0), .val (.int p1), .val (.int p2), .val (.int kk), .unset, .unset, .unset, .unset, .unset, .unset, .unset, .unset, .unset, .unset, .unset, .unset, .unset] [(.double (FP.ddiv (FP.i2d kk) (4652218415073722368 : UInt64)))])) _
    refine XS.dstore X0.here hx rfl (hb hby at_15) rfl (l' := #[.val (.int p0), .val (.int p1), .val (.int p2), .val (.int kk), .val (.double (FP.ddiv (FP.i2d kk) (4652218415073722368 : UInt64))), .second, .unset, .unset, .unset, .unset, .unset, .unset, .unset, .unset, .unset, .unset, .unset]) rfl ?_
    show Steps p.tables e below (s₁.setTop (mkF m 17 #[.val (.int p0), .val (.int p1), .val (.int p2), .val (.int kk), .val (.double (FP.ddiv (FP.i2d kk) (4652218415073722368 : UInt64))), .second, .unset, .unset, .unset, .unset, .unset, .unset, .unset, .unset, .unset, .unset, .unset] [])) _
    refine XS.iloadN X0.here hx rfl (hb hby at_17) rfl ?_
    show Steps p.tables e below (s₁.setTop (mkF m 18 #[.val (.int p0), .val (.int p1), .val (.int p2), .val (.int kk), .val (.double (FP.ddiv (FP.i2d kk) (4652218415073722368 : UInt64))), .second, .unset, .unset, .unset, .unset, .unset, .unset, .unset, .unset, .unset, .unset, .unset] [(.int p1)])) _
    refine XS.bipush X0.here hx rfl (hb hby at_18) ?_
    show Steps p.tables e below (s₁.setTop (mkF m 20 #[.val (.int p0), .val (.int p1), .val (.int p2), .val (.int kk), .val (.double (FP.ddiv (FP.i2d kk) (4652218415073722368 : UInt64))), .second, .unset, .unset, .unset, .unset, .unset, .unset, .unset, .unset, .unset, .unset, .unset] [(.int (63 : Int32)), (.int p1)])) _
    refine XS.iand X0.here hx rfl (hb hby at_20) rfl ?_
    show Steps p.tables e below (s₁.setTop (mkF m 21 #[.val (.int p0), .val (.int p1), .val (.int p2), .val (.int kk), .val (.double (FP.ddiv (FP.i2d kk) (4652218415073722368 : UInt64))), .second, .unset, .unset, .unset, .unset, .unset, .unset, .unset, .unset, .unset, .unset, .unset] [(.int (p1 &&& (63 : Int32)))])) _
    refine XS.bipush X0.here hx rfl (hb hby at_21) ?_
    show Steps p.tables e below (s₁.setTop (mkF m 23 #[.val (.int p0), .val (.int p1), .val (.int p2), .val (.int kk), .val (.double (FP.ddiv (FP.i2d kk) (4652218415073722368 : UInt64))), .second, .unset, .unset, .unset, .unset, .unset, .unset, .unset, .unset, .unset, .unset, .unset] [(.int (32 : Int32)), (.int (p1 &&& (63 : Int32)))])) _
    refine XS.isub X0.here hx rfl (hb hby at_23) rfl ?_
    exact k)
  obtain ⟨ee, h_ee⟩ : ∃ z, z = ((p1 &&& (63 : Int32)) - (32 : Int32)) := ⟨_, rfl⟩
  rw [← h_ee] at pre2
  have hm := c_mask p1 (63 : Int32) 6 (by decide) (by decide)
  have hs := c_isub (p1 &&& (63 : Int32)) (32 : Int32)
  rw [← h_ee, show (32 : Int32).toInt = 32 from rfl] at hs
  have hrg := rng32 ee
  have he : ee.toInt = p1.toInt % 64 - 32 := by omega
  have hng := c_ineg ee
  have hrn := rng32 (-ee)
  have hne : (-ee).toInt = -ee.toInt := by omega
  clear hng hrn hs hm hrg
  have pre3 : ∀ t, Steps p.tables e below (s₁.setTop (mkF m 26 #[.val (.int p0), .val (.int p1), .val (.int p2), .val (.int kk), .val (.double (FP.ddiv (FP.i2d kk) (4652218415073722368 : UInt64))), .second, .val (.int ee), .unset, .unset, .unset, .unset, .unset, .unset, .unset, .unset, .unset, .unset] [])) t → Steps p.tables e below (s₁.setTop (mkF m 0 #[.val (.int p0), .val (.int p1), .val (.int p2), .unset, .unset, .unset, .unset, .unset, .unset, .unset, .unset, .unset, .unset, .unset, .unset, .unset, .unset] [])) t := fun t k => pre2 t (by
    show Steps p.tables e below (s₁.setTop (mkF m 24 #[.val (.int p0), .val (.int p1), .val (.int p2), .val (.int kk), .val (.double (FP.ddiv (FP.i2d kk) (4652218415073722368 : UInt64))), .second, .unset, .unset, .unset, .unset, .unset, .unset, .unset, .unset, .unset, .unset, .unset] [(.int ee)])) _
    refine XS.istore X0.here hx rfl (hb hby at_24) rfl (l' := #[.val (.int p0), .val (.int p1), .val (.int p2), .val (.int kk), .val (.double (FP.ddiv (FP.i2d kk) (4652218415073722368 : UInt64))), .second, .val (.int ee), .unset, .unset, .unset, .unset, .unset, .unset, .unset, .unset, .unset, .unset]) rfl ?_
    exact k)
  obtain ⟨sc, ⟨S, hS, hSM, hS0⟩, pre4⟩ : ∃ (sc : UInt64), (∃ S, own_V sc S ∧ own_M 40 S ∧ S ≠ 0) ∧ ∀ t, Steps p.tables e below (s₁.setTop (mkF m 47 #[.val (.int p0), .val (.int p1), .val (.int p2), .val (.int kk), .val (.double (FP.ddiv (FP.i2d kk) (4652218415073722368 : UInt64))), .second, .val (.int ee), .unset, .unset, .unset, .unset, .unset, .unset, .unset, .unset, .unset, .unset] [(.double sc)])) t → Steps p.tables e below (s₁.setTop (mkF m 0 #[.val (.int p0), .val (.int p1), .val (.int p2), .unset, .unset, .unset, .unset, .unset, .unset, .unset, .unset, .unset, .unset, .unset, .unset, .unset, .unset] [])) t := by
    have pre6 : ∀ t, Steps p.tables e below (s₁.setTop (mkF m 28 #[.val (.int p0), .val (.int p1), .val (.int p2), .val (.int kk), .val (.double (FP.ddiv (FP.i2d kk) (4652218415073722368 : UInt64))), .second, .val (.int ee), .unset, .unset, .unset, .unset, .unset, .unset, .unset, .unset, .unset, .unset] [(.int ee)])) t → Steps p.tables e below (s₁.setTop (mkF m 0 #[.val (.int p0), .val (.int p1), .val (.int p2), .unset, .unset, .unset, .unset, .unset, .unset, .unset, .unset, .unset, .unset, .unset, .unset, .unset, .unset] [])) t := fun t k => pre3 t (by
      show Steps p.tables e below (s₁.setTop (mkF m 26 #[.val (.int p0), .val (.int p1), .val (.int p2), .val (.int kk), .val (.double (FP.ddiv (FP.i2d kk) (4652218415073722368 : UInt64))), .second, .val (.int ee), .unset, .unset, .unset, .unset, .unset, .unset, .unset, .unset, .unset, .unset] [])) _
      refine XS.iload X0.here hx rfl (hb hby at_26) rfl ?_
      exact k)
    by_cases hc5 : ee < (0 : Int32)
    · skip
      have ohc5 : ee.toInt < 0 := own_lt.mp hc5
      obtain ⟨S, hS, hSM, hS0⟩ := own_scN (own_sh (-ee) (by omega) (by omega)).1 (own_sh (-ee) (by omega) (by omega)).2
      refine ⟨(FP.ddiv FP.dconst1 (FP.l2d ((1 : Int64) <<< (((-ee)) &&& 0x3f).toInt64))), ?_, fun t k => pre6 t ?_⟩
      · exact ⟨S, hS, hSM, hS0⟩
      · skip
        show Steps p.tables e below (s₁.setTop (mkF m 28 #[.val (.int p0), .val (.int p1), .val (.int p2), .val (.int kk), .val (.double (FP.ddiv (FP.i2d kk) (4652218415073722368 : UInt64))), .second, .val (.int ee), .unset, .unset, .unset, .unset, .unset, .unset, .unset, .unset, .unset, .unset] [(.int ee)])) _
        refine XS.ifYes X0.here hx rfl (pc0 := 28) (pc' := 39) rfl (hb hby at_28) rfl ((if0 _ _).trans (tlt hc5).1) (by decide) (by decide) ?_
        show Steps p.tables e below (s₁.setTop (mkF m 39 #[.val (.int p0), .val (.int p1), .val (.int p2), .val (.int kk), .val (.double (FP.ddiv (FP.i2d kk) (4652218415073722368 : UInt64))), .second, .val (.int ee), .unset, .unset, .unset, .unset, .unset, .unset, .unset, .unset, .unset, .unset] [])) _
        refine XS.dconst1 X0.here hx rfl (hb hby at_39) rfl ?_
        show Steps p.tables e below (s₁.setTop (mkF m 40 #[.val (.int p0), .val (.int p1), .val (.int p2), .val (.int kk), .val (.double (FP.ddiv (FP.i2d kk) (4652218415073722368 : UInt64))), .second, .val (.int ee), .unset, .unset, .unset, .unset, .unset, .unset, .unset, .unset, .unset, .unset] [(.double FP.dconst1)])) _
        refine XS.lconst X0.here hx rfl (hb hby at_40) ?_
        show Steps p.tables e below (s₁.setTop (mkF m 41 #[.val (.int p0), .val (.int p1), .val (.int p2), .val (.int kk), .val (.double (FP.ddiv (FP.i2d kk) (4652218415073722368 : UInt64))), .second, .val (.int ee), .unset, .unset, .unset, .unset, .unset, .unset, .unset, .unset, .unset, .unset] [(.long (1 : Int64)), (.double FP.dconst1)])) _
        refine XS.iload X0.here hx rfl (hb hby at_41) rfl ?_
        show Steps p.tables e below (s₁.setTop (mkF m 43 #[.val (.int p0), .val (.int p1), .val (.int p2), .val (.int kk), .val (.double (FP.ddiv (FP.i2d kk) (4652218415073722368 : UInt64))), .second, .val (.int ee), .unset, .unset, .unset, .unset, .unset, .unset, .unset, .unset, .unset, .unset] [(.int ee), (.long (1 : Int64)), (.double FP.dconst1)])) _
        refine XS.ineg X0.here hx rfl (hb hby at_43) rfl ?_
        show Steps p.tables e below (s₁.setTop (mkF m 44 #[.val (.int p0), .val (.int p1), .val (.int p2), .val (.int kk), .val (.double (FP.ddiv (FP.i2d kk) (4652218415073722368 : UInt64))), .second, .val (.int ee), .unset, .unset, .unset, .unset, .unset, .unset, .unset, .unset, .unset, .unset] [(.int ((-ee))), (.long (1 : Int64)), (.double FP.dconst1)])) _
        refine XS.lshl X0.here hx rfl (hb hby at_44) rfl ?_
        show Steps p.tables e below (s₁.setTop (mkF m 45 #[.val (.int p0), .val (.int p1), .val (.int p2), .val (.int kk), .val (.double (FP.ddiv (FP.i2d kk) (4652218415073722368 : UInt64))), .second, .val (.int ee), .unset, .unset, .unset, .unset, .unset, .unset, .unset, .unset, .unset, .unset] [(.long ((1 : Int64) <<< (((-ee)) &&& 0x3f).toInt64)), (.double FP.dconst1)])) _
        refine XS.l2dS X0.here hx rfl (hb hby at_45) rfl rfl ?_
        show Steps p.tables e below (s₁.setTop (mkF m 46 #[.val (.int p0), .val (.int p1), .val (.int p2), .val (.int kk), .val (.double (FP.ddiv (FP.i2d kk) (4652218415073722368 : UInt64))), .second, .val (.int ee), .unset, .unset, .unset, .unset, .unset, .unset, .unset, .unset, .unset, .unset] [(.double (FP.l2d ((1 : Int64) <<< (((-ee)) &&& 0x3f).toInt64))), (.double FP.dconst1)])) _
        refine XS.ddivS X0.here hx rfl (hb hby at_46) rfl (own_nn hS) rfl ?_
        exact k
    · skip
      have ohc5 : 0 ≤ ee.toInt := own_nlt.mp hc5
      refine ⟨(FP.l2d ((1 : Int64) <<< (ee &&& 0x3f).toInt64)), ?_, fun t k => pre6 t ?_⟩
      · exact own_scP (own_sh ee (by omega) (by omega)).1 (own_sh ee (by omega) (by omega)).2
      · skip
        show Steps p.tables e below (s₁.setTop (mkF m 28 #[.val (.int p0), .val (.int p1), .val (.int p2), .val (.int kk), .val (.double (FP.ddiv (FP.i2d kk) (4652218415073722368 : UInt64))), .second, .val (.int ee), .unset, .unset, .unset, .unset, .unset, .unset, .unset, .unset, .unset, .unset] [(.int ee)])) _
        refine XS.ifNo X0.here hx rfl (hb hby at_28) rfl ((if0 _ _).trans (flt hc5).1) ?_
        show Steps p.tables e below (s₁.setTop (mkF m 31 #[.val (.int p0), .val (.int p1), .val (.int p2), .val (.int kk), .val (.double (FP.ddiv (FP.i2d kk) (4652218415073722368 : UInt64))), .second, .val (.int ee), .unset, .unset, .unset, .unset, .unset, .unset, .unset, .unset, .unset, .unset] [])) _
        refine XS.lconst X0.here hx rfl (hb hby at_31) ?_
        show Steps p.tables e below (s₁.setTop (mkF m 32 #[.val (.int p0), .val (.int p1), .val (.int p2), .val (.int kk), .val (.double (FP.ddiv (FP.i2d kk) (4652218415073722368 : UInt64))), .second, .val (.int ee), .unset, .unset, .unset, .unset, .unset, .unset, .unset, .unset, .unset, .unset] [(.long (1 : Int64))])) _
        refine XS.iload X0.here hx rfl (hb hby at_32) rfl ?_
        show Steps p.tables e below (s₁.setTop (mkF m 34 #[.val (.int p0), .val (.int p1), .val (.int p2), .val (.int kk), .val (.double (FP.ddiv (FP.i2d kk) (4652218415073722368 : UInt64))), .second, .val (.int ee), .unset, .unset, .unset, .unset, .unset, .unset, .unset, .unset, .unset, .unset] [(.int ee), (.long (1 : Int64))])) _
        refine XS.lshl X0.here hx rfl (hb hby at_34) rfl ?_
        show Steps p.tables e below (s₁.setTop (mkF m 35 #[.val (.int p0), .val (.int p1), .val (.int p2), .val (.int kk), .val (.double (FP.ddiv (FP.i2d kk) (4652218415073722368 : UInt64))), .second, .val (.int ee), .unset, .unset, .unset, .unset, .unset, .unset, .unset, .unset, .unset, .unset] [(.long ((1 : Int64) <<< (ee &&& 0x3f).toInt64))])) _
        refine XS.l2dS X0.here hx rfl (hb hby at_35) rfl rfl ?_
        show Steps p.tables e below (s₁.setTop (mkF m 36 #[.val (.int p0), .val (.int p1), .val (.int p2), .val (.int kk), .val (.double (FP.ddiv (FP.i2d kk) (4652218415073722368 : UInt64))), .second, .val (.int ee), .unset, .unset, .unset, .unset, .unset, .unset, .unset, .unset, .unset, .unset] [(.double (FP.l2d ((1 : Int64) <<< (ee &&& 0x3f).toInt64)))])) _
        refine XS.goto X0.here hx rfl (pc0 := 36) (pc' := 47) rfl (hb hby at_36) (by decide) (by decide) ?_
        exact k
  obtain ⟨-, ⟨v2, hv2⟩, ⟨v3, hv3⟩, ⟨v4, hv4⟩, ⟨v5, hv5⟩, ⟨v6, hv6⟩, ρ, hρ, hρ1, hρ2⟩ := own_chain p0 kk sc hS hSM hS0 (by omega) (by omega) _ _ _ _ _ _ _ rfl rfl rfl rfl rfl rfl rfl
  obtain ⟨_, _, ⟨T7, L7, k7, n7⟩, -, X7, ⟨Lc7, hQ7, l7, y7, z7⟩, st7⟩ := Jvm.LawKit.callS X0 hx (y := (⟨"com/example/nest5/nest5/federated/Cori", "mergedScore", "(DD)D"⟩ : MethodName)) hown (mvT hZ (hw _ (List.mem_of_getElem? (i := 2) rfl))) (mvT hZ (hw _ (List.mem_of_getElem? (i := 3) rfl))) (mvT hZ (hw _ (List.mem_of_getElem? (i := 4) rfl))) (mvT hZ (hw _ (List.mem_of_getElem? (i := 5) rfl))) (by decide) (backOf (W := 0) (rm1 l Z a0 hw [] (FP.dmul (FP.i2d p0) sc) (FP.ddiv (FP.i2d kk) (4652218415073722368 : UInt64))  h0 n0 Z0 (own_nn hv3) (own_nn hv4) (own_nn hv5) (own_nn hv6)) hZ (hw _ (List.mem_of_getElem? (i := 5) rfl)) (hw _ (List.mem_of_getElem? (i := 4) rfl)) (by decide) (by decide)) (g := (mkF m 60 #[.val (.int p0), .val (.int p1), .val (.int p2), .val (.int kk), .val (.double (FP.ddiv (FP.i2d kk) (4652218415073722368 : UInt64))), .second, .val (.int ee), .val (.double sc), .second, .val (.double (FP.dmul (FP.i2d p0) sc)), .second, .unset, .unset, .unset, .unset, .unset, .unset] [(.double (FP.ddiv (FP.i2d kk) (4652218415073722368 : UInt64))), (.double (FP.dmul (FP.i2d p0) sc))])) rfl (by rw [hml]; rfl) (argsL := [(.double (FP.dmul (FP.i2d p0) sc)), (.double (FP.ddiv (FP.i2d kk) (4652218415073722368 : UInt64)))]) (rest := []) (lenOf pd_0 rfl) rfl (by show 2 * 0 + _ ≤ _; exact Nat.le_of_eq rfl) (hb hby at_60) (fun _ _ => ⟨rfl, e0, (by decide : 0 + 0 ≤ _), (by decide : 0 + 0 ≤ _)⟩)
  dsimp only [Pt.U, Pt.locs, Pt.cells, Pt.slots] at X7 l7 y7 z7 st7 hQ7
  subst l7 y7 z7
  obtain ⟨rfl, Nq7, e7⟩ := hQ7
  have N7 := Fr.app N0 Nq7
  have pre8 : ∀ t, Steps p.tables e below (T7.setTop (mkF m 66 #[.val (.int p0), .val (.int p1), .val (.int p2), .val (.int kk), .val (.double (FP.ddiv (FP.i2d kk) (4652218415073722368 : UInt64))), .second, .val (.int ee), .val (.double sc), .second, .val (.double (FP.dmul (FP.i2d p0) sc)), .second, .unset, .unset, .unset, .unset, .unset, .unset] [(.double (FP.ddiv (FP.ddiv (FP.dadd (FP.dmul (FP.i2d p0) sc) (FP.dmul (FP.dmul (4600877379321698714 : UInt64) (FP.dmul (FP.i2d p0) sc)) (FP.ddiv (FP.i2d kk) (4652218415073722368 : UInt64)))) (4608983858650965606 : UInt64)) sc))])) t → Steps p.tables e below (s₁.setTop (mkF m 0 #[.val (.int p0), .val (.int p1), .val (.int p2), .unset, .unset, .unset, .unset, .unset, .unset, .unset, .unset, .unset, .unset, .unset, .unset, .unset, .unset] [])) t := fun t k => pre4 t (by
    show Steps p.tables e below (s₁.setTop (mkF m 47 #[.val (.int p0), .val (.int p1), .val (.int p2), .val (.int kk), .val (.double (FP.ddiv (FP.i2d kk) (4652218415073722368 : UInt64))), .second, .val (.int ee), .unset, .unset, .unset, .unset, .unset, .unset, .unset, .unset, .unset, .unset] [(.double sc)])) _
    refine XS.dstore X0.here hx rfl (hb hby at_47) rfl (l' := #[.val (.int p0), .val (.int p1), .val (.int p2), .val (.int kk), .val (.double (FP.ddiv (FP.i2d kk) (4652218415073722368 : UInt64))), .second, .val (.int ee), .val (.double sc), .second, .unset, .unset, .unset, .unset, .unset, .unset, .unset, .unset]) rfl ?_
    show Steps p.tables e below (s₁.setTop (mkF m 49 #[.val (.int p0), .val (.int p1), .val (.int p2), .val (.int kk), .val (.double (FP.ddiv (FP.i2d kk) (4652218415073722368 : UInt64))), .second, .val (.int ee), .val (.double sc), .second, .unset, .unset, .unset, .unset, .unset, .unset, .unset, .unset] [])) _
    refine XS.iloadN X0.here hx rfl (hb hby at_49) rfl ?_
    show Steps p.tables e below (s₁.setTop (mkF m 50 #[.val (.int p0), .val (.int p1), .val (.int p2), .val (.int kk), .val (.double (FP.ddiv (FP.i2d kk) (4652218415073722368 : UInt64))), .second, .val (.int ee), .val (.double sc), .second, .unset, .unset, .unset, .unset, .unset, .unset, .unset, .unset] [(.int p0)])) _
    refine XS.i2dS X0.here hx rfl (hb hby at_50) rfl rfl ?_
    show Steps p.tables e below (s₁.setTop (mkF m 51 #[.val (.int p0), .val (.int p1), .val (.int p2), .val (.int kk), .val (.double (FP.ddiv (FP.i2d kk) (4652218415073722368 : UInt64))), .second, .val (.int ee), .val (.double sc), .second, .unset, .unset, .unset, .unset, .unset, .unset, .unset, .unset] [(.double (FP.i2d p0))])) _
    refine XS.dload X0.here hx rfl (hb hby at_51) rfl ?_
    show Steps p.tables e below (s₁.setTop (mkF m 53 #[.val (.int p0), .val (.int p1), .val (.int p2), .val (.int kk), .val (.double (FP.ddiv (FP.i2d kk) (4652218415073722368 : UInt64))), .second, .val (.int ee), .val (.double sc), .second, .unset, .unset, .unset, .unset, .unset, .unset, .unset, .unset] [(.double sc), (.double (FP.i2d p0))])) _
    refine XS.dmulS X0.here hx rfl (hb hby at_53) rfl (own_nn hv2) rfl ?_
    show Steps p.tables e below (s₁.setTop (mkF m 54 #[.val (.int p0), .val (.int p1), .val (.int p2), .val (.int kk), .val (.double (FP.ddiv (FP.i2d kk) (4652218415073722368 : UInt64))), .second, .val (.int ee), .val (.double sc), .second, .unset, .unset, .unset, .unset, .unset, .unset, .unset, .unset] [(.double (FP.dmul (FP.i2d p0) sc))])) _
    refine XS.dstore X0.here hx rfl (hb hby at_54) rfl (l' := #[.val (.int p0), .val (.int p1), .val (.int p2), .val (.int kk), .val (.double (FP.ddiv (FP.i2d kk) (4652218415073722368 : UInt64))), .second, .val (.int ee), .val (.double sc), .second, .val (.double (FP.dmul (FP.i2d p0) sc)), .second, .unset, .unset, .unset, .unset, .unset, .unset]) rfl ?_
    show Steps p.tables e below (s₁.setTop (mkF m 56 #[.val (.int p0), .val (.int p1), .val (.int p2), .val (.int kk), .val (.double (FP.ddiv (FP.i2d kk) (4652218415073722368 : UInt64))), .second, .val (.int ee), .val (.double sc), .second, .val (.double (FP.dmul (FP.i2d p0) sc)), .second, .unset, .unset, .unset, .unset, .unset, .unset] [])) _
    refine XS.dload X0.here hx rfl (hb hby at_56) rfl ?_
    show Steps p.tables e below (s₁.setTop (mkF m 58 #[.val (.int p0), .val (.int p1), .val (.int p2), .val (.int kk), .val (.double (FP.ddiv (FP.i2d kk) (4652218415073722368 : UInt64))), .second, .val (.int ee), .val (.double sc), .second, .val (.double (FP.dmul (FP.i2d p0) sc)), .second, .unset, .unset, .unset, .unset, .unset, .unset] [(.double (FP.dmul (FP.i2d p0) sc))])) _
    refine XS.dload X0.here hx rfl (hb hby at_58) rfl ?_
    show Steps p.tables e below (s₁.setTop (mkF m 60 #[.val (.int p0), .val (.int p1), .val (.int p2), .val (.int kk), .val (.double (FP.ddiv (FP.i2d kk) (4652218415073722368 : UInt64))), .second, .val (.int ee), .val (.double sc), .second, .val (.double (FP.dmul (FP.i2d p0) sc)), .second, .unset, .unset, .unset, .unset, .unset, .unset] [(.double (FP.ddiv (FP.i2d kk) (4652218415073722368 : UInt64))), (.double (FP.dmul (FP.i2d p0) sc))])) _
    refine st7 _ ?_
    show Steps p.tables e below (T7.setTop (mkF m 63 #[.val (.int p0), .val (.int p1), .val (.int p2), .val (.int kk), .val (.double (FP.ddiv (FP.i2d kk) (4652218415073722368 : UInt64))), .second, .val (.int ee), .val (.double sc), .second, .val (.double (FP.dmul (FP.i2d p0) sc)), .second, .unset, .unset, .unset, .unset, .unset, .unset] [(.double (FP.ddiv (FP.dadd (FP.dmul (FP.i2d p0) sc) (FP.dmul (FP.dmul (4600877379321698714 : UInt64) (FP.dmul (FP.i2d p0) sc)) (FP.ddiv (FP.i2d kk) (4652218415073722368 : UInt64)))) (4608983858650965606 : UInt64)))])) _
    refine XS.dload X7.here hx rfl (hb hby at_63) rfl ?_
    show Steps p.tables e below (T7.setTop (mkF m 65 #[.val (.int p0), .val (.int p1), .val (.int p2), .val (.int kk), .val (.double (FP.ddiv (FP.i2d kk) (4652218415073722368 : UInt64))), .second, .val (.int ee), .val (.double sc), .second, .val (.double (FP.dmul (FP.i2d p0) sc)), .second, .unset, .unset, .unset, .unset, .unset, .unset] [(.double sc), (.double (FP.ddiv (FP.dadd (FP.dmul (FP.i2d p0) sc) (FP.dmul (FP.dmul (4600877379321698714 : UInt64) (FP.dmul (FP.i2d p0) sc)) (FP.ddiv (FP.i2d kk) (4652218415073722368 : UInt64)))) (4608983858650965606 : UInt64)))])) _
    refine XS.ddivS X7.here hx rfl (hb hby at_65) rfl (own_nn hρ) rfl ?_
    exact k)
  obtain ⟨rr, h_rr⟩ : ∃ z, z = (FP.ddiv (FP.ddiv (FP.dadd (FP.dmul (FP.i2d p0) sc) (FP.dmul (FP.dmul (4600877379321698714 : UInt64) (FP.dmul (FP.i2d p0) sc)) (FP.ddiv (FP.i2d kk) (4652218415073722368 : UInt64)))) (4608983858650965606 : UInt64)) sc) := ⟨_, rfl⟩
  rw [← h_rr] at pre8 hρ
  have pre9 : ∀ t, Steps p.tables e below (T7.setTop (mkF m 81 #[.val (.int p0), .val (.int p1), .val (.int p2), .val (.int kk), .val (.double (FP.ddiv (FP.i2d kk) (4652218415073722368 : UInt64))), .second, .val (.int ee), .val (.double sc), .second, .val (.double (FP.dmul (FP.i2d p0) sc)), .second, .val (.double rr), .second, .unset, .unset, .unset, .unset] [(.long ((p0.toInt64) * ((5120 : Int64) + ((2 : Int64) * (kk.toInt64)))))])) t → Steps p.tables e below (s₁.setTop (mkF m 0 #[.val (.int p0), .val (.int p1), .val (.int p2), .unset, .unset, .unset, .unset, .unset, .unset, .unset, .unset, .unset, .unset, .unset, .unset, .unset, .unset] [])) t := fun t k => pre8 t (by
    show Steps p.tables e below (T7.setTop (mkF m 66 #[.val (.int p0), .val (.int p1), .val (.int p2), .val (.int kk), .val (.double (FP.ddiv (FP.i2d kk) (4652218415073722368 : UInt64))), .second, .val (.int ee), .val (.double sc), .second, .val (.double (FP.dmul (FP.i2d p0) sc)), .second, .unset, .unset, .unset, .unset, .unset, .unset] [(.double rr)])) _
    refine XS.dstore X7.here hx rfl (hb hby at_66) rfl (l' := #[.val (.int p0), .val (.int p1), .val (.int p2), .val (.int kk), .val (.double (FP.ddiv (FP.i2d kk) (4652218415073722368 : UInt64))), .second, .val (.int ee), .val (.double sc), .second, .val (.double (FP.dmul (FP.i2d p0) sc)), .second, .val (.double rr), .second, .unset, .unset, .unset, .unset]) rfl ?_
    show Steps p.tables e below (T7.setTop (mkF m 68 #[.val (.int p0), .val (.int p1), .val (.int p2), .val (.int kk), .val (.double (FP.ddiv (FP.i2d kk) (4652218415073722368 : UInt64))), .second, .val (.int ee), .val (.double sc), .second, .val (.double (FP.dmul (FP.i2d p0) sc)), .second, .val (.double rr), .second, .unset, .unset, .unset, .unset] [])) _
    refine XS.iloadN X7.here hx rfl (hb hby at_68) rfl ?_
    show Steps p.tables e below (T7.setTop (mkF m 69 #[.val (.int p0), .val (.int p1), .val (.int p2), .val (.int kk), .val (.double (FP.ddiv (FP.i2d kk) (4652218415073722368 : UInt64))), .second, .val (.int ee), .val (.double sc), .second, .val (.double (FP.dmul (FP.i2d p0) sc)), .second, .val (.double rr), .second, .unset, .unset, .unset, .unset] [(.int p0)])) _
    refine XS.i2l X7.here hx rfl (hb hby at_69) rfl ?_
    show Steps p.tables e below (T7.setTop (mkF m 70 #[.val (.int p0), .val (.int p1), .val (.int p2), .val (.int kk), .val (.double (FP.ddiv (FP.i2d kk) (4652218415073722368 : UInt64))), .second, .val (.int ee), .val (.double sc), .second, .val (.double (FP.dmul (FP.i2d p0) sc)), .second, .val (.double rr), .second, .unset, .unset, .unset, .unset] [(.long (p0.toInt64))])) _
    refine X7.ldc2Long hx hown (mvT hZ (hw _ (List.mem_of_getElem? (i := 8) rfl))) (g := (mkF m 70 #[.val (.int p0), .val (.int p1), .val (.int p2), .val (.int kk), .val (.double (FP.ddiv (FP.i2d kk) (4652218415073722368 : UInt64))), .second, .val (.int ee), .val (.double sc), .second, .val (.double (FP.dmul (FP.i2d p0) sc)), .second, .val (.double rr), .second, .unset, .unset, .unset, .unset] [(.long (p0.toInt64))])) rfl (hb hby at_70) _ ?_
    show Steps p.tables e below (T7.setTop (mkF m 73 #[.val (.int p0), .val (.int p1), .val (.int p2), .val (.int kk), .val (.double (FP.ddiv (FP.i2d kk) (4652218415073722368 : UInt64))), .second, .val (.int ee), .val (.double sc), .second, .val (.double (FP.dmul (FP.i2d p0) sc)), .second, .val (.double rr), .second, .unset, .unset, .unset, .unset] [(.long (5120 : Int64)), (.long (p0.toInt64))])) _
    refine X7.ldc2Long hx hown (mvT hZ (hw _ (List.mem_of_getElem? (i := 9) rfl))) (g := (mkF m 73 #[.val (.int p0), .val (.int p1), .val (.int p2), .val (.int kk), .val (.double (FP.ddiv (FP.i2d kk) (4652218415073722368 : UInt64))), .second, .val (.int ee), .val (.double sc), .second, .val (.double (FP.dmul (FP.i2d p0) sc)), .second, .val (.double rr), .second, .unset, .unset, .unset, .unset] [(.long (5120 : Int64)), (.long (p0.toInt64))])) rfl (hb hby at_73) _ ?_
    show Steps p.tables e below (T7.setTop (mkF m 76 #[.val (.int p0), .val (.int p1), .val (.int p2), .val (.int kk), .val (.double (FP.ddiv (FP.i2d kk) (4652218415073722368 : UInt64))), .second, .val (.int ee), .val (.double sc), .second, .val (.double (FP.dmul (FP.i2d p0) sc)), .second, .val (.double rr), .second, .unset, .unset, .unset, .unset] [(.long (2 : Int64)), (.long (5120 : Int64)), (.long (p0.toInt64))])) _
    refine XS.iloadN X7.here hx rfl (hb hby at_76) rfl ?_
    show Steps p.tables e below (T7.setTop (mkF m 77 #[.val (.int p0), .val (.int p1), .val (.int p2), .val (.int kk), .val (.double (FP.ddiv (FP.i2d kk) (4652218415073722368 : UInt64))), .second, .val (.int ee), .val (.double sc), .second, .val (.double (FP.dmul (FP.i2d p0) sc)), .second, .val (.double rr), .second, .unset, .unset, .unset, .unset] [(.int kk), (.long (2 : Int64)), (.long (5120 : Int64)), (.long (p0.toInt64))])) _
    refine XS.i2l X7.here hx rfl (hb hby at_77) rfl ?_
    show Steps p.tables e below (T7.setTop (mkF m 78 #[.val (.int p0), .val (.int p1), .val (.int p2), .val (.int kk), .val (.double (FP.ddiv (FP.i2d kk) (4652218415073722368 : UInt64))), .second, .val (.int ee), .val (.double sc), .second, .val (.double (FP.dmul (FP.i2d p0) sc)), .second, .val (.double rr), .second, .unset, .unset, .unset, .unset] [(.long (kk.toInt64)), (.long (2 : Int64)), (.long (5120 : Int64)), (.long (p0.toInt64))])) _
    refine XS.lmul X7.here hx rfl (hb hby at_78) rfl ?_
    show Steps p.tables e below (T7.setTop (mkF m 79 #[.val (.int p0), .val (.int p1), .val (.int p2), .val (.int kk), .val (.double (FP.ddiv (FP.i2d kk) (4652218415073722368 : UInt64))), .second, .val (.int ee), .val (.double sc), .second, .val (.double (FP.dmul (FP.i2d p0) sc)), .second, .val (.double rr), .second, .unset, .unset, .unset, .unset] [(.long ((2 : Int64) * (kk.toInt64))), (.long (5120 : Int64)), (.long (p0.toInt64))])) _
    refine XS.ladd X7.here hx rfl (hb hby at_79) rfl ?_
    show Steps p.tables e below (T7.setTop (mkF m 80 #[.val (.int p0), .val (.int p1), .val (.int p2), .val (.int kk), .val (.double (FP.ddiv (FP.i2d kk) (4652218415073722368 : UInt64))), .second, .val (.int ee), .val (.double sc), .second, .val (.double (FP.dmul (FP.i2d p0) sc)), .second, .val (.double rr), .second, .unset, .unset, .unset, .unset] [(.long ((5120 : Int64) + ((2 : Int64) * (kk.toInt64)))), (.long (p0.toInt64))])) _
    refine XS.lmul X7.here hx rfl (hb hby at_80) rfl ?_
    exact k)
  obtain ⟨nm, h_nm⟩ : ∃ z, z = ((p0.toInt64) * ((5120 : Int64) + ((2 : Int64) * (kk.toInt64)))) := ⟨_, rfl⟩
  rw [← h_nm] at pre9
  have hnm := own_num p0 kk (by omega) (by omega)
  rw [← h_nm] at hnm
  obtain ⟨hnm, hN1, hN2⟩ := hnm
  rw [← hnm] at hN1 hN2
  rw [← own_castN, ← hnm] at hρ1 hρ2
  have cd := c_ldiv nm (7168 : Int64) 7168 rfl (by decide)
  have cr := c_lrem nm (7168 : Int64) 7168 rfl
  have cl1 := c_lcmp nm (0 : Int64)
  have cl2 := c_lcmp (nm - (nm / (7168 : Int64)) * (7168 : Int64)) (0 : Int64)
  have cs := c_lsub (nm / (7168 : Int64)) (1 : Int64)
  have crg := rng64 ((nm / (7168 : Int64)) - (1 : Int64))
  rw [show (0 : Int64).toInt = 0 from rfl] at cl1 cl2
  rw [show (1 : Int64).toInt = 1 from rfl] at cs
  have pre10 : ∀ t, Steps p.tables e below (T7.setTop (mkF m 83 #[.val (.int p0), .val (.int p1), .val (.int p2), .val (.int kk), .val (.double (FP.ddiv (FP.i2d kk) (4652218415073722368 : UInt64))), .second, .val (.int ee), .val (.double sc), .second, .val (.double (FP.dmul (FP.i2d p0) sc)), .second, .val (.double rr), .second, .val (.long nm), .second, .unset, .unset] [])) t → Steps p.tables e below (s₁.setTop (mkF m 0 #[.val (.int p0), .val (.int p1), .val (.int p2), .unset, .unset, .unset, .unset, .unset, .unset, .unset, .unset, .unset, .unset, .unset, .unset, .unset, .unset] [])) t := fun t k => pre9 t (by
    show Steps p.tables e below (T7.setTop (mkF m 81 #[.val (.int p0), .val (.int p1), .val (.int p2), .val (.int kk), .val (.double (FP.ddiv (FP.i2d kk) (4652218415073722368 : UInt64))), .second, .val (.int ee), .val (.double sc), .second, .val (.double (FP.dmul (FP.i2d p0) sc)), .second, .val (.double rr), .second, .unset, .unset, .unset, .unset] [(.long nm)])) _
    refine XS.lstore X7.here hx rfl (hb hby at_81) rfl (l' := #[.val (.int p0), .val (.int p1), .val (.int p2), .val (.int kk), .val (.double (FP.ddiv (FP.i2d kk) (4652218415073722368 : UInt64))), .second, .val (.int ee), .val (.double sc), .second, .val (.double (FP.dmul (FP.i2d p0) sc)), .second, .val (.double rr), .second, .val (.long nm), .second, .unset, .unset]) rfl ?_
    exact k)
  obtain ⟨qq, ⟨hq1, hq2⟩, pre11⟩ : ∃ (qq : Int64), (7168 * qq.toInt ≤ nm.toInt ∧ nm.toInt < 7168 * (qq.toInt + 1)) ∧ ∀ t, Steps p.tables e below (T7.setTop (mkF m 115 #[.val (.int p0), .val (.int p1), .val (.int p2), .val (.int kk), .val (.double (FP.ddiv (FP.i2d kk) (4652218415073722368 : UInt64))), .second, .val (.int ee), .val (.double sc), .second, .val (.double (FP.dmul (FP.i2d p0) sc)), .second, .val (.double rr), .second, .val (.long nm), .second, .val (.long qq), .second] [])) t → Steps p.tables e below (s₁.setTop (mkF m 0 #[.val (.int p0), .val (.int p1), .val (.int p2), .unset, .unset, .unset, .unset, .unset, .unset, .unset, .unset, .unset, .unset, .unset, .unset, .unset, .unset] [])) t := by
    have pre13 : ∀ t, Steps p.tables e below (T7.setTop (mkF m 95 #[.val (.int p0), .val (.int p1), .val (.int p2), .val (.int kk), .val (.double (FP.ddiv (FP.i2d kk) (4652218415073722368 : UInt64))), .second, .val (.int ee), .val (.double sc), .second, .val (.double (FP.dmul (FP.i2d p0) sc)), .second, .val (.double rr), .second, .val (.long nm), .second, .val (.long (nm / (7168 : Int64))), .second] [(.int (lcmpW nm (0 : Int64)))])) t → Steps p.tables e below (s₁.setTop (mkF m 0 #[.val (.int p0), .val (.int p1), .val (.int p2), .unset, .unset, .unset, .unset, .unset, .unset, .unset, .unset, .unset, .unset, .unset, .unset, .unset, .unset] [])) t := fun t k => pre10 t (by
      show Steps p.tables e below (T7.setTop (mkF m 83 #[.val (.int p0), .val (.int p1), .val (.int p2), .val (.int kk), .val (.double (FP.ddiv (FP.i2d kk) (4652218415073722368 : UInt64))), .second, .val (.int ee), .val (.double sc), .second, .val (.double (FP.dmul (FP.i2d p0) sc)), .second, .val (.double rr), .second, .val (.long nm), .second, .unset, .unset] [])) _
      refine XS.lload X7.here hx rfl (hb hby at_83) rfl ?_
      show Steps p.tables e below (T7.setTop (mkF m 85 #[.val (.int p0), .val (.int p1), .val (.int p2), .val (.int kk), .val (.double (FP.ddiv (FP.i2d kk) (4652218415073722368 : UInt64))), .second, .val (.int ee), .val (.double sc), .second, .val (.double (FP.dmul (FP.i2d p0) sc)), .second, .val (.double rr), .second, .val (.long nm), .second, .unset, .unset] [(.long nm)])) _
      refine X7.ldc2Long hx hown (mvT hZ (hw _ (List.mem_of_getElem? (i := 10) rfl))) (g := (mkF m 85 #[.val (.int p0), .val (.int p1), .val (.int p2), .val (.int kk), .val (.double (FP.ddiv (FP.i2d kk) (4652218415073722368 : UInt64))), .second, .val (.int ee), .val (.double sc), .second, .val (.double (FP.dmul (FP.i2d p0) sc)), .second, .val (.double rr), .second, .val (.long nm), .second, .unset, .unset] [(.long nm)])) rfl (hb hby at_85) _ ?_
      show Steps p.tables e below (T7.setTop (mkF m 88 #[.val (.int p0), .val (.int p1), .val (.int p2), .val (.int kk), .val (.double (FP.ddiv (FP.i2d kk) (4652218415073722368 : UInt64))), .second, .val (.int ee), .val (.double sc), .second, .val (.double (FP.dmul (FP.i2d p0) sc)), .second, .val (.double rr), .second, .val (.long nm), .second, .unset, .unset] [(.long (7168 : Int64)), (.long nm)])) _
      refine XS.ldiv X7.here hx rfl (hb hby at_88) rfl (by decide) ?_
      show Steps p.tables e below (T7.setTop (mkF m 89 #[.val (.int p0), .val (.int p1), .val (.int p2), .val (.int kk), .val (.double (FP.ddiv (FP.i2d kk) (4652218415073722368 : UInt64))), .second, .val (.int ee), .val (.double sc), .second, .val (.double (FP.dmul (FP.i2d p0) sc)), .second, .val (.double rr), .second, .val (.long nm), .second, .unset, .unset] [(.long (nm / (7168 : Int64)))])) _
      refine XS.lstore X7.here hx rfl (hb hby at_89) rfl (l' := #[.val (.int p0), .val (.int p1), .val (.int p2), .val (.int kk), .val (.double (FP.ddiv (FP.i2d kk) (4652218415073722368 : UInt64))), .second, .val (.int ee), .val (.double sc), .second, .val (.double (FP.dmul (FP.i2d p0) sc)), .second, .val (.double rr), .second, .val (.long nm), .second, .val (.long (nm / (7168 : Int64))), .second]) rfl ?_
      show Steps p.tables e below (T7.setTop (mkF m 91 #[.val (.int p0), .val (.int p1), .val (.int p2), .val (.int kk), .val (.double (FP.ddiv (FP.i2d kk) (4652218415073722368 : UInt64))), .second, .val (.int ee), .val (.double sc), .second, .val (.double (FP.dmul (FP.i2d p0) sc)), .second, .val (.double rr), .second, .val (.long nm), .second, .val (.long (nm / (7168 : Int64))), .second] [])) _
      refine XS.lload X7.here hx rfl (hb hby at_91) rfl ?_
      show Steps p.tables e below (T7.setTop (mkF m 93 #[.val (.int p0), .val (.int p1), .val (.int p2), .val (.int kk), .val (.double (FP.ddiv (FP.i2d kk) (4652218415073722368 : UInt64))), .second, .val (.int ee), .val (.double sc), .second, .val (.double (FP.dmul (FP.i2d p0) sc)), .second, .val (.double rr), .second, .val (.long nm), .second, .val (.long (nm / (7168 : Int64))), .second] [(.long nm)])) _
      refine XS.lconst X7.here hx rfl (hb hby at_93) ?_
      show Steps p.tables e below (T7.setTop (mkF m 94 #[.val (.int p0), .val (.int p1), .val (.int p2), .val (.int kk), .val (.double (FP.ddiv (FP.i2d kk) (4652218415073722368 : UInt64))), .second, .val (.int ee), .val (.double sc), .second, .val (.double (FP.dmul (FP.i2d p0) sc)), .second, .val (.double rr), .second, .val (.long nm), .second, .val (.long (nm / (7168 : Int64))), .second] [(.long (0 : Int64)), (.long nm)])) _
      refine XS.lcmp X7.here hx rfl (hb hby at_94) rfl ?_
      exact k)
    by_cases hc12 : (lcmpW nm (0 : Int64)) < (0 : Int32)
    · skip
      have ohc12 : (lcmpW nm (0 : Int64)).toInt < 0 := own_lt.mp hc12
      have pre15 : ∀ t, Steps p.tables e below (T7.setTop (mkF m 106 #[.val (.int p0), .val (.int p1), .val (.int p2), .val (.int kk), .val (.double (FP.ddiv (FP.i2d kk) (4652218415073722368 : UInt64))), .second, .val (.int ee), .val (.double sc), .second, .val (.double (FP.dmul (FP.i2d p0) sc)), .second, .val (.double rr), .second, .val (.long nm), .second, .val (.long (nm / (7168 : Int64))), .second] [(.int (lcmpW (nm - (nm / (7168 : Int64)) * (7168 : Int64)) (0 : Int64)))])) t → Steps p.tables e below (s₁.setTop (mkF m 0 #[.val (.int p0), .val (.int p1), .val (.int p2), .unset, .unset, .unset, .unset, .unset, .unset, .unset, .unset, .unset, .unset, .unset, .unset, .unset, .unset] [])) t := fun t k => pre13 t (by
        show Steps p.tables e below (T7.setTop (mkF m 95 #[.val (.int p0), .val (.int p1), .val (.int p2), .val (.int kk), .val (.double (FP.ddiv (FP.i2d kk) (4652218415073722368 : UInt64))), .second, .val (.int ee), .val (.double sc), .second, .val (.double (FP.dmul (FP.i2d p0) sc)), .second, .val (.double rr), .second, .val (.long nm), .second, .val (.long (nm / (7168 : Int64))), .second] [(.int (lcmpW nm (0 : Int64)))])) _
        refine XS.ifNo X7.here hx rfl (hb hby at_95) rfl ((if0 _ _).trans (tlt hc12).2.1) ?_
        show Steps p.tables e below (T7.setTop (mkF m 98 #[.val (.int p0), .val (.int p1), .val (.int p2), .val (.int kk), .val (.double (FP.ddiv (FP.i2d kk) (4652218415073722368 : UInt64))), .second, .val (.int ee), .val (.double sc), .second, .val (.double (FP.dmul (FP.i2d p0) sc)), .second, .val (.double rr), .second, .val (.long nm), .second, .val (.long (nm / (7168 : Int64))), .second] [])) _
        refine XS.lload X7.here hx rfl (hb hby at_98) rfl ?_
        show Steps p.tables e below (T7.setTop (mkF m 100 #[.val (.int p0), .val (.int p1), .val (.int p2), .val (.int kk), .val (.double (FP.ddiv (FP.i2d kk) (4652218415073722368 : UInt64))), .second, .val (.int ee), .val (.double sc), .second, .val (.double (FP.dmul (FP.i2d p0) sc)), .second, .val (.double rr), .second, .val (.long nm), .second, .val (.long (nm / (7168 : Int64))), .second] [(.long nm)])) _
        refine X7.ldc2Long hx hown (mvT hZ (hw _ (List.mem_of_getElem? (i := 10) rfl))) (g := (mkF m 100 #[.val (.int p0), .val (.int p1), .val (.int p2), .val (.int kk), .val (.double (FP.ddiv (FP.i2d kk) (4652218415073722368 : UInt64))), .second, .val (.int ee), .val (.double sc), .second, .val (.double (FP.dmul (FP.i2d p0) sc)), .second, .val (.double rr), .second, .val (.long nm), .second, .val (.long (nm / (7168 : Int64))), .second] [(.long nm)])) rfl (hb hby at_100) _ ?_
        show Steps p.tables e below (T7.setTop (mkF m 103 #[.val (.int p0), .val (.int p1), .val (.int p2), .val (.int kk), .val (.double (FP.ddiv (FP.i2d kk) (4652218415073722368 : UInt64))), .second, .val (.int ee), .val (.double sc), .second, .val (.double (FP.dmul (FP.i2d p0) sc)), .second, .val (.double rr), .second, .val (.long nm), .second, .val (.long (nm / (7168 : Int64))), .second] [(.long (7168 : Int64)), (.long nm)])) _
        refine XS.lrem X7.here hx rfl (hb hby at_103) rfl (by decide) ?_
        show Steps p.tables e below (T7.setTop (mkF m 104 #[.val (.int p0), .val (.int p1), .val (.int p2), .val (.int kk), .val (.double (FP.ddiv (FP.i2d kk) (4652218415073722368 : UInt64))), .second, .val (.int ee), .val (.double sc), .second, .val (.double (FP.dmul (FP.i2d p0) sc)), .second, .val (.double rr), .second, .val (.long nm), .second, .val (.long (nm / (7168 : Int64))), .second] [(.long (nm - (nm / (7168 : Int64)) * (7168 : Int64)))])) _
        refine XS.lconst X7.here hx rfl (hb hby at_104) ?_
        show Steps p.tables e below (T7.setTop (mkF m 105 #[.val (.int p0), .val (.int p1), .val (.int p2), .val (.int kk), .val (.double (FP.ddiv (FP.i2d kk) (4652218415073722368 : UInt64))), .second, .val (.int ee), .val (.double sc), .second, .val (.double (FP.dmul (FP.i2d p0) sc)), .second, .val (.double rr), .second, .val (.long nm), .second, .val (.long (nm / (7168 : Int64))), .second] [(.long (0 : Int64)), (.long (nm - (nm / (7168 : Int64)) * (7168 : Int64)))])) _
        refine XS.lcmp X7.here hx rfl (hb hby at_105) rfl ?_
        exact k)
      by_cases hc14 : (lcmpW (nm - (nm / (7168 : Int64)) * (7168 : Int64)) (0 : Int64)) = (0 : Int32)
      · skip
        have ohc14 : (lcmpW (nm - (nm / (7168 : Int64)) * (7168 : Int64)) (0 : Int64)).toInt = 0 := own_eq.mp hc14
        refine ⟨(nm / (7168 : Int64)), ?_, fun t k => pre15 t ?_⟩
        · constructor <;> omega
        · skip
          show Steps p.tables e below (T7.setTop (mkF m 106 #[.val (.int p0), .val (.int p1), .val (.int p2), .val (.int kk), .val (.double (FP.ddiv (FP.i2d kk) (4652218415073722368 : UInt64))), .second, .val (.int ee), .val (.double sc), .second, .val (.double (FP.dmul (FP.i2d p0) sc)), .second, .val (.double rr), .second, .val (.long nm), .second, .val (.long (nm / (7168 : Int64))), .second] [(.int (lcmpW (nm - (nm / (7168 : Int64)) * (7168 : Int64)) (0 : Int64)))])) _
          refine XS.ifYes X7.here hx rfl (pc0 := 106) (pc' := 115) rfl (hb hby at_106) rfl ((if0 _ _).trans (teq hc14).1) (by decide) (by decide) ?_
          exact k
      · skip
        have ohc14 : ¬ ((lcmpW (nm - (nm / (7168 : Int64)) * (7168 : Int64)) (0 : Int64)).toInt = 0) := own_neq.mp hc14
        refine ⟨((nm / (7168 : Int64)) - (1 : Int64)), ?_, fun t k => pre15 t ?_⟩
        · constructor <;> omega
        · skip
          show Steps p.tables e below (T7.setTop (mkF m 106 #[.val (.int p0), .val (.int p1), .val (.int p2), .val (.int kk), .val (.double (FP.ddiv (FP.i2d kk) (4652218415073722368 : UInt64))), .second, .val (.int ee), .val (.double sc), .second, .val (.double (FP.dmul (FP.i2d p0) sc)), .second, .val (.double rr), .second, .val (.long nm), .second, .val (.long (nm / (7168 : Int64))), .second] [(.int (lcmpW (nm - (nm / (7168 : Int64)) * (7168 : Int64)) (0 : Int64)))])) _
          refine XS.ifNo X7.here hx rfl (hb hby at_106) rfl ((if0 _ _).trans (feq hc14).1) ?_
          show Steps p.tables e below (T7.setTop (mkF m 109 #[.val (.int p0), .val (.int p1), .val (.int p2), .val (.int kk), .val (.double (FP.ddiv (FP.i2d kk) (4652218415073722368 : UInt64))), .second, .val (.int ee), .val (.double sc), .second, .val (.double (FP.dmul (FP.i2d p0) sc)), .second, .val (.double rr), .second, .val (.long nm), .second, .val (.long (nm / (7168 : Int64))), .second] [])) _
          refine XS.lload X7.here hx rfl (hb hby at_109) rfl ?_
          show Steps p.tables e below (T7.setTop (mkF m 111 #[.val (.int p0), .val (.int p1), .val (.int p2), .val (.int kk), .val (.double (FP.ddiv (FP.i2d kk) (4652218415073722368 : UInt64))), .second, .val (.int ee), .val (.double sc), .second, .val (.double (FP.dmul (FP.i2d p0) sc)), .second, .val (.double rr), .second, .val (.long nm), .second, .val (.long (nm / (7168 : Int64))), .second] [(.long (nm / (7168 : Int64)))])) _
          refine XS.lconst X7.here hx rfl (hb hby at_111) ?_
          show Steps p.tables e below (T7.setTop (mkF m 112 #[.val (.int p0), .val (.int p1), .val (.int p2), .val (.int kk), .val (.double (FP.ddiv (FP.i2d kk) (4652218415073722368 : UInt64))), .second, .val (.int ee), .val (.double sc), .second, .val (.double (FP.dmul (FP.i2d p0) sc)), .second, .val (.double rr), .second, .val (.long nm), .second, .val (.long (nm / (7168 : Int64))), .second] [(.long (1 : Int64)), (.long (nm / (7168 : Int64)))])) _
          refine XS.lsub X7.here hx rfl (hb hby at_112) rfl ?_
          show Steps p.tables e below (T7.setTop (mkF m 113 #[.val (.int p0), .val (.int p1), .val (.int p2), .val (.int kk), .val (.double (FP.ddiv (FP.i2d kk) (4652218415073722368 : UInt64))), .second, .val (.int ee), .val (.double sc), .second, .val (.double (FP.dmul (FP.i2d p0) sc)), .second, .val (.double rr), .second, .val (.long nm), .second, .val (.long (nm / (7168 : Int64))), .second] [(.long ((nm / (7168 : Int64)) - (1 : Int64)))])) _
          refine XS.lstore X7.here hx rfl (hb hby at_113) rfl (l' := #[.val (.int p0), .val (.int p1), .val (.int p2), .val (.int kk), .val (.double (FP.ddiv (FP.i2d kk) (4652218415073722368 : UInt64))), .second, .val (.int ee), .val (.double sc), .second, .val (.double (FP.dmul (FP.i2d p0) sc)), .second, .val (.double rr), .second, .val (.long nm), .second, .val (.long ((nm / (7168 : Int64)) - (1 : Int64))), .second]) rfl ?_
          exact k
    · skip
      have ohc12 : 0 ≤ (lcmpW nm (0 : Int64)).toInt := own_nlt.mp hc12
      refine ⟨(nm / (7168 : Int64)), ?_, fun t k => pre13 t ?_⟩
      · constructor <;> omega
      · skip
        show Steps p.tables e below (T7.setTop (mkF m 95 #[.val (.int p0), .val (.int p1), .val (.int p2), .val (.int kk), .val (.double (FP.ddiv (FP.i2d kk) (4652218415073722368 : UInt64))), .second, .val (.int ee), .val (.double sc), .second, .val (.double (FP.dmul (FP.i2d p0) sc)), .second, .val (.double rr), .second, .val (.long nm), .second, .val (.long (nm / (7168 : Int64))), .second] [(.int (lcmpW nm (0 : Int64)))])) _
        refine XS.ifYes X7.here hx rfl (pc0 := 95) (pc' := 115) rfl (hb hby at_95) rfl ((if0 _ _).trans (flt hc12).2.1) (by decide) (by decide) ?_
        exact k
  obtain ⟨⟨w1, hw1⟩, ⟨w2, hw2⟩, hc1, hc2⟩ := own_final qq rr hρ (by omega) (by omega) hq1 hq2 hρ1 hρ2
  have hc16 : ¬ ((0 : Int32) < (cmpValue (FP.dcmp (FP.dsub (FP.l2d qq) (4602678819172646912 : UInt64)) rr) .g)) := own_nlt.mpr (show _ ≤ (0 : Int) from hc1)
  have ohc16 : (cmpValue (FP.dcmp (FP.dsub (FP.l2d qq) (4602678819172646912 : UInt64)) rr) .g).toInt ≤ 0 := own_nlt.mp hc16
  have hc17 : ¬ ((0 : Int32) < (cmpValue (FP.dcmp rr (FP.dadd (FP.l2d qq) (4609434218613702656 : UInt64))) .g)) := own_nlt.mpr (show _ ≤ (0 : Int) from hc2)
  have ohc17 : (cmpValue (FP.dcmp rr (FP.dadd (FP.l2d qq) (4609434218613702656 : UInt64))) .g).toInt ≤ 0 := own_nlt.mp hc17
  obtain ⟨fs, hr, hrun, hended, hW, hsame⟩ := X7.leave (v := some (.int (1 : Int32))) (fun h => by rw [Bd.returns] at h; cases h)
  refine ⟨_, _, pre0 _ (pre11 _ ?_), hrun, hended, _, _, rfl, ?_, ⟨_, rfl⟩, hW, hsame.mono (by decide) (by decide)⟩
  · skip
    show Steps p.tables e below (T7.setTop (mkF m 115 #[.val (.int p0), .val (.int p1), .val (.int p2), .val (.int kk), .val (.double (FP.ddiv (FP.i2d kk) (4652218415073722368 : UInt64))), .second, .val (.int ee), .val (.double sc), .second, .val (.double (FP.dmul (FP.i2d p0) sc)), .second, .val (.double rr), .second, .val (.long nm), .second, .val (.long qq), .second] [])) _
    refine XS.lload X7.here hx rfl (hb hby at_115) rfl ?_
    show Steps p.tables e below (T7.setTop (mkF m 117 #[.val (.int p0), .val (.int p1), .val (.int p2), .val (.int kk), .val (.double (FP.ddiv (FP.i2d kk) (4652218415073722368 : UInt64))), .second, .val (.int ee), .val (.double sc), .second, .val (.double (FP.dmul (FP.i2d p0) sc)), .second, .val (.double rr), .second, .val (.long nm), .second, .val (.long qq), .second] [(.long qq)])) _
    refine XS.l2dS X7.here hx rfl (hb hby at_117) rfl rfl ?_
    show Steps p.tables e below (T7.setTop (mkF m 118 #[.val (.int p0), .val (.int p1), .val (.int p2), .val (.int kk), .val (.double (FP.ddiv (FP.i2d kk) (4652218415073722368 : UInt64))), .second, .val (.int ee), .val (.double sc), .second, .val (.double (FP.dmul (FP.i2d p0) sc)), .second, .val (.double rr), .second, .val (.long nm), .second, .val (.long qq), .second] [(.double (FP.l2d qq))])) _
    refine X7.ldc2DoubleC hx hown (mvT hZ (hw _ (List.mem_of_getElem? (i := 11) rfl))) (g := (mkF m 118 #[.val (.int p0), .val (.int p1), .val (.int p2), .val (.int kk), .val (.double (FP.ddiv (FP.i2d kk) (4652218415073722368 : UInt64))), .second, .val (.int ee), .val (.double sc), .second, .val (.double (FP.dmul (FP.i2d p0) sc)), .second, .val (.double rr), .second, .val (.long nm), .second, .val (.long qq), .second] [(.double (FP.l2d qq))])) rfl (hb hby at_118) _ ?_
    show Steps p.tables e below (T7.setTop (mkF m 121 #[.val (.int p0), .val (.int p1), .val (.int p2), .val (.int kk), .val (.double (FP.ddiv (FP.i2d kk) (4652218415073722368 : UInt64))), .second, .val (.int ee), .val (.double sc), .second, .val (.double (FP.dmul (FP.i2d p0) sc)), .second, .val (.double rr), .second, .val (.long nm), .second, .val (.long qq), .second] [(.double (4602678819172646912 : UInt64)), (.double (FP.l2d qq))])) _
    refine XS.dsubS X7.here hx rfl (hb hby at_121) rfl (own_nn hw1) rfl ?_
    show Steps p.tables e below (T7.setTop (mkF m 122 #[.val (.int p0), .val (.int p1), .val (.int p2), .val (.int kk), .val (.double (FP.ddiv (FP.i2d kk) (4652218415073722368 : UInt64))), .second, .val (.int ee), .val (.double sc), .second, .val (.double (FP.dmul (FP.i2d p0) sc)), .second, .val (.double rr), .second, .val (.long nm), .second, .val (.long qq), .second] [(.double (FP.dsub (FP.l2d qq) (4602678819172646912 : UInt64)))])) _
    refine XS.dload X7.here hx rfl (hb hby at_122) rfl ?_
    show Steps p.tables e below (T7.setTop (mkF m 124 #[.val (.int p0), .val (.int p1), .val (.int p2), .val (.int kk), .val (.double (FP.ddiv (FP.i2d kk) (4652218415073722368 : UInt64))), .second, .val (.int ee), .val (.double sc), .second, .val (.double (FP.dmul (FP.i2d p0) sc)), .second, .val (.double rr), .second, .val (.long nm), .second, .val (.long qq), .second] [(.double rr), (.double (FP.dsub (FP.l2d qq) (4602678819172646912 : UInt64)))])) _
    refine XS.dcmpS X7.here hx rfl (hb hby at_124) rfl rfl ?_
    show Steps p.tables e below (T7.setTop (mkF m 125 #[.val (.int p0), .val (.int p1), .val (.int p2), .val (.int kk), .val (.double (FP.ddiv (FP.i2d kk) (4652218415073722368 : UInt64))), .second, .val (.int ee), .val (.double sc), .second, .val (.double (FP.dmul (FP.i2d p0) sc)), .second, .val (.double rr), .second, .val (.long nm), .second, .val (.long qq), .second] [(.int (cmpValue (FP.dcmp (FP.dsub (FP.l2d qq) (4602678819172646912 : UInt64)) rr) .g))])) _
    refine XS.ifNo X7.here hx rfl (hb hby at_125) rfl ((if0 _ _).trans (flt hc16).2.2.1) ?_
    show Steps p.tables e below (T7.setTop (mkF m 128 #[.val (.int p0), .val (.int p1), .val (.int p2), .val (.int kk), .val (.double (FP.ddiv (FP.i2d kk) (4652218415073722368 : UInt64))), .second, .val (.int ee), .val (.double sc), .second, .val (.double (FP.dmul (FP.i2d p0) sc)), .second, .val (.double rr), .second, .val (.long nm), .second, .val (.long qq), .second] [])) _
    refine XS.dload X7.here hx rfl (hb hby at_128) rfl ?_
    show Steps p.tables e below (T7.setTop (mkF m 130 #[.val (.int p0), .val (.int p1), .val (.int p2), .val (.int kk), .val (.double (FP.ddiv (FP.i2d kk) (4652218415073722368 : UInt64))), .second, .val (.int ee), .val (.double sc), .second, .val (.double (FP.dmul (FP.i2d p0) sc)), .second, .val (.double rr), .second, .val (.long nm), .second, .val (.long qq), .second] [(.double rr)])) _
    refine XS.lload X7.here hx rfl (hb hby at_130) rfl ?_
    show Steps p.tables e below (T7.setTop (mkF m 132 #[.val (.int p0), .val (.int p1), .val (.int p2), .val (.int kk), .val (.double (FP.ddiv (FP.i2d kk) (4652218415073722368 : UInt64))), .second, .val (.int ee), .val (.double sc), .second, .val (.double (FP.dmul (FP.i2d p0) sc)), .second, .val (.double rr), .second, .val (.long nm), .second, .val (.long qq), .second] [(.long qq), (.double rr)])) _
    refine XS.l2dS X7.here hx rfl (hb hby at_132) rfl rfl ?_
    show Steps p.tables e below (T7.setTop (mkF m 133 #[.val (.int p0), .val (.int p1), .val (.int p2), .val (.int kk), .val (.double (FP.ddiv (FP.i2d kk) (4652218415073722368 : UInt64))), .second, .val (.int ee), .val (.double sc), .second, .val (.double (FP.dmul (FP.i2d p0) sc)), .second, .val (.double rr), .second, .val (.long nm), .second, .val (.long qq), .second] [(.double (FP.l2d qq)), (.double rr)])) _
    refine X7.ldc2DoubleC hx hown (mvT hZ (hw _ (List.mem_of_getElem? (i := 12) rfl))) (g := (mkF m 133 #[.val (.int p0), .val (.int p1), .val (.int p2), .val (.int kk), .val (.double (FP.ddiv (FP.i2d kk) (4652218415073722368 : UInt64))), .second, .val (.int ee), .val (.double sc), .second, .val (.double (FP.dmul (FP.i2d p0) sc)), .second, .val (.double rr), .second, .val (.long nm), .second, .val (.long qq), .second] [(.double (FP.l2d qq)), (.double rr)])) rfl (hb hby at_133) _ ?_
    show Steps p.tables e below (T7.setTop (mkF m 136 #[.val (.int p0), .val (.int p1), .val (.int p2), .val (.int kk), .val (.double (FP.ddiv (FP.i2d kk) (4652218415073722368 : UInt64))), .second, .val (.int ee), .val (.double sc), .second, .val (.double (FP.dmul (FP.i2d p0) sc)), .second, .val (.double rr), .second, .val (.long nm), .second, .val (.long qq), .second] [(.double (4609434218613702656 : UInt64)), (.double (FP.l2d qq)), (.double rr)])) _
    refine XS.daddS X7.here hx rfl (hb hby at_136) rfl (own_nn hw2) rfl ?_
    show Steps p.tables e below (T7.setTop (mkF m 137 #[.val (.int p0), .val (.int p1), .val (.int p2), .val (.int kk), .val (.double (FP.ddiv (FP.i2d kk) (4652218415073722368 : UInt64))), .second, .val (.int ee), .val (.double sc), .second, .val (.double (FP.dmul (FP.i2d p0) sc)), .second, .val (.double rr), .second, .val (.long nm), .second, .val (.long qq), .second] [(.double (FP.dadd (FP.l2d qq) (4609434218613702656 : UInt64))), (.double rr)])) _
    refine XS.dcmpS X7.here hx rfl (hb hby at_137) rfl rfl ?_
    show Steps p.tables e below (T7.setTop (mkF m 138 #[.val (.int p0), .val (.int p1), .val (.int p2), .val (.int kk), .val (.double (FP.ddiv (FP.i2d kk) (4652218415073722368 : UInt64))), .second, .val (.int ee), .val (.double sc), .second, .val (.double (FP.dmul (FP.i2d p0) sc)), .second, .val (.double rr), .second, .val (.long nm), .second, .val (.long qq), .second] [(.int (cmpValue (FP.dcmp rr (FP.dadd (FP.l2d qq) (4609434218613702656 : UInt64))) .g))])) _
    refine XS.ifNo X7.here hx rfl (hb hby at_138) rfl ((if0 _ _).trans (flt hc17).2.2.1) ?_
    show Steps p.tables e below (T7.setTop (mkF m 141 #[.val (.int p0), .val (.int p1), .val (.int p2), .val (.int kk), .val (.double (FP.ddiv (FP.i2d kk) (4652218415073722368 : UInt64))), .second, .val (.int ee), .val (.double sc), .second, .val (.double (FP.dmul (FP.i2d p0) sc)), .second, .val (.double rr), .second, .val (.long nm), .second, .val (.long qq), .second] [])) _
    refine XS.iconst X7.here hx rfl (hb hby at_141) ?_
    show Steps p.tables e below (T7.setTop (mkF m 142 #[.val (.int p0), .val (.int p1), .val (.int p2), .val (.int kk), .val (.double (FP.ddiv (FP.i2d kk) (4652218415073722368 : UInt64))), .second, .val (.int ee), .val (.double sc), .second, .val (.double (FP.dmul (FP.i2d p0) sc)), .second, .val (.double rr), .second, .val (.long nm), .second, .val (.long qq), .second] [(.int (1 : Int32))])) _
    refine XS.goto X7.here hx rfl (pc0 := 142) (pc' := 146) rfl (hb hby at_142) (by decide) (by decide) ?_
    show Steps p.tables e below (T7.setTop (mkF m 146 #[.val (.int p0), .val (.int p1), .val (.int p2), .val (.int kk), .val (.double (FP.ddiv (FP.i2d kk) (4652218415073722368 : UInt64))), .second, .val (.int ee), .val (.double sc), .second, .val (.double (FP.dmul (FP.i2d p0) sc)), .second, .val (.double rr), .second, .val (.long nm), .second, .val (.long qq), .second] [(.int (1 : Int32))])) _
    exact retN X7 hx (t := .boolean) Bd.returns (by simp) (hb hby at_146) hr
  · show Q0 Z p0 p1 p2 h0 n0 _ T7.heap _
    rw [e7]
    exact ⟨rfl, N7⟩
set_option maxRecDepth 65536 in
set_option maxHeartbeats 40000000 in
theorem comes_1 {Post : Tables → Env → Array Value → State → Outcome → State → Prop} (hpost : ∀ tb e args s v u, (limb_1_1.after args s (.returned v) u = true ∧ limb_1_2.after args s (.returned v) u = true ∧ True) → FrameEnd s (.returned v) u (Jvm.fieldLocs frame_1_writes args s ++ Jvm.arrayLocs frame_1_arrays args s ++ Jvm.staticLocs frame_1_statics s) 0 0 → Post tb e args s (.returned v) u) :
    ArmFor flags0 classFile x code maxLocals ret World_1 tables_1 room_1 Calls_1 rest_1 Pre_1 Post := by
  intro l hfl _ _ p e ha hc hk s m args below hf hA hF happ hP
  obtain ⟨hcalls, hrest, hpre⟩ := hP
  obtain ⟨-, -, -, hnamed, -, -, -, hat⟩ := (Spec.applies_iff hf).mp happ
  obtain ⟨hg, hn⟩ := and_e (Cond.before_iff.mp (show (Jvm.Cond.and given_1 narrow_1).before args s = true from hpre))
  obtain ⟨g1, g2⟩ := and_e hg
  obtain ⟨g3, g4⟩ := and_e g2
  obtain ⟨g5, g6⟩ := and_e g4
  obtain ⟨w0, w1, w2, rfl⟩ : ∃ w0 w1 w2 : Value, args = #[w0, w1, w2] := by
    have hs : args.size = 3 := by simpa [Cond.value, given_1] using g1
    obtain ⟨L⟩ := args
    match L, hs with
    | [w0, w1, w2], _ => exact ⟨w0, w1, w2, rfl⟩
  have hw := fun d (hd : d ∈ tables_1) => atoms_spec (ws := Jvm.Cond.code x code maxLocals ret :: tables_1) hat d (List.mem_cons_of_mem _ hd)
  have hfit : Fit s := fun {y c} hc i hi => by
    obtain ⟨ha, rfl⟩ := Array.getElem?_eq_some_iff.mp hc
    have q := List.all_eq_true.mp ((Array.all_eq_true_iff_forall_mem.mp hF) _ (Array.getElem_mem ha)) i (List.mem_range.mpr hi)
    simpa [Array.getElem?_eq_getElem hi] using q
  obtain ⟨i0, ei0⟩ := is_v g3
  obtain rfl : w0 = (.int i0) := Option.some.inj ei0
  obtain ⟨i1, ei1⟩ := is_v g5
  obtain rfl : w1 = (.int i1) := Option.some.inj ei1
  obtain ⟨i2, ei2⟩ := is_v g6
  obtain rfl : w2 = (.int i2) := Option.some.inj ei2
  obtain ⟨n, o, h1, h2, h3, _, L, rfl, ⟨rfl, N⟩, hq⟩ := rm0 l s _ hw tables_1 i0 i1 i2  s.heap s.heap.size (Nat.le_refl _)  p e ha hc hk s m _ below hf ((Spec.applies_iff_loose hf).mp happ).1 ⟨rfl, State.Warmed39.refl s, rfl⟩ trivial
  refine ⟨n, _, h1, h2, h3, hpost _ _ _ _ _ _ ⟨Cond.after_iff.mpr rfl, Cond.after_iff.mpr (eq_i res_at (Term.int_eval (1)) rfl), trivial⟩ ⟨hq.1, hq.2.1, (hq.2.2.sift fun y hy => Or.inr (N y hy)).mono (by decide) (by decide)⟩⟩
theorem main_1_1 : Claimed_1_1 := comes_1 fun _ _ _ _ _ _ h hF => ⟨h.1, hF⟩
theorem main_1_2 : Claimed_1_2 := comes_1 fun _ _ _ _ _ _ h hF => ⟨h.2.1, hF⟩
end Jvm.Pilot.@@N@@
namespace Jvm.Pilot.@@N@@
open Jvm Jvm.ClassFile Sem Op Lib Jvm.Free Jvm.Stand Jvm.Pilot.@@N@@.Jvm.D
/-! MADE BY PROGRAM (witnessworld.py) out of the Statement's table words and the real class files: 9 classes; the members and pool entries that the words name. The judged class is class 1, her method 1. -/
namespace start1
open Jvm.ClassFile
def u (s : String) : CpInfo := .utf8 (stringToUtf16 s)
/-- a pool by its gaps: so many unusable entries, then the entry; so many at the end -/
def gap : Nat → List CpInfo → List CpInfo
  | 0, r => r
  | n + 1, r => .unusable :: gap n r
def poolList (es : List (Nat × CpInfo)) (last : Nat) : List CpInfo := es.foldr (fun e r => gap e.1 (e.2 :: r)) (gap last [])
def pool (es : List (Nat × CpInfo)) (last : Nat) : Array CpInfo := ⟨poolList es last⟩
def fileOf (pool : Array CpInfo) (this : Nat) (attrs : Array Attribute := #[]) (ms : Array MethodInfo := #[]) (fl : Nat := 33) (sup : Nat := 0) (ifs : Array Nat := #[]) (fds : Array FieldInfo := #[]) : ClassFile where
  minorVersion := 0
  majorVersion := 65
  constantPool := pool
  accessFlags := fl
  thisClass := this
  superClass := sup
  interfaces := ifs
  fields := fds
  methods := ms
  attributes := attrs
def plain (name : String) (sup : Option ClassId) : Class where
  name := name
  kind := .ordinary
  loader := none
  accessFlags := 33
  super := sup
  interfaces := #[]
  cf := none
  fields := #[]
  methods := #[]
  instanceTypes := #[]
  staticTypes := #[]
  resolved := #[]
  callSites := []
  init := .initialized
  statics := none
  mirror := none

def pool0 : Array CpInfo := pool [(5, u "<init>"), (0, u "()V"), (1, .class_ 10), (1, u "java/lang/Object")] 113

def k0m0 : Method := { name := "<init>", desc := "()V", sig := { parameters := [], returnType := none }, accessFlags := 1, code := none }
/-- java/lang/Object -/
def k0 : Class := { plain "java/lang/Object" none with
  accessFlags := 33
  interfaces := #[]
  cf := some (fileOf pool0 8 #[] #[{ accessFlags := 1, nameIndex := 5, descriptorIndex := 6, attributes := #[] }] 33 0 #[] #[])
  fields := #[]
  methods := #[k0m0]
  instanceTypes := #[]
  staticTypes := #[]
  resolved := Array.replicate 124 none
  statics := none }

def pool1 : Array CpInfo := pool [(2, .class_ 4), (1, u "java/lang/Object"), (0, u "<init>"), (0, u "()V"), (0, .integer 2147483647), (0, .double 4652218415073722368), (1, .methodref 11 12), (0, .class_ 13), (0, .nameAndType 14 15), (0, u "com/example/nest5/nest5/federated/Cori"), (0, u "mergedScore"), (0, u "(DD)D"), (0, .long 5120), (1, .long 2), (1, .long 7168), (1, .double 4602678819172646912), (1, .double 4609434218613702656), (1, .class_ 27), (0, u "com/example/nest5/nest5/federated/CoriMergedScorePinLaw"), (2, u "law"), (0, u "(III)Z")] 3

def k1m0 : Method := { name := "<init>", desc := "()V", sig := { parameters := [], returnType := none }, accessFlags := 2, code := none }
def k1c1 : Code := { maxStack := 8, maxLocals := 17, code := code, exceptionTable := #[], attributes := #[] }
def k1m1 : Method := { name := "law", desc := "(III)Z", sig := { parameters := [.int, .int, .int], returnType := some .boolean }, accessFlags := 9, code := some k1c1 }
/-- com/example/nest5/nest5/federated/CoriMergedScorePinLaw -/
def k1 : Class := { plain "com/example/nest5/nest5/federated/CoriMergedScorePinLaw" (some 0) with
  accessFlags := 49
  interfaces := #[]
  cf := some (fileOf pool1 26 #[] #[{ accessFlags := 2, nameIndex := 5, descriptorIndex := 6, attributes := #[] }, { accessFlags := 9, nameIndex := 30, descriptorIndex := 31, attributes := #[] }] 49 2 #[] #[])
  fields := #[]
  methods := #[k1m0, k1m1]
  instanceTypes := #[]
  staticTypes := #[]
  resolved := Array.replicate 35 none
  statics := none }

def pool2 : Array CpInfo := pool [(2, .class_ 4), (1, u "java/lang/Object"), (0, u "<init>"), (0, u "()V"), (41, .class_ 49), (0, u "com/example/nest5/nest5/federated/Cori$Beliefs"), (5, .class_ 57), (1, u "com/example/nest5/nest5/federated/Cori"), (58, u "(DD)D"), (16, u "mergedScore"), (6, .double 4600877379321698714), (1, .double 4608983858650965606), (17, u "DEFAULT_BELIEF"), (0, u "D"), (1, u "DF_BASE"), (0, u "DF_PER_LENGTH"), (0, u "MERGE_WEIGHT")] 25

def k2m0 : Method := { name := "<init>", desc := "()V", sig := { parameters := [], returnType := none }, accessFlags := 2, code := none }
def k2c1 : Code := { maxStack := 6, maxLocals := 4, code := prog_10_method_5_code, exceptionTable := #[], attributes := #[] }
def k2m1 : Method := { name := "mergedScore", desc := "(DD)D", sig := { parameters := [.double, .double], returnType := some .double }, accessFlags := 9, code := some k2c1 }
/-- com/example/nest5/nest5/federated/Cori -/
def k2 : Class := { plain "com/example/nest5/nest5/federated/Cori" (some 0) with
  accessFlags := 33
  interfaces := #[]
  cf := some (fileOf pool2 55 #[.nestMembers #[48]] #[{ accessFlags := 2, nameIndex := 5, descriptorIndex := 6, attributes := #[] }, { accessFlags := 9, nameIndex := 133, descriptorIndex := 116, attributes := #[] }] 33 2 #[] #[{ accessFlags := 26, nameIndex := 160, descriptorIndex := 161, attributes := #[] }, { accessFlags := 26, nameIndex := 163, descriptorIndex := 161, attributes := #[] }, { accessFlags := 26, nameIndex := 164, descriptorIndex := 161, attributes := #[] }, { accessFlags := 26, nameIndex := 165, descriptorIndex := 161, attributes := #[] }])
  fields := #[{ name := "DEFAULT_BELIEF", type := .double, accessFlags := 26, slot := 0, constantValue := 0 }, { name := "DF_BASE", type := .double, accessFlags := 26, slot := 1, constantValue := 0 }, { name := "DF_PER_LENGTH", type := .double, accessFlags := 26, slot := 2, constantValue := 0 }, { name := "MERGE_WEIGHT", type := .double, accessFlags := 26, slot := 3, constantValue := 0 }]
  methods := #[k2m0, k2m1]
  instanceTypes := #[]
  staticTypes := #[.double, .double, .double, .double]
  resolved := Array.replicate 191 none
  statics := none }

def pool3 : Array CpInfo := pool [(1, u "java/lang/Cloneable"), (0, .class_ 1), (0, u "java/lang/Object"), (0, .class_ 3)] 3

/-- java/lang/Cloneable -/
def k3 : Class := { plain "java/lang/Cloneable" (some 0) with
  accessFlags := 1537
  interfaces := #[]
  cf := some (fileOf pool3 2 #[] #[] 1537 4 #[] #[])
  fields := #[]
  methods := #[]
  instanceTypes := #[]
  staticTypes := #[]
  resolved := Array.replicate 8 none
  statics := none }

def pool4 : Array CpInfo := pool [(1, u "java/io/Serializable"), (0, .class_ 1), (0, u "java/lang/Object"), (0, .class_ 3)] 3

/-- java/io/Serializable -/
def k4 : Class := { plain "java/io/Serializable" (some 0) with
  accessFlags := 1537
  interfaces := #[]
  cf := some (fileOf pool4 2 #[] #[] 1537 4 #[] #[])
  fields := #[]
  methods := #[]
  instanceTypes := #[]
  staticTypes := #[]
  resolved := Array.replicate 8 none
  statics := none }

/-- the primitive byte -/
def k5 : Class := { plain "byte" none with kind := .primitive 'B', accessFlags := 0x411 }
/-- [B -/
def k6 : Class := { plain "[B" (some 0) with kind := .array 5 .byte, interfaces := #[3, 4], accessFlags := 1041 }

/-- the primitive int -/
def k7 : Class := { plain "int" none with kind := .primitive 'I', accessFlags := 0x411 }
/-- [I -/
def k8 : Class := { plain "[I" (some 0) with kind := .array 7 .int, interfaces := #[3, 4], accessFlags := 1041 }

def heap : Heap := #[]
def classes : Array Class := #[k0, k1, k2, k3, k4, k5, k6, k7, k8]
def interned : List (Array UInt16 × Addr) := []
def slotsUsed : Nat := 0
def theMethod : MethodId := ⟨1, 1⟩
def args0 : Array Value := #[.int 5, .int 5, .int 5]
def aboutOver (below : List Frame) : State where
  vm := { classes := classes, interned := interned.toArray }
  heap := heap
  slotsUsed := slotsUsed
  threads := #[{ frames := .invoking theMethod args0 :: below }]
def below0 : List Frame := [.native { method := ⟨0, 0⟩, args := #[] }]
def about1 : State := aboutOver below0
def p0 : Program := .bare "" "" ""
def e0 : Env := launch0.env 0 0 0
theorem w_frames : about1.frames = Frame.invoking theMethod args0 :: below0 := rfl
set_option maxRecDepth 65536 in
theorem w_args : argsFit about1.vm theMethod args0 = true := by decide +kernel
set_option maxRecDepth 65536 in
theorem w_heap : heapFits about1 = true := by decide +kernel
set_option maxRecDepth 65536 in
theorem w_runnable : about1.curStatus? = some .runnable := by decide +kernel
set_option maxRecDepth 65536 in
theorem w_alone : about1.alone = true := by decide +kernel
set_option maxRecDepth 65536 in
theorem w_named : about1.methodNamed? x = some theMethod := by decide +kernel
set_option maxRecDepth 65536 in
theorem w_hears : about1.hears theMethod below0 = true := by decide +kernel
set_option maxRecDepth 65536 in
theorem w_ripe : about1.ripe theMethod args0 below0 = true := by decide +kernel
theorem w_running : about1.status = .running := rfl
set_option maxRecDepth 65536 in
theorem w_room : about1.hasRoom e0.platform room_1 = true :=
  launch0.hasRoom_least _ room_1 (by decide +kernel) (by decide +kernel) (by decide +kernel) (by decide +kernel) (by decide +kernel) (by decide +kernel)
theorem allAtoms_all (ts : List Jvm.Cond) (a : Array Jvm.Value) (st : Jvm.State) : (allAtoms ts).before a st = ts.all (fun c => c.before a st) := by
  induction ts with
  | nil => rfl
  | cons c t ih =>
    show (Jvm.Cond.and c (allAtoms t)).before a st = _
    rw [Jvm.Cond.before_and, ih, List.all_cons]
def words1 : List Jvm.Cond := Jvm.Cond.code x code maxLocals ret :: tables_1
/-- a 'code' word, met by the world's own term for the bytes: nothing is compared byte by byte -/
theorem code_word {y : MethodName} {bytes : ByteArray} {mx : Nat} {rt : Option FieldType} {a : Array Value} {s : State} {m : MethodId} {meth : Method} {c : Code} (h1 : s.methodNamed? y = some m) (h2 : s.vm.method? m = some meth) (h3 : meth.code = some c) (h4 : c.code = bytes)
    (h5 : (c.maxLocals == mx && c.exceptionTable.isEmpty && decide (c.maxStack ≤ mostOperands) && decide (meth.sig.returnType = rt) && !meth.locks && decide (parseMethodDescriptor y.desc = some meth.sig)) = true) : (Jvm.Cond.code y bytes mx rt).before a s = true := by
  simp only [Bool.and_eq_true, beq_iff_eq, Bool.not_eq_true', decide_eq_true_eq] at h5
  obtain ⟨⟨⟨⟨⟨g1, g2⟩, g3⟩, g4⟩, g5⟩, g6⟩ := h5
  simp [Cond.before, Cond.holds, Cond.value, h1, h2, h3, h4, g1, g2, g3, g4, g5, g6]
def isCode : Jvm.Cond → Bool
  | .code _ _ _ _ => true
  | _ => false
theorem all_split {L : List Jvm.Cond} {P : Jvm.Cond → Bool} (h1 : L.all (fun c => isCode c || P c) = true) (h2 : ∀ c ∈ L.filter isCode, P c = true) : L.all P = true := by
  refine List.all_eq_true.mpr fun c hc => ?_
  have h := List.all_eq_true.mp h1 c hc
  rcases Bool.eq_false_or_eq_true (isCode c) with hi | hi
  · exact h2 c (List.mem_filter.mpr ⟨hc, hi⟩)
  · simpa [hi] using h
set_option maxRecDepth 65536 in
theorem w_c0 : (Jvm.Cond.code x code maxLocals ret).before args0 about1 = true := code_word (m := ⟨1, 1⟩) (meth := k1m1) (c := k1c1) (by decide +kernel) rfl rfl rfl (by decide +kernel)
set_option maxRecDepth 65536 in
theorem w_c1 : (Jvm.Cond.code ({ cls := "com/example/nest5/nest5/federated/Cori", name := "mergedScore", desc := "(DD)D" } : Jvm.MethodName) prog_10_method_5_code (4 : Nat) (Option.some Jvm.ClassFile.FieldType.double)).before args0 about1 = true := code_word (m := ⟨2, 1⟩) (meth := k2m1) (c := k2c1) (by decide +kernel) rfl rfl rfl (by decide +kernel)
def codes1 : List Jvm.Cond := [Jvm.Cond.code x code maxLocals ret, Jvm.Cond.code ({ cls := "com/example/nest5/nest5/federated/Cori", name := "mergedScore", desc := "(DD)D" } : Jvm.MethodName) prog_10_method_5_code (4 : Nat) (Option.some Jvm.ClassFile.FieldType.double)]
set_option maxRecDepth 65536 in
theorem codes_eq : words1.filter isCode = codes1 := rfl
theorem w_codes : ∀ c ∈ words1.filter isCode, c.before args0 about1 = true := by
  rw [codes_eq]
  intro c hc
  simp only [codes1, List.mem_cons, List.not_mem_nil, or_false] at hc
  rcases hc with rfl | rfl
  · exact w_c0
  · exact w_c1
set_option maxRecDepth 65536 in
theorem w_t1 : words1.all (fun c => isCode c || c.before args0 about1) = true := by decide +kernel
theorem w_tables : (allAtoms (Jvm.Cond.code x code maxLocals ret :: tables_1)).before args0 about1 = true := by
  rw [allAtoms_all]
  show words1.all (fun c => c.before args0 about1) = true
  refine all_split ?_ w_codes
  rw [w_t1]
set_option maxRecDepth 65536 in
theorem w_case : (Jvm.Cond.and given_1 narrow_1).before args0 about1 = true := by decide +kernel
theorem w_applies : (headSpec (Jvm.Cond.code x code maxLocals ret :: tables_1) room_1).applies x e0.platform about1 = true :=
  (Spec.applies_iff w_frames).mpr ⟨w_running, w_runnable, w_alone, w_named, w_hears, w_ripe, w_room, w_tables⟩
theorem atStart : AtStart classFile x code maxLocals ret World_1 tables_1 room_1 Calls_1 rest_1 Pre_1 launch0 p0 e0 about1 theMethod args0 below0 :=
  ⟨lists_1, trivial, launch0.admits_env _ _ _, launch0.least_env, fairChoices_fair.cas, fairChoices_fair.clock, w_frames, w_args, w_heap, w_applies, trivial, trivial, w_case⟩
end start1
theorem witness_1 : WitnessClaimed_1 := ⟨start1.p0, start1.e0, start1.about1, start1.theMethod, start1.args0, start1.below0, start1.atStart⟩
end Jvm.Pilot.@@N@@
