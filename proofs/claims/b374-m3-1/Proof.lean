import JvmDerived
import JvmDerived.Pilot.@@N@@Statement
import JvmDerived.Pilot.@@N@@Code
set_option linter.unusedVariables false
set_option linter.unusedSimpArgs false
namespace Jvm.RoadKit
open Sem ClassFile Op Lib Jvm.Stand Jvm.Free Jvm.LawKit
section New
variable {p : Program} {l : Launch} {e : Env} {R : Room} {s : State} {m : MethodId} {args : Array Value} {below : List Frame} {meth : Method} {c : Code} {T : State} {locs : List Loc} {cells slots : Nat}
theorem retI (X : Stand p l e R s m args below meth c T locs cells slots) (hx : p.tables.exec = Jvm.exec) {pc : Nat} {Ls : Array Slot} {z : Int32} {rest : List Value} (hret : meth.sig.returnType = some .int) (hd : decode c.code pc = .ok (.ireturn, 1)) {fs : List Frame}
    (hl : ∀ (f : JFrame) (acts : List Action), f.method = m → f.locked = none → f.entered = [] → (doReturn e (T.setTop f) acts (some (.int z))).1 = T.setFrames fs) : Steps p.tables e below (T.setTop (mkF m pc Ls (.int z :: rest))) (T.setFrames fs) := by
  have hm' : T.vm.method? m = some meth := X.method'
  have hn : narrow .int (.int z) = .int z := rfl
  show Steps p.tables e below (T.setTop { method := m, pc := pc, locals := Ls, stack := _ :: rest, locked := none }) _
  jvm_step X.here [X.here.top, hx, hd, hm', hret, hn]
  first | (intro acts; rw [hl _ acts rfl rfl rfl]) | rw [hl _ _ rfl rfl rfl]
  exact Steps.refl _
end New
end Jvm.RoadKit
namespace Jvm.Pilot.@@N@@
open Jvm Jvm.ClassFile Sem Op Lib Jvm.Free Jvm.Stand Jvm.LawKit Jvm.RoadKit Bundle Jvm.Pilot.@@N@@.Jvm.D
def bI (P : Prop) [Decidable P] : Int32 := if P then 1 else 0
theorem own_b1 {P : Prop} [Decidable P] (h : P) : some (Value.int (1 : Int32)) = some (Value.int (bI P)) := by rw [bI, if_pos h]
theorem own_b0 {P : Prop} [Decidable P] (h : ¬ P) : some (Value.int (0 : Int32)) = some (Value.int (bI P)) := by rw [bI, if_neg h]
theorem own_c1 {P : Prop} [Decidable P] (h : P) : (1 : Int32) = bI P := by rw [bI, if_pos h]
theorem own_c0 {P : Prop} [Decidable P] (h : ¬ P) : (0 : Int32) = bI P := by rw [bI, if_neg h]
theorem own_bI {P : Prop} [Decidable P] : (P ∧ bI P = 1) ∨ (¬ P ∧ bI P = 0) := by by_cases h : P <;> simp [bI, h]
theorem own_bt {P : Prop} [Decidable P] : (P ∧ (bI P).toInt = 1) ∨ (¬ P ∧ (bI P).toInt = 0) := by by_cases h : P <;> simp [bI, h]
theorem own_nar {P : Prop} [Decidable P] : nar .boolean (bI P) = bI P := by by_cases h : P <;> simp only [bI, h, if_true, if_false] <;> decide
theorem own_lt {a b : Int32} : a < b ↔ a.toInt < b.toInt := Int32.lt_iff_toInt_lt
theorem own_nlt {a b : Int32} : ¬ (a < b) ↔ b.toInt ≤ a.toInt := by rw [own_lt]; omega
theorem own_eq {a b : Int32} : a = b ↔ a.toInt = b.toInt := Int32.toInt_inj.symm
theorem own_neq {a b : Int32} : ¬ (a = b) ↔ ¬ (a.toInt = b.toInt) := by rw [own_eq]
theorem own_ltL {a b : Int64} : a < b ↔ a.toInt < b.toInt := Int64.lt_iff_toInt_lt
theorem own_eqL {a b : Int64} : a = b ↔ a.toInt = b.toInt := Int64.toInt_inj.symm
theorem own_sk {Z : State} {h h' : Heap} {C n d K : String} {v : Value} {b : Addr} (F : Sta Z h C n d v) (Kp : Keep h h' [b]) (E : Exa Z h b K) : Sta Z h' C n d v := by
  obtain ⟨cf, i, k, f, st, cell, h1, h2, h3, h4, h5, h6, h7⟩ := F
  refine ⟨cf, i, k, f, st, cell, h1, h2, h3, h4, Kp.2.1 st cell h5 (fun q => ?_), h6, h7⟩
  obtain ⟨cl, kk, e1, e2, e3, e4, e5⟩ := E
  have q' := List.mem_singleton.mp q
  subst q'
  rw [h5] at e1
  cases e1
  rw [h6] at e4
  cases e4
theorem own_eqI {t : Term} {k : Int32} {args : Array Value} {Z : State} (h : (Jvm.Cond.eq t (Term.int k)).value args Z none Z [] = some true) : t.eval args Z none [] Z = some (.int k) := by
  obtain ⟨x, y, hx, hy, K1, K2⟩ := cmp_v (Or.inl h)
  have hy' : y = .int k := by simpa [Term.eval] using hy.symm
  subst hy'
  obtain ⟨z, rfl⟩ := K2
  have q : z = k := by simpa [Jvm.Cond.value, hx, Term.eval] using h
  rw [hx, q]
theorem own_fldI {t : Term} {C n d : String} {k : Int32} {a : Addr} {args : Array Value} {Z : State} (ev : t.eval args Z none [] Z = some (.ref a)) (h : (Jvm.Cond.eq (Term.field t C n d) (Term.int k)).value args Z none Z [] = some true) : Z.fieldOf? a C n d = some (.int k) := by
  rw [← fld_at ev]; exact own_eqI h
theorem own_ford {C n d : String} {k k' : Int32} {a b : Addr} {Z : State} (h1 : Z.fieldOf? a C n d = some (.int k)) (h2 : Z.fieldOf? b C n d = some (.int k')) (hk : k ≠ k') : a ≠ b := fun q => by
  rw [q, h2] at h1
  exact hk (Value.int.inj (Option.some.inj h1)).symm
theorem own_s0 {Z : State} {h h' : Heap} {C n d : String} {v : Value} (F : Sta Z h C n d v) (Kp : Keep h h' []) : Sta Z h' C n d v := by
  obtain ⟨cf, i, k, f, st, cell, h1, h2, h3, h4, h5, h6, h7⟩ := F
  exact ⟨cf, i, k, f, st, cell, h1, h2, h3, h4, Kp.2.1 st cell h5 (by simp), h6, h7⟩
theorem own_a0 {Z : State} {h h' : Heap} {a : Addr} {c : Cell} {ty : FieldType} (A : Arr Z h a c ty) (Kp : Keep h h' []) : Arr Z h' a c ty := ⟨Kp.2.1 a c A.1 (by simp), A.2⟩
theorem own_f0 {Z : State} {h h' : Heap} {C n d : String} {a : Addr} {v : Value} (F : Fld Z h a C n d v) (Kp : Keep h h' []) : Fld Z h' a C n d v := F.keep Kp (by simp)
theorem own_no2 {Z : State} {a0 : Array Value} {C S O K : String} {n : Nat} (w1 : (Jvm.Cond.superclass C S).before a0 Z = true) (w2 : (Jvm.Cond.superclass S O).before a0 Z = true) (w3 : (Jvm.Cond.noSuperclass O).before a0 Z = true) (wk : (Jvm.Cond.instantiable K n).before a0 Z = true)
    (n1 : C ≠ K) (n2 : S ≠ K) (n3 : O ≠ K) : ∃ c t, Z.vm.findClass C = some c ∧ Z.vm.findClass K = some t ∧ Z.vm.assignable c t = false := by
  obtain ⟨t, kt, ht, hkt, ho, hi, -, -⟩ := Cond.instantiable_spec wk
  obtain ⟨cO, kO, hO, hkO, hs, -, -⟩ := Cond.noSuperclass_spec w3
  have neO := ids_ne hO ht n3
  have r0 : NS Z O K := ⟨cO, t, hO, ht, fun fuel => by cases fuel with
    | zero => rfl
    | succ f => simp [Vm.isSubclassAux, neO, hkO, hs]⟩
  obtain ⟨c, t', h0, g0, n3'⟩ := NS.step w1 (NS.step w2 r0 n2) n1
  cases ht.symm.trans g0
  obtain ⟨p, k, kp, h1, h2, h3, h4, h5, -, h7⟩ := Cond.superclass_spec h0 w1
  have ne := ids_ne h0 ht n1
  have hi' : kt.isInterface = false := by simp only [Bool.or_eq_false_iff] at hi; exact hi.1
  refine ⟨c, t, h0, ht, ?_⟩
  show Z.vm.assignableAux (255 + 1) c t = false
  simp [Vm.assignableAux, ne, h2, hkt, h5, ho, hi', Vm.isSubclass, n3']
theorem own_box {Z : State} {args : Array Value} {t : Term} {K : String} {X : Jvm.Cond} {a : Addr} {c : Cell} (et : ∀ idx, t.eval args Z none idx Z = some (.ref a)) (A : Arr Z Z.heap a c (.object K))
    (h : (Jvm.Cond.all t (.and (.exactly (.elem t (.index 0)) K) X)).value args Z none Z [] = some true) (j : Int32) (hj : ¬ (j < 0 ∨ c.slots.size ≤ j.toNatClampNeg)) : ∃ b : Addr, c.slots[j.toNatClampNeg]? = some (.ref b) ∧ Exa Z Z.heap b K := by
  have nn : ¬ j < 0 := fun x => hj (Or.inl x)
  have u := (and_e (Cond.all_elim (et []) (A.fin (Vm.Alike.refl _)) h j.toNatClampNeg (Nat.lt_of_not_le fun x => hj (Or.inr x)))).1
  obtain ⟨box, eb⟩ := exa_v u
  exact ⟨box, (elem_f (et _) (idx_at nn) (A.fin (Vm.Alike.refl _)) nn).symm.trans eb, exa_at eb u⟩
theorem own_len {Z : State} {args : Array Value} {t : Term} {a : Addr} {c : Cell} {ty : FieldType} {z : Int32} (ev : t.eval args Z none [] Z = some (.ref a)) (A : Arr Z Z.heap a c ty) (h : (Term.length t).eval args Z none [] Z = some (.int z)) : c.slots.size < 2 ^ 31 ∧ c.slots.size.toInt32 = z := by
  have ha := A.fin (Vm.Alike.refl _)
  simpa [Term.eval, ev, ha] using h
theorem own_size {c : Cell} {z : Int32} {n : Nat} (h : c.slots.size < 2 ^ 31 ∧ c.slots.size.toInt32 = z) (hz : z.toInt = n) : c.slots.size = n := by
  have q := len_toInt h.1
  rw [h.2] at q
  omega
theorem own_eqR {t u : Term} {b : Addr} {args : Array Value} {Z : State} (hu : u.eval args Z none [] Z = some (.ref b)) (h : (Jvm.Cond.eq t u).value args Z none Z [] = some true) : t.eval args Z none [] Z = some (.ref b) := by
  obtain ⟨x, y, hx, hy, K1, K2⟩ := cmp_v (Or.inl h)
  cases hu.symm.trans hy
  have hr : x.isRef = true := K2.2
  have e := eq_R hx hu hr rfl
  rw [h] at e
  rw [hx, of_decide_eq_true (Option.some.inj e).symm]
theorem own_rew {s t : State} {o : Outcome} {L : List Loc} {k n k' n' : Nat} (h : ReturnedEndW s o t L k n) (hk : k ≤ k') (hn : n ≤ n') : ReturnedEndW s o t L k' n' := ⟨h.1, h.2.1, h.2.2.1, h.2.2.2.mono hk hn⟩
theorem own_m31 (x : Int32) : (x &&& (2147483647 : Int32)).toInt = x.toInt % 2147483648 := c_mask x (2147483647 : Int32) 31 (by decide) (by decide)
theorem own_mrem (x y : Int32) (d : Int) (hy : y.toInt = d) : ((x &&& (2147483647 : Int32)) % y).toInt = (x.toInt % 2147483648) % d := by
  have h := own_m31 x
  rw [(c_irem _ y d hy).1 (by omega), h]
theorem own_cl (s : Int32) (h : 0 ≤ s.toInt) : (s.toNatClampNeg : Int) = s.toInt := by
  have q : s.toNatClampNeg = s.toInt.toNat := rfl
  omega
theorem own_cl2 {j z : Int32} (h0 : 0 ≤ j.toInt) (h : j.toInt < z.toInt) : j.toNatClampNeg < z.toNatClampNeg := by
  have a := own_cl j h0
  have b := own_cl z (by omega)
  omega
def own_B (b : Int32) (j : Nat) : Int32 := if j = 0 then bI (¬ ((b &&& (1 : Int32)).toInt = 0)) else if j = 1 then bI (¬ ((b &&& (2 : Int32)).toInt = 0)) else if j = 2 then bI (¬ ((b &&& (4 : Int32)).toInt = 0)) else if j = 3 then bI (¬ ((b &&& (8 : Int32)).toInt = 0)) else if j = 4 then bI (¬ ((b &&& (16 : Int32)).toInt = 0)) else if j = 5 then bI (¬ ((b &&& (32 : Int32)).toInt = 0)) else if j = 6 then bI (¬ ((b &&& (64 : Int32)).toInt = 0)) else 0
def own_rr (r : Int32) : UInt64 := if r = 0 then FP.dconst0 else FP.ddiv FP.dconst1 (FP.i2d r)
theorem own_rr0 {r : Int32} (h : r = 0) : own_rr r = FP.dconst0 := by rw [own_rr, if_pos h]
theorem own_rr1 {r : Int32} (h : ¬ r = 0) : own_rr r = FP.ddiv FP.dconst1 (FP.i2d r) := by rw [own_rr, if_neg h]
theorem own_one : Jvm.Free.Fl.NoNaN64 FP.dconst1 := by unfold Jvm.Free.Fl.NoNaN64; decide +kernel
theorem own_nn (r : Int32) (h : ¬ r = 0) : Jvm.Free.Fl.NoNaN64 (FP.ddiv FP.dconst1 (FP.i2d r)) := Jvm.Free.Fl.ddiv_out own_one (Jvm.Free.Fl.i2d_fin r) (Jvm.Free.Fl.i2d_nz h)
theorem own_nr (r : Int32) : Jvm.Free.Fl.NoNaN64 (own_rr r) := by
  by_cases h : r = 0
  · rw [own_rr0 h]; exact Jvm.Free.Fl.SumD.zero_noNaN
  · rw [own_rr1 h]; exact own_nn r h
theorem own_uq {B : Nat → Int32} {ln r q : Int32} (h1 : ((r = 0 ∧ ∀ j : Nat, j < ln.toNatClampNeg → (B j).toInt = 0) ∨ (1 ≤ r.toInt ∧ r.toInt ≤ ln.toInt ∧ (∀ j : Nat, (j : Int) < r.toInt - 1 → (B j).toInt = 0) ∧ ¬ (B (r.toInt - 1).toNat).toInt = 0))) (h2 : ((q = 0 ∧ ∀ j : Nat, j < ln.toNatClampNeg → (B j).toInt = 0) ∨ (1 ≤ q.toInt ∧ q.toInt ≤ ln.toInt ∧ (∀ j : Nat, (j : Int) < q.toInt - 1 → (B j).toInt = 0) ∧ ¬ (B (q.toInt - 1).toNat).toInt = 0))) : own_rr r = own_rr q := by
  congr 1
  apply own_eq.mpr
  have hl : 0 ≤ ln.toInt ∨ ln.toInt < 0 := by omega
  rcases h1 with ⟨rfl, a⟩ | ⟨a1, a2, a3, a4⟩ <;> rcases h2 with ⟨rfl, b⟩ | ⟨b1, b2, b3, b4⟩
  · rfl
  · have c := own_cl ln (by omega)
    exact absurd (a _ (by omega)) b4
  · have c := own_cl ln (by omega)
    exact absurd (b _ (by omega)) a4
  · by_cases hlt : r.toInt < q.toInt
    · exact absurd (b3 (r.toInt - 1).toNat (by omega)) a4
    · by_cases hgt : q.toInt < r.toInt
      · exact absurd (a3 (q.toInt - 1).toNat (by omega)) b4
      · omega
theorem own_mb0 (b n : Int32) (h : 0 ≤ n.toInt ∧ n.toInt ≤ 7) : ((b &&& (((1 : Int32) <<< (n &&& 31)) - (1 : Int32))) &&& (1 : Int32)) = 0 ↔ (0 < n.toInt → (own_B b 0).toInt = 0) := by
  have t : (own_B b 0).toInt = (bI (¬ ((b &&& (1 : Int32)).toInt = 0))).toInt := rfl
  have u := own_bt (P := ¬ ((b &&& (1 : Int32)).toInt = 0))
  have w : (b &&& (1 : Int32)) = 0 ↔ (b &&& (1 : Int32)).toInt = 0 := own_eq
  rcases (show n.toInt = 0 ∨ n.toInt = 1 ∨ n.toInt = 2 ∨ n.toInt = 3 ∨ n.toInt = 4 ∨ n.toInt = 5 ∨ n.toInt = 6 ∨ n.toInt = 7 by omega) with q | q | q | q | q | q | q | q
  · obtain rfl : n = (0 : Int32) := own_eq.mpr q
    rw [Int32.and_assoc, show (((1 : Int32) <<< ((0 : Int32) &&& 31)) - (1 : Int32)) &&& (1 : Int32) = (0 : Int32) by decide]
    simp only [Int32.and_zero, true_iff]; omega
  · obtain rfl : n = (1 : Int32) := own_eq.mpr q
    rw [Int32.and_assoc, show (((1 : Int32) <<< ((1 : Int32) &&& 31)) - (1 : Int32)) &&& (1 : Int32) = (1 : Int32) by decide]
    rw [w]; omega
  · obtain rfl : n = (2 : Int32) := own_eq.mpr q
    rw [Int32.and_assoc, show (((1 : Int32) <<< ((2 : Int32) &&& 31)) - (1 : Int32)) &&& (1 : Int32) = (1 : Int32) by decide]
    rw [w]; omega
  · obtain rfl : n = (3 : Int32) := own_eq.mpr q
    rw [Int32.and_assoc, show (((1 : Int32) <<< ((3 : Int32) &&& 31)) - (1 : Int32)) &&& (1 : Int32) = (1 : Int32) by decide]
    rw [w]; omega
  · obtain rfl : n = (4 : Int32) := own_eq.mpr q
    rw [Int32.and_assoc, show (((1 : Int32) <<< ((4 : Int32) &&& 31)) - (1 : Int32)) &&& (1 : Int32) = (1 : Int32) by decide]
    rw [w]; omega
  · obtain rfl : n = (5 : Int32) := own_eq.mpr q
    rw [Int32.and_assoc, show (((1 : Int32) <<< ((5 : Int32) &&& 31)) - (1 : Int32)) &&& (1 : Int32) = (1 : Int32) by decide]
    rw [w]; omega
  · obtain rfl : n = (6 : Int32) := own_eq.mpr q
    rw [Int32.and_assoc, show (((1 : Int32) <<< ((6 : Int32) &&& 31)) - (1 : Int32)) &&& (1 : Int32) = (1 : Int32) by decide]
    rw [w]; omega
  · obtain rfl : n = (7 : Int32) := own_eq.mpr q
    rw [Int32.and_assoc, show (((1 : Int32) <<< ((7 : Int32) &&& 31)) - (1 : Int32)) &&& (1 : Int32) = (1 : Int32) by decide]
    rw [w]; omega
theorem own_mb1 (b n : Int32) (h : 0 ≤ n.toInt ∧ n.toInt ≤ 7) : ((b &&& (((1 : Int32) <<< (n &&& 31)) - (1 : Int32))) &&& (2 : Int32)) = 0 ↔ (1 < n.toInt → (own_B b 1).toInt = 0) := by
  have t : (own_B b 1).toInt = (bI (¬ ((b &&& (2 : Int32)).toInt = 0))).toInt := rfl
  have u := own_bt (P := ¬ ((b &&& (2 : Int32)).toInt = 0))
  have w : (b &&& (2 : Int32)) = 0 ↔ (b &&& (2 : Int32)).toInt = 0 := own_eq
  rcases (show n.toInt = 0 ∨ n.toInt = 1 ∨ n.toInt = 2 ∨ n.toInt = 3 ∨ n.toInt = 4 ∨ n.toInt = 5 ∨ n.toInt = 6 ∨ n.toInt = 7 by omega) with q | q | q | q | q | q | q | q
  · obtain rfl : n = (0 : Int32) := own_eq.mpr q
    rw [Int32.and_assoc, show (((1 : Int32) <<< ((0 : Int32) &&& 31)) - (1 : Int32)) &&& (2 : Int32) = (0 : Int32) by decide]
    simp only [Int32.and_zero, true_iff]; omega
  · obtain rfl : n = (1 : Int32) := own_eq.mpr q
    rw [Int32.and_assoc, show (((1 : Int32) <<< ((1 : Int32) &&& 31)) - (1 : Int32)) &&& (2 : Int32) = (0 : Int32) by decide]
    simp only [Int32.and_zero, true_iff]; omega
  · obtain rfl : n = (2 : Int32) := own_eq.mpr q
    rw [Int32.and_assoc, show (((1 : Int32) <<< ((2 : Int32) &&& 31)) - (1 : Int32)) &&& (2 : Int32) = (2 : Int32) by decide]
    rw [w]; omega
  · obtain rfl : n = (3 : Int32) := own_eq.mpr q
    rw [Int32.and_assoc, show (((1 : Int32) <<< ((3 : Int32) &&& 31)) - (1 : Int32)) &&& (2 : Int32) = (2 : Int32) by decide]
    rw [w]; omega
  · obtain rfl : n = (4 : Int32) := own_eq.mpr q
    rw [Int32.and_assoc, show (((1 : Int32) <<< ((4 : Int32) &&& 31)) - (1 : Int32)) &&& (2 : Int32) = (2 : Int32) by decide]
    rw [w]; omega
  · obtain rfl : n = (5 : Int32) := own_eq.mpr q
    rw [Int32.and_assoc, show (((1 : Int32) <<< ((5 : Int32) &&& 31)) - (1 : Int32)) &&& (2 : Int32) = (2 : Int32) by decide]
    rw [w]; omega
  · obtain rfl : n = (6 : Int32) := own_eq.mpr q
    rw [Int32.and_assoc, show (((1 : Int32) <<< ((6 : Int32) &&& 31)) - (1 : Int32)) &&& (2 : Int32) = (2 : Int32) by decide]
    rw [w]; omega
  · obtain rfl : n = (7 : Int32) := own_eq.mpr q
    rw [Int32.and_assoc, show (((1 : Int32) <<< ((7 : Int32) &&& 31)) - (1 : Int32)) &&& (2 : Int32) = (2 : Int32) by decide]
    rw [w]; omega
theorem own_mb2 (b n : Int32) (h : 0 ≤ n.toInt ∧ n.toInt ≤ 7) : ((b &&& (((1 : Int32) <<< (n &&& 31)) - (1 : Int32))) &&& (4 : Int32)) = 0 ↔ (2 < n.toInt → (own_B b 2).toInt = 0) := by
  have t : (own_B b 2).toInt = (bI (¬ ((b &&& (4 : Int32)).toInt = 0))).toInt := rfl
  have u := own_bt (P := ¬ ((b &&& (4 : Int32)).toInt = 0))
  have w : (b &&& (4 : Int32)) = 0 ↔ (b &&& (4 : Int32)).toInt = 0 := own_eq
  rcases (show n.toInt = 0 ∨ n.toInt = 1 ∨ n.toInt = 2 ∨ n.toInt = 3 ∨ n.toInt = 4 ∨ n.toInt = 5 ∨ n.toInt = 6 ∨ n.toInt = 7 by omega) with q | q | q | q | q | q | q | q
  · obtain rfl : n = (0 : Int32) := own_eq.mpr q
    rw [Int32.and_assoc, show (((1 : Int32) <<< ((0 : Int32) &&& 31)) - (1 : Int32)) &&& (4 : Int32) = (0 : Int32) by decide]
    simp only [Int32.and_zero, true_iff]; omega
  · obtain rfl : n = (1 : Int32) := own_eq.mpr q
    rw [Int32.and_assoc, show (((1 : Int32) <<< ((1 : Int32) &&& 31)) - (1 : Int32)) &&& (4 : Int32) = (0 : Int32) by decide]
    simp only [Int32.and_zero, true_iff]; omega
  · obtain rfl : n = (2 : Int32) := own_eq.mpr q
    rw [Int32.and_assoc, show (((1 : Int32) <<< ((2 : Int32) &&& 31)) - (1 : Int32)) &&& (4 : Int32) = (0 : Int32) by decide]
    simp only [Int32.and_zero, true_iff]; omega
  · obtain rfl : n = (3 : Int32) := own_eq.mpr q
    rw [Int32.and_assoc, show (((1 : Int32) <<< ((3 : Int32) &&& 31)) - (1 : Int32)) &&& (4 : Int32) = (4 : Int32) by decide]
    rw [w]; omega
  · obtain rfl : n = (4 : Int32) := own_eq.mpr q
    rw [Int32.and_assoc, show (((1 : Int32) <<< ((4 : Int32) &&& 31)) - (1 : Int32)) &&& (4 : Int32) = (4 : Int32) by decide]
    rw [w]; omega
  · obtain rfl : n = (5 : Int32) := own_eq.mpr q
    rw [Int32.and_assoc, show (((1 : Int32) <<< ((5 : Int32) &&& 31)) - (1 : Int32)) &&& (4 : Int32) = (4 : Int32) by decide]
    rw [w]; omega
  · obtain rfl : n = (6 : Int32) := own_eq.mpr q
    rw [Int32.and_assoc, show (((1 : Int32) <<< ((6 : Int32) &&& 31)) - (1 : Int32)) &&& (4 : Int32) = (4 : Int32) by decide]
    rw [w]; omega
  · obtain rfl : n = (7 : Int32) := own_eq.mpr q
    rw [Int32.and_assoc, show (((1 : Int32) <<< ((7 : Int32) &&& 31)) - (1 : Int32)) &&& (4 : Int32) = (4 : Int32) by decide]
    rw [w]; omega
theorem own_mb3 (b n : Int32) (h : 0 ≤ n.toInt ∧ n.toInt ≤ 7) : ((b &&& (((1 : Int32) <<< (n &&& 31)) - (1 : Int32))) &&& (8 : Int32)) = 0 ↔ (3 < n.toInt → (own_B b 3).toInt = 0) := by
  have t : (own_B b 3).toInt = (bI (¬ ((b &&& (8 : Int32)).toInt = 0))).toInt := rfl
  have u := own_bt (P := ¬ ((b &&& (8 : Int32)).toInt = 0))
  have w : (b &&& (8 : Int32)) = 0 ↔ (b &&& (8 : Int32)).toInt = 0 := own_eq
  rcases (show n.toInt = 0 ∨ n.toInt = 1 ∨ n.toInt = 2 ∨ n.toInt = 3 ∨ n.toInt = 4 ∨ n.toInt = 5 ∨ n.toInt = 6 ∨ n.toInt = 7 by omega) with q | q | q | q | q | q | q | q
  · obtain rfl : n = (0 : Int32) := own_eq.mpr q
    rw [Int32.and_assoc, show (((1 : Int32) <<< ((0 : Int32) &&& 31)) - (1 : Int32)) &&& (8 : Int32) = (0 : Int32) by decide]
    simp only [Int32.and_zero, true_iff]; omega
  · obtain rfl : n = (1 : Int32) := own_eq.mpr q
    rw [Int32.and_assoc, show (((1 : Int32) <<< ((1 : Int32) &&& 31)) - (1 : Int32)) &&& (8 : Int32) = (0 : Int32) by decide]
    simp only [Int32.and_zero, true_iff]; omega
  · obtain rfl : n = (2 : Int32) := own_eq.mpr q
    rw [Int32.and_assoc, show (((1 : Int32) <<< ((2 : Int32) &&& 31)) - (1 : Int32)) &&& (8 : Int32) = (0 : Int32) by decide]
    simp only [Int32.and_zero, true_iff]; omega
  · obtain rfl : n = (3 : Int32) := own_eq.mpr q
    rw [Int32.and_assoc, show (((1 : Int32) <<< ((3 : Int32) &&& 31)) - (1 : Int32)) &&& (8 : Int32) = (0 : Int32) by decide]
    simp only [Int32.and_zero, true_iff]; omega
  · obtain rfl : n = (4 : Int32) := own_eq.mpr q
    rw [Int32.and_assoc, show (((1 : Int32) <<< ((4 : Int32) &&& 31)) - (1 : Int32)) &&& (8 : Int32) = (8 : Int32) by decide]
    rw [w]; omega
  · obtain rfl : n = (5 : Int32) := own_eq.mpr q
    rw [Int32.and_assoc, show (((1 : Int32) <<< ((5 : Int32) &&& 31)) - (1 : Int32)) &&& (8 : Int32) = (8 : Int32) by decide]
    rw [w]; omega
  · obtain rfl : n = (6 : Int32) := own_eq.mpr q
    rw [Int32.and_assoc, show (((1 : Int32) <<< ((6 : Int32) &&& 31)) - (1 : Int32)) &&& (8 : Int32) = (8 : Int32) by decide]
    rw [w]; omega
  · obtain rfl : n = (7 : Int32) := own_eq.mpr q
    rw [Int32.and_assoc, show (((1 : Int32) <<< ((7 : Int32) &&& 31)) - (1 : Int32)) &&& (8 : Int32) = (8 : Int32) by decide]
    rw [w]; omega
theorem own_mb4 (b n : Int32) (h : 0 ≤ n.toInt ∧ n.toInt ≤ 7) : ((b &&& (((1 : Int32) <<< (n &&& 31)) - (1 : Int32))) &&& (16 : Int32)) = 0 ↔ (4 < n.toInt → (own_B b 4).toInt = 0) := by
  have t : (own_B b 4).toInt = (bI (¬ ((b &&& (16 : Int32)).toInt = 0))).toInt := rfl
  have u := own_bt (P := ¬ ((b &&& (16 : Int32)).toInt = 0))
  have w : (b &&& (16 : Int32)) = 0 ↔ (b &&& (16 : Int32)).toInt = 0 := own_eq
  rcases (show n.toInt = 0 ∨ n.toInt = 1 ∨ n.toInt = 2 ∨ n.toInt = 3 ∨ n.toInt = 4 ∨ n.toInt = 5 ∨ n.toInt = 6 ∨ n.toInt = 7 by omega) with q | q | q | q | q | q | q | q
  · obtain rfl : n = (0 : Int32) := own_eq.mpr q
    rw [Int32.and_assoc, show (((1 : Int32) <<< ((0 : Int32) &&& 31)) - (1 : Int32)) &&& (16 : Int32) = (0 : Int32) by decide]
    simp only [Int32.and_zero, true_iff]; omega
  · obtain rfl : n = (1 : Int32) := own_eq.mpr q
    rw [Int32.and_assoc, show (((1 : Int32) <<< ((1 : Int32) &&& 31)) - (1 : Int32)) &&& (16 : Int32) = (0 : Int32) by decide]
    simp only [Int32.and_zero, true_iff]; omega
  · obtain rfl : n = (2 : Int32) := own_eq.mpr q
    rw [Int32.and_assoc, show (((1 : Int32) <<< ((2 : Int32) &&& 31)) - (1 : Int32)) &&& (16 : Int32) = (0 : Int32) by decide]
    simp only [Int32.and_zero, true_iff]; omega
  · obtain rfl : n = (3 : Int32) := own_eq.mpr q
    rw [Int32.and_assoc, show (((1 : Int32) <<< ((3 : Int32) &&& 31)) - (1 : Int32)) &&& (16 : Int32) = (0 : Int32) by decide]
    simp only [Int32.and_zero, true_iff]; omega
  · obtain rfl : n = (4 : Int32) := own_eq.mpr q
    rw [Int32.and_assoc, show (((1 : Int32) <<< ((4 : Int32) &&& 31)) - (1 : Int32)) &&& (16 : Int32) = (0 : Int32) by decide]
    simp only [Int32.and_zero, true_iff]; omega
  · obtain rfl : n = (5 : Int32) := own_eq.mpr q
    rw [Int32.and_assoc, show (((1 : Int32) <<< ((5 : Int32) &&& 31)) - (1 : Int32)) &&& (16 : Int32) = (16 : Int32) by decide]
    rw [w]; omega
  · obtain rfl : n = (6 : Int32) := own_eq.mpr q
    rw [Int32.and_assoc, show (((1 : Int32) <<< ((6 : Int32) &&& 31)) - (1 : Int32)) &&& (16 : Int32) = (16 : Int32) by decide]
    rw [w]; omega
  · obtain rfl : n = (7 : Int32) := own_eq.mpr q
    rw [Int32.and_assoc, show (((1 : Int32) <<< ((7 : Int32) &&& 31)) - (1 : Int32)) &&& (16 : Int32) = (16 : Int32) by decide]
    rw [w]; omega
theorem own_mb5 (b n : Int32) (h : 0 ≤ n.toInt ∧ n.toInt ≤ 7) : ((b &&& (((1 : Int32) <<< (n &&& 31)) - (1 : Int32))) &&& (32 : Int32)) = 0 ↔ (5 < n.toInt → (own_B b 5).toInt = 0) := by
  have t : (own_B b 5).toInt = (bI (¬ ((b &&& (32 : Int32)).toInt = 0))).toInt := rfl
  have u := own_bt (P := ¬ ((b &&& (32 : Int32)).toInt = 0))
  have w : (b &&& (32 : Int32)) = 0 ↔ (b &&& (32 : Int32)).toInt = 0 := own_eq
  rcases (show n.toInt = 0 ∨ n.toInt = 1 ∨ n.toInt = 2 ∨ n.toInt = 3 ∨ n.toInt = 4 ∨ n.toInt = 5 ∨ n.toInt = 6 ∨ n.toInt = 7 by omega) with q | q | q | q | q | q | q | q
  · obtain rfl : n = (0 : Int32) := own_eq.mpr q
    rw [Int32.and_assoc, show (((1 : Int32) <<< ((0 : Int32) &&& 31)) - (1 : Int32)) &&& (32 : Int32) = (0 : Int32) by decide]
    simp only [Int32.and_zero, true_iff]; omega
  · obtain rfl : n = (1 : Int32) := own_eq.mpr q
    rw [Int32.and_assoc, show (((1 : Int32) <<< ((1 : Int32) &&& 31)) - (1 : Int32)) &&& (32 : Int32) = (0 : Int32) by decide]
    simp only [Int32.and_zero, true_iff]; omega
  · obtain rfl : n = (2 : Int32) := own_eq.mpr q
    rw [Int32.and_assoc, show (((1 : Int32) <<< ((2 : Int32) &&& 31)) - (1 : Int32)) &&& (32 : Int32) = (0 : Int32) by decide]
    simp only [Int32.and_zero, true_iff]; omega
  · obtain rfl : n = (3 : Int32) := own_eq.mpr q
    rw [Int32.and_assoc, show (((1 : Int32) <<< ((3 : Int32) &&& 31)) - (1 : Int32)) &&& (32 : Int32) = (0 : Int32) by decide]
    simp only [Int32.and_zero, true_iff]; omega
  · obtain rfl : n = (4 : Int32) := own_eq.mpr q
    rw [Int32.and_assoc, show (((1 : Int32) <<< ((4 : Int32) &&& 31)) - (1 : Int32)) &&& (32 : Int32) = (0 : Int32) by decide]
    simp only [Int32.and_zero, true_iff]; omega
  · obtain rfl : n = (5 : Int32) := own_eq.mpr q
    rw [Int32.and_assoc, show (((1 : Int32) <<< ((5 : Int32) &&& 31)) - (1 : Int32)) &&& (32 : Int32) = (0 : Int32) by decide]
    simp only [Int32.and_zero, true_iff]; omega
  · obtain rfl : n = (6 : Int32) := own_eq.mpr q
    rw [Int32.and_assoc, show (((1 : Int32) <<< ((6 : Int32) &&& 31)) - (1 : Int32)) &&& (32 : Int32) = (32 : Int32) by decide]
    rw [w]; omega
  · obtain rfl : n = (7 : Int32) := own_eq.mpr q
    rw [Int32.and_assoc, show (((1 : Int32) <<< ((7 : Int32) &&& 31)) - (1 : Int32)) &&& (32 : Int32) = (32 : Int32) by decide]
    rw [w]; omega
theorem own_mb6 (b n : Int32) (h : 0 ≤ n.toInt ∧ n.toInt ≤ 7) : ((b &&& (((1 : Int32) <<< (n &&& 31)) - (1 : Int32))) &&& (64 : Int32)) = 0 ↔ (6 < n.toInt → (own_B b 6).toInt = 0) := by
  have t : (own_B b 6).toInt = (bI (¬ ((b &&& (64 : Int32)).toInt = 0))).toInt := rfl
  have u := own_bt (P := ¬ ((b &&& (64 : Int32)).toInt = 0))
  have w : (b &&& (64 : Int32)) = 0 ↔ (b &&& (64 : Int32)).toInt = 0 := own_eq
  rcases (show n.toInt = 0 ∨ n.toInt = 1 ∨ n.toInt = 2 ∨ n.toInt = 3 ∨ n.toInt = 4 ∨ n.toInt = 5 ∨ n.toInt = 6 ∨ n.toInt = 7 by omega) with q | q | q | q | q | q | q | q
  · obtain rfl : n = (0 : Int32) := own_eq.mpr q
    rw [Int32.and_assoc, show (((1 : Int32) <<< ((0 : Int32) &&& 31)) - (1 : Int32)) &&& (64 : Int32) = (0 : Int32) by decide]
    simp only [Int32.and_zero, true_iff]; omega
  · obtain rfl : n = (1 : Int32) := own_eq.mpr q
    rw [Int32.and_assoc, show (((1 : Int32) <<< ((1 : Int32) &&& 31)) - (1 : Int32)) &&& (64 : Int32) = (0 : Int32) by decide]
    simp only [Int32.and_zero, true_iff]; omega
  · obtain rfl : n = (2 : Int32) := own_eq.mpr q
    rw [Int32.and_assoc, show (((1 : Int32) <<< ((2 : Int32) &&& 31)) - (1 : Int32)) &&& (64 : Int32) = (0 : Int32) by decide]
    simp only [Int32.and_zero, true_iff]; omega
  · obtain rfl : n = (3 : Int32) := own_eq.mpr q
    rw [Int32.and_assoc, show (((1 : Int32) <<< ((3 : Int32) &&& 31)) - (1 : Int32)) &&& (64 : Int32) = (0 : Int32) by decide]
    simp only [Int32.and_zero, true_iff]; omega
  · obtain rfl : n = (4 : Int32) := own_eq.mpr q
    rw [Int32.and_assoc, show (((1 : Int32) <<< ((4 : Int32) &&& 31)) - (1 : Int32)) &&& (64 : Int32) = (0 : Int32) by decide]
    simp only [Int32.and_zero, true_iff]; omega
  · obtain rfl : n = (5 : Int32) := own_eq.mpr q
    rw [Int32.and_assoc, show (((1 : Int32) <<< ((5 : Int32) &&& 31)) - (1 : Int32)) &&& (64 : Int32) = (0 : Int32) by decide]
    simp only [Int32.and_zero, true_iff]; omega
  · obtain rfl : n = (6 : Int32) := own_eq.mpr q
    rw [Int32.and_assoc, show (((1 : Int32) <<< ((6 : Int32) &&& 31)) - (1 : Int32)) &&& (64 : Int32) = (0 : Int32) by decide]
    simp only [Int32.and_zero, true_iff]; omega
  · obtain rfl : n = (7 : Int32) := own_eq.mpr q
    rw [Int32.and_assoc, show (((1 : Int32) <<< ((7 : Int32) &&& 31)) - (1 : Int32)) &&& (64 : Int32) = (64 : Int32) by decide]
    rw [w]; omega
theorem own_rk0 (b n : Int32) (h : 0 ≤ n.toInt ∧ n.toInt ≤ 7) (h0 : ((b &&& (((1 : Int32) <<< (n &&& 31)) - (1 : Int32))) &&& (1 : Int32) = 0)) (h1 : ((b &&& (((1 : Int32) <<< (n &&& 31)) - (1 : Int32))) &&& (2 : Int32) = 0)) (h2 : ((b &&& (((1 : Int32) <<< (n &&& 31)) - (1 : Int32))) &&& (4 : Int32) = 0)) (h3 : ((b &&& (((1 : Int32) <<< (n &&& 31)) - (1 : Int32))) &&& (8 : Int32) = 0)) (h4 : ((b &&& (((1 : Int32) <<< (n &&& 31)) - (1 : Int32))) &&& (16 : Int32) = 0)) (h5 : ((b &&& (((1 : Int32) <<< (n &&& 31)) - (1 : Int32))) &&& (32 : Int32) = 0)) (h6 : ((b &&& (((1 : Int32) <<< (n &&& 31)) - (1 : Int32))) &&& (64 : Int32) = 0)) : (((0 : Int32) = 0 ∧ ∀ j : Nat, j < n.toNatClampNeg → (own_B b j).toInt = 0) ∨ (1 ≤ (0 : Int32).toInt ∧ (0 : Int32).toInt ≤ n.toInt ∧ (∀ j : Nat, (j : Int) < (0 : Int32).toInt - 1 → (own_B b j).toInt = 0) ∧ ¬ (own_B b ((0 : Int32).toInt - 1).toNat).toInt = 0)) := by
  have c := own_cl n h.1
  have a0 := own_mb0 b n h
  have a1 := own_mb1 b n h
  have a2 := own_mb2 b n h
  have a3 := own_mb3 b n h
  have a4 := own_mb4 b n h
  have a5 := own_mb5 b n h
  have a6 := own_mb6 b n h
  refine Or.inl ⟨rfl, fun j hj => ?_⟩
  rcases (show j = 0 ∨ j = 1 ∨ j = 2 ∨ j = 3 ∨ j = 4 ∨ j = 5 ∨ j = 6 by omega) with rfl | rfl | rfl | rfl | rfl | rfl | rfl
  · exact a0.mp h0 (by omega)
  · exact a1.mp h1 (by omega)
  · exact a2.mp h2 (by omega)
  · exact a3.mp h3 (by omega)
  · exact a4.mp h4 (by omega)
  · exact a5.mp h5 (by omega)
  · exact a6.mp h6 (by omega)
theorem own_rk1 (b n : Int32) (h : 0 ≤ n.toInt ∧ n.toInt ≤ 7) (h0 : ¬ ((b &&& (((1 : Int32) <<< (n &&& 31)) - (1 : Int32))) &&& (1 : Int32) = 0)) : (((1 : Int32) = 0 ∧ ∀ j : Nat, j < n.toNatClampNeg → (own_B b j).toInt = 0) ∨ (1 ≤ (1 : Int32).toInt ∧ (1 : Int32).toInt ≤ n.toInt ∧ (∀ j : Nat, (j : Int) < (1 : Int32).toInt - 1 → (own_B b j).toInt = 0) ∧ ¬ (own_B b ((1 : Int32).toInt - 1).toNat).toInt = 0)) := by
  have c := own_cl n h.1
  have a0 := own_mb0 b n h
  have z : ¬ (0 < n.toInt → (own_B b 0).toInt = 0) := fun q => h0 (a0.mpr q)
  have hr : (1 : Int32).toInt = 1 := rfl
  have z1 : 0 < n.toInt ∧ ¬ (own_B b 0).toInt = 0 := by
    by_cases y : 0 < n.toInt
    · exact ⟨y, fun q => z fun _ => q⟩
    · exact absurd (fun q => absurd q y) z
  refine Or.inr ⟨by omega, by omega, fun j hj => ?_, ?_⟩
  · omega
  · rw [show ((1 : Int32).toInt - 1).toNat = 0 from rfl]; exact z1.2
theorem own_rk2 (b n : Int32) (h : 0 ≤ n.toInt ∧ n.toInt ≤ 7) (h0 : ((b &&& (((1 : Int32) <<< (n &&& 31)) - (1 : Int32))) &&& (1 : Int32) = 0)) (h1 : ¬ ((b &&& (((1 : Int32) <<< (n &&& 31)) - (1 : Int32))) &&& (2 : Int32) = 0)) : (((2 : Int32) = 0 ∧ ∀ j : Nat, j < n.toNatClampNeg → (own_B b j).toInt = 0) ∨ (1 ≤ (2 : Int32).toInt ∧ (2 : Int32).toInt ≤ n.toInt ∧ (∀ j : Nat, (j : Int) < (2 : Int32).toInt - 1 → (own_B b j).toInt = 0) ∧ ¬ (own_B b ((2 : Int32).toInt - 1).toNat).toInt = 0)) := by
  have c := own_cl n h.1
  have a0 := own_mb0 b n h
  have a1 := own_mb1 b n h
  have z : ¬ (1 < n.toInt → (own_B b 1).toInt = 0) := fun q => h1 (a1.mpr q)
  have hr : (2 : Int32).toInt = 2 := rfl
  have z1 : 1 < n.toInt ∧ ¬ (own_B b 1).toInt = 0 := by
    by_cases y : 1 < n.toInt
    · exact ⟨y, fun q => z fun _ => q⟩
    · exact absurd (fun q => absurd q y) z
  refine Or.inr ⟨by omega, by omega, fun j hj => ?_, ?_⟩
  · obtain rfl : j = 0 := by omega
    exact a0.mp h0 (by omega)
  · rw [show ((2 : Int32).toInt - 1).toNat = 1 from rfl]; exact z1.2
theorem own_rk3 (b n : Int32) (h : 0 ≤ n.toInt ∧ n.toInt ≤ 7) (h0 : ((b &&& (((1 : Int32) <<< (n &&& 31)) - (1 : Int32))) &&& (1 : Int32) = 0)) (h1 : ((b &&& (((1 : Int32) <<< (n &&& 31)) - (1 : Int32))) &&& (2 : Int32) = 0)) (h2 : ¬ ((b &&& (((1 : Int32) <<< (n &&& 31)) - (1 : Int32))) &&& (4 : Int32) = 0)) : (((3 : Int32) = 0 ∧ ∀ j : Nat, j < n.toNatClampNeg → (own_B b j).toInt = 0) ∨ (1 ≤ (3 : Int32).toInt ∧ (3 : Int32).toInt ≤ n.toInt ∧ (∀ j : Nat, (j : Int) < (3 : Int32).toInt - 1 → (own_B b j).toInt = 0) ∧ ¬ (own_B b ((3 : Int32).toInt - 1).toNat).toInt = 0)) := by
  have c := own_cl n h.1
  have a0 := own_mb0 b n h
  have a1 := own_mb1 b n h
  have a2 := own_mb2 b n h
  have z : ¬ (2 < n.toInt → (own_B b 2).toInt = 0) := fun q => h2 (a2.mpr q)
  have hr : (3 : Int32).toInt = 3 := rfl
  have z1 : 2 < n.toInt ∧ ¬ (own_B b 2).toInt = 0 := by
    by_cases y : 2 < n.toInt
    · exact ⟨y, fun q => z fun _ => q⟩
    · exact absurd (fun q => absurd q y) z
  refine Or.inr ⟨by omega, by omega, fun j hj => ?_, ?_⟩
  · rcases (show j = 0 ∨ j = 1 by omega) with rfl | rfl
    · exact a0.mp h0 (by omega)
    · exact a1.mp h1 (by omega)
  · rw [show ((3 : Int32).toInt - 1).toNat = 2 from rfl]; exact z1.2
theorem own_rk4 (b n : Int32) (h : 0 ≤ n.toInt ∧ n.toInt ≤ 7) (h0 : ((b &&& (((1 : Int32) <<< (n &&& 31)) - (1 : Int32))) &&& (1 : Int32) = 0)) (h1 : ((b &&& (((1 : Int32) <<< (n &&& 31)) - (1 : Int32))) &&& (2 : Int32) = 0)) (h2 : ((b &&& (((1 : Int32) <<< (n &&& 31)) - (1 : Int32))) &&& (4 : Int32) = 0)) (h3 : ¬ ((b &&& (((1 : Int32) <<< (n &&& 31)) - (1 : Int32))) &&& (8 : Int32) = 0)) : (((4 : Int32) = 0 ∧ ∀ j : Nat, j < n.toNatClampNeg → (own_B b j).toInt = 0) ∨ (1 ≤ (4 : Int32).toInt ∧ (4 : Int32).toInt ≤ n.toInt ∧ (∀ j : Nat, (j : Int) < (4 : Int32).toInt - 1 → (own_B b j).toInt = 0) ∧ ¬ (own_B b ((4 : Int32).toInt - 1).toNat).toInt = 0)) := by
  have c := own_cl n h.1
  have a0 := own_mb0 b n h
  have a1 := own_mb1 b n h
  have a2 := own_mb2 b n h
  have a3 := own_mb3 b n h
  have z : ¬ (3 < n.toInt → (own_B b 3).toInt = 0) := fun q => h3 (a3.mpr q)
  have hr : (4 : Int32).toInt = 4 := rfl
  have z1 : 3 < n.toInt ∧ ¬ (own_B b 3).toInt = 0 := by
    by_cases y : 3 < n.toInt
    · exact ⟨y, fun q => z fun _ => q⟩
    · exact absurd (fun q => absurd q y) z
  refine Or.inr ⟨by omega, by omega, fun j hj => ?_, ?_⟩
  · rcases (show j = 0 ∨ j = 1 ∨ j = 2 by omega) with rfl | rfl | rfl
    · exact a0.mp h0 (by omega)
    · exact a1.mp h1 (by omega)
    · exact a2.mp h2 (by omega)
  · rw [show ((4 : Int32).toInt - 1).toNat = 3 from rfl]; exact z1.2
theorem own_rk5 (b n : Int32) (h : 0 ≤ n.toInt ∧ n.toInt ≤ 7) (h0 : ((b &&& (((1 : Int32) <<< (n &&& 31)) - (1 : Int32))) &&& (1 : Int32) = 0)) (h1 : ((b &&& (((1 : Int32) <<< (n &&& 31)) - (1 : Int32))) &&& (2 : Int32) = 0)) (h2 : ((b &&& (((1 : Int32) <<< (n &&& 31)) - (1 : Int32))) &&& (4 : Int32) = 0)) (h3 : ((b &&& (((1 : Int32) <<< (n &&& 31)) - (1 : Int32))) &&& (8 : Int32) = 0)) (h4 : ¬ ((b &&& (((1 : Int32) <<< (n &&& 31)) - (1 : Int32))) &&& (16 : Int32) = 0)) : (((5 : Int32) = 0 ∧ ∀ j : Nat, j < n.toNatClampNeg → (own_B b j).toInt = 0) ∨ (1 ≤ (5 : Int32).toInt ∧ (5 : Int32).toInt ≤ n.toInt ∧ (∀ j : Nat, (j : Int) < (5 : Int32).toInt - 1 → (own_B b j).toInt = 0) ∧ ¬ (own_B b ((5 : Int32).toInt - 1).toNat).toInt = 0)) := by
  have c := own_cl n h.1
  have a0 := own_mb0 b n h
  have a1 := own_mb1 b n h
  have a2 := own_mb2 b n h
  have a3 := own_mb3 b n h
  have a4 := own_mb4 b n h
  have z : ¬ (4 < n.toInt → (own_B b 4).toInt = 0) := fun q => h4 (a4.mpr q)
  have hr : (5 : Int32).toInt = 5 := rfl
  have z1 : 4 < n.toInt ∧ ¬ (own_B b 4).toInt = 0 := by
    by_cases y : 4 < n.toInt
    · exact ⟨y, fun q => z fun _ => q⟩
    · exact absurd (fun q => absurd q y) z
  refine Or.inr ⟨by omega, by omega, fun j hj => ?_, ?_⟩
  · rcases (show j = 0 ∨ j = 1 ∨ j = 2 ∨ j = 3 by omega) with rfl | rfl | rfl | rfl
    · exact a0.mp h0 (by omega)
    · exact a1.mp h1 (by omega)
    · exact a2.mp h2 (by omega)
    · exact a3.mp h3 (by omega)
  · rw [show ((5 : Int32).toInt - 1).toNat = 4 from rfl]; exact z1.2
theorem own_rk6 (b n : Int32) (h : 0 ≤ n.toInt ∧ n.toInt ≤ 7) (h0 : ((b &&& (((1 : Int32) <<< (n &&& 31)) - (1 : Int32))) &&& (1 : Int32) = 0)) (h1 : ((b &&& (((1 : Int32) <<< (n &&& 31)) - (1 : Int32))) &&& (2 : Int32) = 0)) (h2 : ((b &&& (((1 : Int32) <<< (n &&& 31)) - (1 : Int32))) &&& (4 : Int32) = 0)) (h3 : ((b &&& (((1 : Int32) <<< (n &&& 31)) - (1 : Int32))) &&& (8 : Int32) = 0)) (h4 : ((b &&& (((1 : Int32) <<< (n &&& 31)) - (1 : Int32))) &&& (16 : Int32) = 0)) (h5 : ¬ ((b &&& (((1 : Int32) <<< (n &&& 31)) - (1 : Int32))) &&& (32 : Int32) = 0)) : (((6 : Int32) = 0 ∧ ∀ j : Nat, j < n.toNatClampNeg → (own_B b j).toInt = 0) ∨ (1 ≤ (6 : Int32).toInt ∧ (6 : Int32).toInt ≤ n.toInt ∧ (∀ j : Nat, (j : Int) < (6 : Int32).toInt - 1 → (own_B b j).toInt = 0) ∧ ¬ (own_B b ((6 : Int32).toInt - 1).toNat).toInt = 0)) := by
  have c := own_cl n h.1
  have a0 := own_mb0 b n h
  have a1 := own_mb1 b n h
  have a2 := own_mb2 b n h
  have a3 := own_mb3 b n h
  have a4 := own_mb4 b n h
  have a5 := own_mb5 b n h
  have z : ¬ (5 < n.toInt → (own_B b 5).toInt = 0) := fun q => h5 (a5.mpr q)
  have hr : (6 : Int32).toInt = 6 := rfl
  have z1 : 5 < n.toInt ∧ ¬ (own_B b 5).toInt = 0 := by
    by_cases y : 5 < n.toInt
    · exact ⟨y, fun q => z fun _ => q⟩
    · exact absurd (fun q => absurd q y) z
  refine Or.inr ⟨by omega, by omega, fun j hj => ?_, ?_⟩
  · rcases (show j = 0 ∨ j = 1 ∨ j = 2 ∨ j = 3 ∨ j = 4 by omega) with rfl | rfl | rfl | rfl | rfl
    · exact a0.mp h0 (by omega)
    · exact a1.mp h1 (by omega)
    · exact a2.mp h2 (by omega)
    · exact a3.mp h3 (by omega)
    · exact a4.mp h4 (by omega)
  · rw [show ((6 : Int32).toInt - 1).toNat = 5 from rfl]; exact z1.2
theorem own_rk7 (b n : Int32) (h : 0 ≤ n.toInt ∧ n.toInt ≤ 7) (h0 : ((b &&& (((1 : Int32) <<< (n &&& 31)) - (1 : Int32))) &&& (1 : Int32) = 0)) (h1 : ((b &&& (((1 : Int32) <<< (n &&& 31)) - (1 : Int32))) &&& (2 : Int32) = 0)) (h2 : ((b &&& (((1 : Int32) <<< (n &&& 31)) - (1 : Int32))) &&& (4 : Int32) = 0)) (h3 : ((b &&& (((1 : Int32) <<< (n &&& 31)) - (1 : Int32))) &&& (8 : Int32) = 0)) (h4 : ((b &&& (((1 : Int32) <<< (n &&& 31)) - (1 : Int32))) &&& (16 : Int32) = 0)) (h5 : ((b &&& (((1 : Int32) <<< (n &&& 31)) - (1 : Int32))) &&& (32 : Int32) = 0)) (h6 : ¬ ((b &&& (((1 : Int32) <<< (n &&& 31)) - (1 : Int32))) &&& (64 : Int32) = 0)) : (((7 : Int32) = 0 ∧ ∀ j : Nat, j < n.toNatClampNeg → (own_B b j).toInt = 0) ∨ (1 ≤ (7 : Int32).toInt ∧ (7 : Int32).toInt ≤ n.toInt ∧ (∀ j : Nat, (j : Int) < (7 : Int32).toInt - 1 → (own_B b j).toInt = 0) ∧ ¬ (own_B b ((7 : Int32).toInt - 1).toNat).toInt = 0)) := by
  have c := own_cl n h.1
  have a0 := own_mb0 b n h
  have a1 := own_mb1 b n h
  have a2 := own_mb2 b n h
  have a3 := own_mb3 b n h
  have a4 := own_mb4 b n h
  have a5 := own_mb5 b n h
  have a6 := own_mb6 b n h
  have z : ¬ (6 < n.toInt → (own_B b 6).toInt = 0) := fun q => h6 (a6.mpr q)
  have hr : (7 : Int32).toInt = 7 := rfl
  have z1 : 6 < n.toInt ∧ ¬ (own_B b 6).toInt = 0 := by
    by_cases y : 6 < n.toInt
    · exact ⟨y, fun q => z fun _ => q⟩
    · exact absurd (fun q => absurd q y) z
  refine Or.inr ⟨by omega, by omega, fun j hj => ?_, ?_⟩
  · rcases (show j = 0 ∨ j = 1 ∨ j = 2 ∨ j = 3 ∨ j = 4 ∨ j = 5 by omega) with rfl | rfl | rfl | rfl | rfl | rfl
    · exact a0.mp h0 (by omega)
    · exact a1.mp h1 (by omega)
    · exact a2.mp h2 (by omega)
    · exact a3.mp h3 (by omega)
    · exact a4.mp h4 (by omega)
    · exact a5.mp h5 (by omega)
  · rw [show ((7 : Int32).toInt - 1).toNat = 6 from rfl]; exact z1.2
theorem ef_1 (m : MethodId) (x0 : Addr) (x1 : Addr) (x2 : Int32) : entryFrame m #[(.ref x0), (.ref x1), (.int x2)] 3 = mkF m 0 #[.val (.ref x0), .val (.ref x1), .val (.int x2)] [] := by first | (simp [entryFrame, mkF, argsToLocals, Value.category]; done) | rfl
theorem pn_com_example_cranfield_cranfield_eval_RankedTopic : plainName "com/example/cranfield/cranfield/eval/RankedTopic" = true := by first | (simp [plainName, overriddenIn]; done) | decide +kernel
theorem d1_0 : decode prog_20_method_1_code 0 = .ok (.aload_n 0, 1) := by decide +kernel
theorem d1_1 : decode prog_20_method_1_code 1 = .ok (.invokespecial 1, 3) := by decide +kernel
theorem d1_4 : decode prog_20_method_1_code 4 = .ok (.aload_n 0, 1) := by decide +kernel
theorem d1_5 : decode prog_20_method_1_code 5 = .ok (.aload_n 1, 1) := by decide +kernel
theorem d1_6 : decode prog_20_method_1_code 6 = .ok (.putfield 7, 3) := by decide +kernel
theorem d1_9 : decode prog_20_method_1_code 9 = .ok (.aload_n 0, 1) := by decide +kernel
theorem d1_10 : decode prog_20_method_1_code 10 = .ok (.iload_n 2, 1) := by decide +kernel
theorem d1_11 : decode prog_20_method_1_code 11 = .ok (.putfield 13, 3) := by decide +kernel
theorem d1_14 : decode prog_20_method_1_code 14 = .ok (.return_, 1) := by decide +kernel
theorem ef_3 (m : MethodId) (x0 : Addr) : entryFrame m #[(.ref x0)] 2 = mkF m 0 #[.val (.ref x0), .unset] [] := by first | (simp [entryFrame, mkF, argsToLocals, Value.category]; done) | rfl
theorem d3_0 : decode prog_20_method_8_code 0 = .ok (.iconst 1, 1) := by decide +kernel
theorem d3_1 : decode prog_20_method_8_code 1 = .ok (.istore_n 1, 1) := by decide +kernel
theorem d3_2 : decode prog_20_method_8_code 2 = .ok (.iload_n 1, 1) := by decide +kernel
theorem d3_3 : decode prog_20_method_8_code 3 = .ok (.aload_n 0, 1) := by decide +kernel
theorem d3_4 : decode prog_20_method_8_code 4 = .ok (.getfield 7, 3) := by decide +kernel
theorem d3_7 : decode prog_20_method_8_code 7 = .ok (.arraylength, 1) := by decide +kernel
theorem d3_8 : decode prog_20_method_8_code 8 = .ok (.if_icmp .gt 25, 3) := by decide +kernel
theorem d3_33 : decode prog_20_method_8_code 33 = .ok (.dconst 0, 1) := by decide +kernel
theorem d3_34 : decode prog_20_method_8_code 34 = .ok (.dreturn, 1) := by decide +kernel
theorem d3_11 : decode prog_20_method_8_code 11 = .ok (.aload_n 0, 1) := by decide +kernel
theorem d3_12 : decode prog_20_method_8_code 12 = .ok (.getfield 7, 3) := by decide +kernel
theorem d3_15 : decode prog_20_method_8_code 15 = .ok (.iload_n 1, 1) := by decide +kernel
theorem d3_16 : decode prog_20_method_8_code 16 = .ok (.iconst 1, 1) := by decide +kernel
theorem d3_17 : decode prog_20_method_8_code 17 = .ok (.isub, 1) := by decide +kernel
theorem d3_18 : decode prog_20_method_8_code 18 = .ok (.baload, 1) := by decide +kernel
theorem d3_19 : decode prog_20_method_8_code 19 = .ok (.ifCond .eq 8, 3) := by decide +kernel
theorem d3_27 : decode prog_20_method_8_code 27 = .ok (.iinc 1 1, 3) := by decide +kernel
theorem d3_30 : decode prog_20_method_8_code 30 = .ok (.goto (-28), 3) := by decide +kernel
theorem d3_22 : decode prog_20_method_8_code 22 = .ok (.dconst 1, 1) := by decide +kernel
theorem d3_23 : decode prog_20_method_8_code 23 = .ok (.iload_n 1, 1) := by decide +kernel
theorem d3_24 : decode prog_20_method_8_code 24 = .ok (.i2d, 1) := by decide +kernel
theorem d3_25 : decode prog_20_method_8_code 25 = .ok (.ddiv, 1) := by decide +kernel
theorem d3_26 : decode prog_20_method_8_code 26 = .ok (.dreturn, 1) := by decide +kernel
theorem ef_0 (m : MethodId) (x0 : Int32) (x1 : Int32) (x2 : Int32) : entryFrame m #[(.int x0), (.int x1), (.int x2)] maxLocals = mkF m 0 #[.val (.int x0), .val (.int x1), .val (.int x2), .unset, .unset, .unset, .unset, .unset, .unset, .unset, .unset, .unset] [] := by first | (simp [entryFrame, mkF, argsToLocals, Value.category, maxLocals]; done) | rfl
theorem pn_com_example_cranfield_cranfield_eval_RankedTopicReciprocalRankPinLaw : plainName "com/example/cranfield/cranfield/eval/RankedTopicReciprocalRankPinLaw" = true := by first | (simp [plainName, overriddenIn]; done) | decide +kernel
theorem pd_0 : parseMethodDescriptor "([ZI)V" = some ⟨[(.array .boolean), .int], none⟩ := by decide +kernel
theorem pd_1 : parseMethodDescriptor "()D" = some ⟨[], some .double⟩ := by decide +kernel
def Q1 (Z : State) (r0 : Addr) (r1 : Addr) (p2 : Int32) (h0 : Heap) (n0 : Nat) (v : Option Value) (h : Heap) (L : List Loc) : Prop := v = none ∧ Fr n0 L ∧ Keep h0 h [r0] ∧ Exa Z h r0 "com/example/cranfield/cranfield/eval/RankedTopic" ∧ Fld Z h r0 "com/example/cranfield/cranfield/eval/RankedTopic" "relevant" "[Z" (.ref r1) ∧ Fld Z h r0 "com/example/cranfield/cranfield/eval/RankedTopic" "relevantCount" "I" (.int p2)
set_option maxRecDepth 65536 in
set_option maxHeartbeats 40000000 in
theorem rm1 (l : Launch) (Z : State) (a0 : Array Value) (hw : ∀ d ∈ tables_1, d.before a0 Z = true) (ws : List Jvm.Cond) (r0 : Addr) (r1 : Addr) (p2 : Int32) (h0 : Heap) (n0 : Nat) (Z0 : n0 ≤ h0.size) (E_r0 : Exa Z h0 r0 "com/example/cranfield/cranfield/eval/RankedTopic") (F_0 : Fld Z h0 r0 "com/example/cranfield/cranfield/eval/RankedTopic" "relevant" "[Z" .null) (F_1 : Fld Z h0 r0 "com/example/cranfield/cranfield/eval/RankedTopic" "relevantCount" "I" (.int (0 : Int32))) (g_r0 : n0 ≤ r0) :
    MetFree l (⟨"com/example/cranfield/cranfield/eval/RankedTopic", "<init>", "([ZI)V"⟩ : MethodName) (head1 (Jvm.Cond.code (⟨"com/example/cranfield/cranfield/eval/RankedTopic", "<init>", "([ZI)V"⟩ : MethodName) prog_20_method_1_code 3 none :: ws) ({ frames := 1, cells := 0, slots := 0, locals := 12 } : Room)) (fun a U => a = #[(.ref r0), (.ref r1), (.int p2)] ∧ Z.Warmed39 U.vm ∧ U.heap = h0) (fun _ _ _ _ _ => True) (fun _ U o U' => ∃ v L, o = .returned v ∧ Q1 Z r0 r1 p2 h0 n0 v U'.heap L ∧ FrameEnd U o U' L ({ frames := 1, cells := 0, slots := 0, locals := 12 } : Room).cells ({ frames := 1, cells := 0, slots := 0, locals := 12 } : Room).slots) := by
  refine MetFree.of_bodySF (plainFor_of_name pn_com_example_cranfield_cranfield_eval_RankedTopic) hisR ?_
  intro p e s m args below meth c s₁ Bd hml0 hP hK
  obtain ⟨rfl, hZ, hh⟩ := hP
  have hx := Bd.exec
  have hby := Bd.bytes
  have hml : c.maxLocals = 3 := hml0
  have hown : s.vm.findClass "com/example/cranfield/cranfield/eval/RankedTopic" = some m.cls := findClass_of_methodNamed Bd.named
  have hnm := (name_of_methodNamed Bd.named Bd.method).1
  have X0 : Stand p l e ({ frames := 1, cells := 0, slots := 0, locals := 12 } : Room) s m #[(.ref r0), (.ref r1), (.int p2)] below meth c s₁ [] 0 0 := Stand.of_body Bd
  have e0 : s₁.heap = h0 := by rw [← hh, Bd.state]; rfl
  have N0 := Fr.nil n0
  have pre0 : ∀ t, Steps p.tables e below (s₁.setTop (mkF m 0 #[.val (.ref r0), .val (.ref r1), .val (.int p2)] [])) t → Steps p.tables e below (s₁.setTop (entryFrame m #[(.ref r0), (.ref r1), (.int p2)] 3)) t := fun t k => castTop (ef_1 m r0 r1 p2) k
  have preS : ∀ t, Steps p.tables e below (s₁.setTop (mkF m 0 #[.val (.ref r0), .val (.ref r1), .val (.int p2)] [])) t → Steps p.tables e below (s₁.setTop (mkF m 0 #[.val (.ref r0), .val (.ref r1), .val (.int p2)] [])) t := fun t k => k
  have KR : Keep h0 h0 [r0] := Keep.refl _ _
  obtain ⟨T1, X1, e1, st1⟩ := initO X0 hx hZ hown (hw _ (List.mem_of_getElem? (i := 8) rfl)) (hw _ (List.mem_of_getElem? (i := 9) rfl)) (hw _ (List.mem_of_getElem? (i := 10) rfl)) e0 (g := (mkF m 1 #[.val (.ref r0), .val (.ref r1), .val (.int p2)] [(.ref r0)])) rfl (by rw [hml]; rfl) rfl (hb hby d1_1) (by decide) (W := 0) (by show 2 * 0 + _ ≤ _; exact Nat.le_of_eq rfl) (by decide)
  obtain ⟨T2, h2, X2, e2, W2, st2⟩ := putF X1 hx hZ hown (host := "") (Or.inl (hw _ (List.mem_of_getElem? (i := 11) rfl))) Via.refl e1 F_0 E_r0 (Or.inr ⟨(hw _ (List.mem_of_getElem? (i := 12) rfl)), rfl, hnm⟩) (hw _ (List.mem_of_getElem? (i := 3) rfl)) (ty := (.array .boolean)) (by decide) rfl rfl (g := (mkF m 6 #[.val (.ref r0), .val (.ref r1), .val (.int p2)] [(.ref r1), (.ref r0)])) rfl rfl (hb hby d1_6)
  have Fw2 : Fld Z h2 r0 "com/example/cranfield/cranfield/eval/RankedTopic" "relevant" "[Z" (.ref r1) := F_0.same W2
  have N2 := Fr.snoc X2 N0 g_r0
  have Z2 : n0 ≤ h2.size := Nat.le_trans Z0 (Keep.of_wr W2).1
  have K2 : Keep h0 h2 [r0] := KR.wr W2 (Or.inl (List.mem_of_getElem? (i := 0) rfl))
  have c3 : Exa Z h2 r0 "com/example/cranfield/cranfield/eval/RankedTopic" := E_r0.wr W2
  have c4 : Fld Z h2 r0 "com/example/cranfield/cranfield/eval/RankedTopic" "relevantCount" "I" (.int (0 : Int32)) := F_1.other W2 (Or.inr (slot_ne (Or.inr (hw _ (List.mem_of_getElem? (i := 14) rfl))) (Or.inr (hw _ (List.mem_of_getElem? (i := 12) rfl))) (by decide) (t := .int) (t' := (.array .boolean)) (by decide) (by decide)))
  obtain ⟨T5, h5, X5, e5, W5, st5⟩ := putF X2 hx hZ hown (host := "") (Or.inl (hw _ (List.mem_of_getElem? (i := 13) rfl))) Via.refl e2 c4 c3 (Or.inr ⟨(hw _ (List.mem_of_getElem? (i := 14) rfl)), rfl, hnm⟩) (hw _ (List.mem_of_getElem? (i := 3) rfl)) (ty := .int) (by decide) rfl rfl (g := (mkF m 11 #[.val (.ref r0), .val (.ref r1), .val (.int p2)] [(.int p2), (.ref r0)])) rfl rfl (hb hby d1_11)
  have Fw5 : Fld Z h5 r0 "com/example/cranfield/cranfield/eval/RankedTopic" "relevantCount" "I" (.int p2) := c4.same W5
  have N5 := Fr.snoc X5 N2 g_r0
  have Z5 : n0 ≤ h5.size := Nat.le_trans Z2 (Keep.of_wr W5).1
  have K5 : Keep h0 h5 [r0] := K2.wr W5 (Or.inl (List.mem_of_getElem? (i := 0) rfl))
  have c6 : Exa Z h5 r0 "com/example/cranfield/cranfield/eval/RankedTopic" := c3.wr W5
  have c7 : Fld Z h5 r0 "com/example/cranfield/cranfield/eval/RankedTopic" "relevant" "[Z" (.ref r1) := Fw2.other W5 (Or.inr (slot_ne (Or.inr (hw _ (List.mem_of_getElem? (i := 12) rfl))) (Or.inr (hw _ (List.mem_of_getElem? (i := 14) rfl))) (by decide) (t := (.array .boolean)) (t' := .int) (by decide) (by decide)))
  obtain ⟨fs, hr, hrun, hended, hW, hsame⟩ := X5.leave (v := none) (fun _ => rfl)
  refine ⟨_, _, pre0 _ (preS _ ?_), hrun, hended, _, _, rfl, ?_, ⟨_, rfl⟩, hW, hsame.mono (by decide) (by decide)⟩
  · skip
    show Steps p.tables e below (s₁.setTop (mkF m 0 #[.val (.ref r0), .val (.ref r1), .val (.int p2)] [])) _
    refine XS.aloadN X0.here hx rfl (hb hby d1_0) rfl rfl ?_
    show Steps p.tables e below (s₁.setTop (mkF m 1 #[.val (.ref r0), .val (.ref r1), .val (.int p2)] [(.ref r0)])) _
    refine st1 _ ?_
    show Steps p.tables e below (T1.setTop (mkF m 4 #[.val (.ref r0), .val (.ref r1), .val (.int p2)] [])) _
    refine XS.aloadN X1.here hx rfl (hb hby d1_4) rfl rfl ?_
    show Steps p.tables e below (T1.setTop (mkF m 5 #[.val (.ref r0), .val (.ref r1), .val (.int p2)] [(.ref r0)])) _
    refine XS.aloadN X1.here hx rfl (hb hby d1_5) rfl rfl ?_
    show Steps p.tables e below (T1.setTop (mkF m 6 #[.val (.ref r0), .val (.ref r1), .val (.int p2)] [(.ref r1), (.ref r0)])) _
    refine st2 _ ?_
    show Steps p.tables e below (T2.setTop (mkF m 9 #[.val (.ref r0), .val (.ref r1), .val (.int p2)] [])) _
    refine XS.aloadN X2.here hx rfl (hb hby d1_9) rfl rfl ?_
    show Steps p.tables e below (T2.setTop (mkF m 10 #[.val (.ref r0), .val (.ref r1), .val (.int p2)] [(.ref r0)])) _
    refine XS.iloadN X2.here hx rfl (hb hby d1_10) rfl ?_
    show Steps p.tables e below (T2.setTop (mkF m 11 #[.val (.ref r0), .val (.ref r1), .val (.int p2)] [(.int p2), (.ref r0)])) _
    refine st5 _ ?_
    show Steps p.tables e below (T5.setTop (mkF m 14 #[.val (.ref r0), .val (.ref r1), .val (.int p2)] [])) _
    exact X5.returnOut hx Bd.returns (hb hby d1_14) hr
  · show Q1 Z r0 r1 p2 h0 n0 _ T5.heap _
    rw [e5]
    exact ⟨rfl, N5, K5, c6, c7, Fw5⟩
def Q3 (Z : State) (r0 : Addr) (ra : Addr) (cb : Cell) (ln : Int32) (B : Nat → Int32) (h0 : Heap) (n0 : Nat) (v : Option Value) (h : Heap) (L : List Loc) : Prop := ∃ r : Int32, v = some (.double (own_rr r)) ∧ Fr n0 L ∧ h = h0 ∧ ((r = 0 ∧ ∀ j : Nat, j < ln.toNatClampNeg → (B j).toInt = 0) ∨ (1 ≤ r.toInt ∧ r.toInt ≤ ln.toInt ∧ (∀ j : Nat, (j : Int) < r.toInt - 1 → (B j).toInt = 0) ∧ ¬ (B (r.toInt - 1).toNat).toInt = 0))
set_option maxRecDepth 65536 in
set_option maxHeartbeats 40000000 in
theorem rm3 (l : Launch) (Z : State) (a0 : Array Value) (hw : ∀ d ∈ tables_1, d.before a0 Z = true) (ws : List Jvm.Cond) (r0 : Addr) (ra : Addr) (cb : Cell) (ln : Int32) (B : Nat → Int32) (h0 : Heap) (n0 : Nat) (Z0 : n0 ≤ h0.size) (hln : ln.toInt ≤ 7) (FR : Fld Z h0 r0 "com/example/cranfield/cranfield/eval/RankedTopic" "relevant" "[Z" (.ref ra)) (AB : Arr Z h0 ra cb .boolean) (SB : cb.slots.size = ln.toNatClampNeg) (MB : ¬ ln < 0) (HB : ∀ j : Nat, j < ln.toNatClampNeg → cb.slots[j]? = some (.int (B j))) :
    MetFree l (⟨"com/example/cranfield/cranfield/eval/RankedTopic", "reciprocalRank", "()D"⟩ : MethodName) (head1 (Jvm.Cond.code (⟨"com/example/cranfield/cranfield/eval/RankedTopic", "reciprocalRank", "()D"⟩ : MethodName) prog_20_method_8_code 2 (some .double) :: ws) ({ frames := 0, cells := 0, slots := 0, locals := 0 } : Room)) (fun a U => a = #[(.ref r0)] ∧ Z.Warmed39 U.vm ∧ U.heap = h0) (fun _ _ _ _ _ => True) (fun _ U o U' => ∃ v L, o = .returned v ∧ Q3 Z r0 ra cb ln B h0 n0 v U'.heap L ∧ FrameEnd U o U' L ({ frames := 0, cells := 0, slots := 0, locals := 0 } : Room).cells ({ frames := 0, cells := 0, slots := 0, locals := 0 } : Room).slots) := by
  refine MetFree.of_bodySF (plainFor_of_name pn_com_example_cranfield_cranfield_eval_RankedTopic) hisR ?_
  intro p e s m args below meth c s₁ Bd hml0 hP hK
  obtain ⟨rfl, hZ, hh⟩ := hP
  have hx := Bd.exec
  have hby := Bd.bytes
  have hml : c.maxLocals = 2 := hml0
  have hown : s.vm.findClass "com/example/cranfield/cranfield/eval/RankedTopic" = some m.cls := findClass_of_methodNamed Bd.named
  have hnm := (name_of_methodNamed Bd.named Bd.method).1
  have X0 : Stand p l e ({ frames := 0, cells := 0, slots := 0, locals := 0 } : Room) s m #[(.ref r0)] below meth c s₁ [] 0 0 := Stand.of_body Bd
  have e0 : s₁.heap = h0 := by rw [← hh, Bd.state]; rfl
  have N0 := Fr.nil n0
  have pre0 : ∀ t, Steps p.tables e below (s₁.setTop (mkF m 0 #[.val (.ref r0), .unset] [])) t → Steps p.tables e below (s₁.setTop (entryFrame m #[(.ref r0)] 2)) t := fun t k => castTop (ef_3 m r0) k
  have preS : ∀ t, Steps p.tables e below (s₁.setTop (mkF m 0 #[.val (.ref r0), .unset] [])) t → Steps p.tables e below (s₁.setTop (mkF m 0 #[.val (.ref r0), .unset] [])) t := fun t k => k
  have MB' := own_nlt.mp MB
  rw [show (0 : Int32).toInt = 0 from rfl] at MB'
  have pre1 : ∀ t, Steps p.tables e below (s₁.setTop (mkF m 2 #[.val (.ref r0), .val (.int (1 : Int32))] [])) t → Steps p.tables e below (s₁.setTop (mkF m 0 #[.val (.ref r0), .unset] [])) t := fun t k => preS t (by
    show Steps p.tables e below (s₁.setTop (mkF m 0 #[.val (.ref r0), .unset] [])) _
    refine XS.iconst X0.here hx rfl (hb hby d3_0) ?_
    show Steps p.tables e below (s₁.setTop (mkF m 1 #[.val (.ref r0), .unset] [(.int (1 : Int32))])) _
    refine XS.istoreN X0.here hx rfl (hb hby d3_1) rfl (l' := #[.val (.ref r0), .val (.int (1 : Int32))]) rfl ?_
    exact k)
  have lp : ∀ (k : Nat) (rk : Int32) (TL : State), Stand p l e ({ frames := 0, cells := 0, slots := 0, locals := 0 } : Room) s m #[(.ref r0)] below meth c TL [] 0 0 → TL.heap = h0 → 1 ≤ rk.toInt → rk.toInt + k = ln.toInt + 1 → (∀ j : Nat, (j : Int) < rk.toInt - 1 → (B j).toInt = 0) → ∃ s₂ o, Steps p.tables e below (TL.setTop (mkF m 2 #[.val (.ref r0), .val (.int rk)] [])) s₂ ∧ s₂.status = .running ∧ Ended s₂ below o ∧ ∃ v L, o = .returned v ∧ Q3 Z r0 ra cb ln B h0 n0 v s₂.heap L ∧ FrameEnd s o s₂ L ({ frames := 0, cells := 0, slots := 0, locals := 0 } : Room).cells ({ frames := 0, cells := 0, slots := 0, locals := 0 } : Room).slots := by
    intro k
    induction k with
    | zero =>
      intro rk TL XL eL hr1 hr2 hr3
      have preL : ∀ t, Steps p.tables e below (TL.setTop (mkF m 2 #[.val (.ref r0), .val (.int rk)] [])) t → Steps p.tables e below (TL.setTop (mkF m 2 #[.val (.ref r0), .val (.int rk)] [])) t := fun t k => k
      have hlc := own_cl ln (by omega)
      obtain ⟨T2, X2, e2, st2⟩ := getF XL hx hZ hown (host := "") (Or.inl (hw _ (List.mem_of_getElem? (i := 11) rfl))) Via.refl eL FR (g := (mkF m 4 #[.val (.ref r0), .val (.int rk)] [(.ref r0), (.int rk)])) rfl rfl (hb hby d3_4)
      have hc3 : ln < rk := own_lt.mpr (show ln.toInt < rk.toInt by omega)
      have ohc3 : ln.toInt < rk.toInt := own_lt.mp hc3
      obtain ⟨fs, hr, hrun, hended, hW, hsame⟩ := X2.leave (v := some (.double FP.dconst0)) (fun h => by rw [Bd.returns] at h; cases h)
      refine ⟨_, _, preL _ ?_, hrun, hended, _, _, rfl, ?_, ⟨_, rfl⟩, hW, hsame.mono (by decide) (by decide)⟩
      · skip
        show Steps p.tables e below (TL.setTop (mkF m 2 #[.val (.ref r0), .val (.int rk)] [])) _
        refine XS.iloadN XL.here hx rfl (hb hby d3_2) rfl ?_
        show Steps p.tables e below (TL.setTop (mkF m 3 #[.val (.ref r0), .val (.int rk)] [(.int rk)])) _
        refine XS.aloadN XL.here hx rfl (hb hby d3_3) rfl rfl ?_
        show Steps p.tables e below (TL.setTop (mkF m 4 #[.val (.ref r0), .val (.int rk)] [(.ref r0), (.int rk)])) _
        refine st2 _ ?_
        show Steps p.tables e below (T2.setTop (mkF m 7 #[.val (.ref r0), .val (.int rk)] [(.ref ra), (.int rk)])) _
        refine X2.arraylength hx (by rw [e2]; exact AB.1) (State.isArrayOf_alike hZ.alike AB.2.1) (g := (mkF m 7 #[.val (.ref r0), .val (.int rk)] [(.ref ra), (.int rk)])) rfl rfl (hb hby d3_7) _ ?_
        rw [len_of SB MB]
        show Steps p.tables e below (T2.setTop (mkF m 8 #[.val (.ref r0), .val (.int rk)] [(.int ln), (.int rk)])) _
        refine XS.icmpYes X2.here hx rfl (pc0 := 8) (pc' := 33) rfl (hb hby d3_8) rfl (tlt hc3).2.2.1 (by decide) (by decide) ?_
        show Steps p.tables e below (T2.setTop (mkF m 33 #[.val (.ref r0), .val (.int rk)] [])) _
        refine XS.dconst0 X2.here hx rfl (hb hby d3_33) rfl ?_
        show Steps p.tables e below (T2.setTop (mkF m 34 #[.val (.ref r0), .val (.int rk)] [(.double FP.dconst0)])) _
        jvm_step X2.here [X2.here.top, hx, (hb hby d3_34), X2.method', Bd.returns, narrow]
        first | (intro acts; rw [hr _ acts rfl rfl rfl]) | rw [hr _ _ rfl rfl rfl]
        exact Steps.refl _
      · show Q3 Z r0 ra cb ln B h0 n0 _ T2.heap _
        rw [e2]
        exact ⟨0, rfl, N0, rfl, Or.inl ⟨rfl, fun j hj => hr3 j (by omega)⟩⟩
    | succ k ih =>
      intro rk TL XL eL hr1 hr2 hr3
      have preL : ∀ t, Steps p.tables e below (TL.setTop (mkF m 2 #[.val (.ref r0), .val (.int rk)] [])) t → Steps p.tables e below (TL.setTop (mkF m 2 #[.val (.ref r0), .val (.int rk)] [])) t := fun t k => k
      have hrr := rng32 rk
      have hlr := rng32 ln
      have hsb := c_isub rk (1 : Int32)
      have had := c_iadd rk (1 : Int32)
      rw [show (1 : Int32).toInt = 1 from rfl] at hsb had
      have hsr := rng32 (rk - (1 : Int32))
      have har := rng32 (rk + (1 : Int32))
      have hsv : (rk - (1 : Int32)).toInt = rk.toInt - 1 := by clear had har; omega
      have hav : (rk + (1 : Int32)).toInt = rk.toInt + 1 := by clear hsb hsr hsv; omega
      clear hsb had hsr har
      have hsc := own_cl (rk - (1 : Int32)) (by omega)
      obtain ⟨T4, X4, e4, st4⟩ := getF XL hx hZ hown (host := "") (Or.inl (hw _ (List.mem_of_getElem? (i := 11) rfl))) Via.refl eL FR (g := (mkF m 4 #[.val (.ref r0), .val (.int rk)] [(.ref r0), (.int rk)])) rfl rfl (hb hby d3_4)
      have hc5 : ¬ (ln < rk) := own_nlt.mpr (show rk.toInt ≤ ln.toInt by omega)
      have ohc5 : rk.toInt ≤ ln.toInt := own_nlt.mp hc5
      obtain ⟨T6, X6, e6, st6⟩ := getF X4 hx hZ hown (host := "") (Or.inl (hw _ (List.mem_of_getElem? (i := 11) rfl))) Via.refl e4 FR (g := (mkF m 12 #[.val (.ref r0), .val (.int rk)] [(.ref r0)])) rfl rfl (hb hby d3_12)
      have hin7 : ¬ ((rk - (1 : Int32)) < 0 ∨ cb.slots.size ≤ ((rk - (1 : Int32))).toNatClampNeg) := inb_of SB ⟨own_nlt.mpr (show 0 ≤ (rk - (1 : Int32)).toInt by omega), own_lt.mpr (show (rk - (1 : Int32)).toInt < ln.toInt by omega)⟩
      have hat7 : cb.slots[((rk - (1 : Int32))).toNatClampNeg]? = some (.int (B ((rk - (1 : Int32))).toNatClampNeg)) := HB _ (own_cl2 (by omega) (by omega))
      have pre9 : ∀ t, Steps p.tables e below (T6.setTop (mkF m 19 #[.val (.ref r0), .val (.int rk)] [(.int (B ((rk - (1 : Int32))).toNatClampNeg))])) t → Steps p.tables e below (TL.setTop (mkF m 2 #[.val (.ref r0), .val (.int rk)] [])) t := fun t k => preL t (by
        show Steps p.tables e below (TL.setTop (mkF m 2 #[.val (.ref r0), .val (.int rk)] [])) _
        refine XS.iloadN XL.here hx rfl (hb hby d3_2) rfl ?_
        show Steps p.tables e below (TL.setTop (mkF m 3 #[.val (.ref r0), .val (.int rk)] [(.int rk)])) _
        refine XS.aloadN XL.here hx rfl (hb hby d3_3) rfl rfl ?_
        show Steps p.tables e below (TL.setTop (mkF m 4 #[.val (.ref r0), .val (.int rk)] [(.ref r0), (.int rk)])) _
        refine st4 _ ?_
        show Steps p.tables e below (T4.setTop (mkF m 7 #[.val (.ref r0), .val (.int rk)] [(.ref ra), (.int rk)])) _
        refine X4.arraylength hx (by rw [e4]; exact AB.1) (State.isArrayOf_alike hZ.alike AB.2.1) (g := (mkF m 7 #[.val (.ref r0), .val (.int rk)] [(.ref ra), (.int rk)])) rfl rfl (hb hby d3_7) _ ?_
        rw [len_of SB MB]
        show Steps p.tables e below (T4.setTop (mkF m 8 #[.val (.ref r0), .val (.int rk)] [(.int ln), (.int rk)])) _
        refine XS.icmpNo X4.here hx rfl (hb hby d3_8) rfl (flt hc5).2.2.1 ?_
        show Steps p.tables e below (T4.setTop (mkF m 11 #[.val (.ref r0), .val (.int rk)] [])) _
        refine XS.aloadN X4.here hx rfl (hb hby d3_11) rfl rfl ?_
        show Steps p.tables e below (T4.setTop (mkF m 12 #[.val (.ref r0), .val (.int rk)] [(.ref r0)])) _
        refine st6 _ ?_
        show Steps p.tables e below (T6.setTop (mkF m 15 #[.val (.ref r0), .val (.int rk)] [(.ref ra)])) _
        refine XS.iloadN X6.here hx rfl (hb hby d3_15) rfl ?_
        show Steps p.tables e below (T6.setTop (mkF m 16 #[.val (.ref r0), .val (.int rk)] [(.int rk), (.ref ra)])) _
        refine XS.iconst X6.here hx rfl (hb hby d3_16) ?_
        show Steps p.tables e below (T6.setTop (mkF m 17 #[.val (.ref r0), .val (.int rk)] [(.int (1 : Int32)), (.int rk), (.ref ra)])) _
        refine XS.isub X6.here hx rfl (hb hby d3_17) rfl ?_
        show Steps p.tables e below (T6.setTop (mkF m 18 #[.val (.ref r0), .val (.int rk)] [(.int (rk - (1 : Int32))), (.ref ra)])) _
        refine X6.baloadBooleans hx (j := (rk - (1 : Int32))) (v := (.int (B ((rk - (1 : Int32))).toNatClampNeg))) (by rw [e6]; exact AB.1) (State.isArrayOf_alike hZ.alike AB.2.1) AB.2.2 hin7 hat7 (g := (mkF m 18 #[.val (.ref r0), .val (.int rk)] [(.int (rk - (1 : Int32))), (.ref ra)])) rfl rfl (hb hby d3_18) _ ?_
        exact k)
      by_cases hc8 : (B ((rk - (1 : Int32))).toNatClampNeg) = (0 : Int32)
      · skip
        have ohc8 : (B ((rk - (1 : Int32))).toNatClampNeg).toInt = 0 := own_eq.mp hc8
        have pre10 : ∀ t, Steps p.tables e below (T6.setTop (mkF m 2 #[.val (.ref r0), .val (.int (rk + (1 : Int32)))] [])) t → Steps p.tables e below (TL.setTop (mkF m 2 #[.val (.ref r0), .val (.int rk)] [])) t := fun t k => pre9 t (by
          show Steps p.tables e below (T6.setTop (mkF m 19 #[.val (.ref r0), .val (.int rk)] [(.int (B ((rk - (1 : Int32))).toNatClampNeg))])) _
          refine XS.ifYes X6.here hx rfl (pc0 := 19) (pc' := 27) rfl (hb hby d3_19) rfl ((if0 _ _).trans (teq hc8).1) (by decide) (by decide) ?_
          show Steps p.tables e below (T6.setTop (mkF m 27 #[.val (.ref r0), .val (.int rk)] [])) _
          refine XS.iinc X6.here hx rfl (hb hby d3_27) rfl (l' := #[.val (.ref r0), .val (.int (rk + (1 : Int32)))]) rfl ?_
          show Steps p.tables e below (T6.setTop (mkF m 30 #[.val (.ref r0), .val (.int (rk + (1 : Int32)))] [])) _
          refine XS.goto X6.here hx rfl (pc0 := 30) (pc' := 2) rfl (hb hby d3_30) (by decide) (by decide) ?_
          exact k)
        obtain ⟨s₂, o, q1, q2⟩ := ih (rk + (1 : Int32)) T6 X6 e6 (by omega) (by omega) (fun j hj => by
          by_cases hjk : (j : Int) < rk.toInt - 1
          · exact hr3 j hjk
          · rw [show j = (rk - (1 : Int32)).toNatClampNeg by omega]; exact ohc8)
        exact ⟨s₂, o, pre10 _ q1, q2⟩
      · skip
        have ohc8 : ¬ ((B ((rk - (1 : Int32))).toNatClampNeg).toInt = 0) := own_neq.mp hc8
        obtain ⟨fs, hr, hrun, hended, hW, hsame⟩ := X6.leave (v := some (.double (FP.ddiv FP.dconst1 (FP.i2d rk)))) (fun h => by rw [Bd.returns] at h; cases h)
        refine ⟨_, _, pre9 _ ?_, hrun, hended, _, _, rfl, ?_, ⟨_, rfl⟩, hW, hsame.mono (by decide) (by decide)⟩
        · skip
          show Steps p.tables e below (T6.setTop (mkF m 19 #[.val (.ref r0), .val (.int rk)] [(.int (B ((rk - (1 : Int32))).toNatClampNeg))])) _
          refine XS.ifNo X6.here hx rfl (hb hby d3_19) rfl ((if0 _ _).trans (feq hc8).1) ?_
          show Steps p.tables e below (T6.setTop (mkF m 22 #[.val (.ref r0), .val (.int rk)] [])) _
          refine XS.dconst1 X6.here hx rfl (hb hby d3_22) rfl ?_
          show Steps p.tables e below (T6.setTop (mkF m 23 #[.val (.ref r0), .val (.int rk)] [(.double FP.dconst1)])) _
          refine XS.iloadN X6.here hx rfl (hb hby d3_23) rfl ?_
          show Steps p.tables e below (T6.setTop (mkF m 24 #[.val (.ref r0), .val (.int rk)] [(.int rk), (.double FP.dconst1)])) _
          refine XS.i2dS X6.here hx rfl (hb hby d3_24) rfl rfl ?_
          show Steps p.tables e below (T6.setTop (mkF m 25 #[.val (.ref r0), .val (.int rk)] [(.double (FP.i2d rk)), (.double FP.dconst1)])) _
          refine XS.ddivS X6.here hx rfl (hb hby d3_25) rfl (own_nn rk (fun q => by rw [q] at hr1; exact absurd hr1 (by decide))) rfl ?_
          show Steps p.tables e below (T6.setTop (mkF m 26 #[.val (.ref r0), .val (.int rk)] [(.double (FP.ddiv FP.dconst1 (FP.i2d rk)))])) _
          jvm_step X6.here [X6.here.top, hx, (hb hby d3_26), X6.method', Bd.returns, narrow]
          first | (intro acts; rw [hr _ acts rfl rfl rfl]) | rw [hr _ _ rfl rfl rfl]
          exact Steps.refl _
        · show Q3 Z r0 ra cb ln B h0 n0 _ T6.heap _
          rw [e6]
          refine ⟨rk, ?_, N0, rfl, Or.inr ⟨hr1, by omega, hr3, ?_⟩⟩
          · rw [own_rr1 (fun q => by rw [q] at hr1; exact absurd hr1 (by decide))]
          · rw [show (rk.toInt - 1).toNat = (rk - (1 : Int32)).toNatClampNeg by omega]; exact ohc8
  obtain ⟨s₂, o, q1, q2⟩ := lp ln.toInt.toNat (1 : Int32) s₁ X0 e0 (by decide) (by rw [show (1 : Int32).toInt = 1 from rfl]; omega) (fun j hj => by rw [show (1 : Int32).toInt = 1 from rfl] at hj; omega)
  exact ⟨s₂, o, pre0 _ (pre1 _ q1), q2⟩
def Q0 (Z : State) (p0 : Int32) (p1 : Int32) (p2 : Int32) (h0 : Heap) (n0 : Nat) (v : Option Value) (h : Heap) (L : List Loc) : Prop := v = some (.int 1) ∧ Fr n0 L
set_option maxRecDepth 65536 in
set_option maxHeartbeats 40000000 in
theorem rm0 (l : Launch) (Z : State) (a0 : Array Value) (hw : ∀ d ∈ tables_1, d.before a0 Z = true) (ws : List Jvm.Cond) (p0 : Int32) (p1 : Int32) (p2 : Int32) (h0 : Heap) (n0 : Nat) (Z0 : n0 ≤ h0.size) :
    MetFree l x (head1 (Jvm.Cond.code x code maxLocals ret :: ws) room_1) (fun a U => a = #[(.int p0), (.int p1), (.int p2)] ∧ Z.Warmed39 U.vm ∧ U.heap = h0) (fun _ _ _ _ _ => True) (fun _ U o U' => ∃ v L, o = .returned v ∧ Q0 Z p0 p1 p2 h0 n0 v U'.heap L ∧ FrameEnd U o U' L room_1.cells room_1.slots) := by
  refine MetFree.of_bodySF (plainFor_of_name pn_com_example_cranfield_cranfield_eval_RankedTopicReciprocalRankPinLaw) hisR ?_
  intro p e s m args below meth c s₁ Bd hml0 hP hK
  obtain ⟨rfl, hZ, hh⟩ := hP
  have hx := Bd.exec
  have hby := Bd.bytes
  have hml : c.maxLocals = 12 := hml0
  have hown : s.vm.findClass "com/example/cranfield/cranfield/eval/RankedTopicReciprocalRankPinLaw" = some m.cls := findClass_of_methodNamed Bd.named
  have hnm := (name_of_methodNamed Bd.named Bd.method).1
  have X0 : Stand p l e room_1 s m #[(.int p0), (.int p1), (.int p2)] below meth c s₁ [] 0 0 := Stand.of_body Bd
  have e0 : s₁.heap = h0 := by rw [← hh, Bd.state]; rfl
  have N0 := Fr.nil n0
  have pre0 : ∀ t, Steps p.tables e below (s₁.setTop (mkF m 0 #[.val (.int p0), .val (.int p1), .val (.int p2), .unset, .unset, .unset, .unset, .unset, .unset, .unset, .unset, .unset] [])) t → Steps p.tables e below (s₁.setTop (entryFrame m #[(.int p0), (.int p1), (.int p2)] maxLocals)) t := fun t k => castTop (ef_0 m p0 p1 p2) k
  have preS : ∀ t, Steps p.tables e below (s₁.setTop (mkF m 0 #[.val (.int p0), .val (.int p1), .val (.int p2), .unset, .unset, .unset, .unset, .unset, .unset, .unset, .unset, .unset] [])) t → Steps p.tables e below (s₁.setTop (mkF m 0 #[.val (.int p0), .val (.int p1), .val (.int p2), .unset, .unset, .unset, .unset, .unset, .unset, .unset, .unset, .unset] [])) t := fun t k => k
  have KR : Keep h0 h0 [] := Keep.refl _ _
  have pre1 : ∀ t, Steps p.tables e below (s₁.setTop (mkF m 8 #[.val (.int p0), .val (.int p1), .val (.int p2), .val (.int ((p0 &&& (2147483647 : Int32)) % (8 : Int32))), .unset, .unset, .unset, .unset, .unset, .unset, .unset, .unset] [])) t → Steps p.tables e below (s₁.setTop (mkF m 0 #[.val (.int p0), .val (.int p1), .val (.int p2), .unset, .unset, .unset, .unset, .unset, .unset, .unset, .unset, .unset] [])) t := fun t k => preS t (by
    show Steps p.tables e below (s₁.setTop (mkF m 0 #[.val (.int p0), .val (.int p1), .val (.int p2), .unset, .unset, .unset, .unset, .unset, .unset, .unset, .unset, .unset] [])) _
    refine XS.iloadN X0.here hx rfl (hb hby at_0) rfl ?_
    show Steps p.tables e below (s₁.setTop (mkF m 1 #[.val (.int p0), .val (.int p1), .val (.int p2), .unset, .unset, .unset, .unset, .unset, .unset, .unset, .unset, .unset] [(.int p0)])) _
    refine X0.ldcInt hx hown (mvT hZ (hw _ (List.mem_of_getElem? (i := 0) rfl))) (g := (mkF m 1 #[.val (.int p0), .val (.int p1), .val (.int p2), .unset, .unset, .unset, .unset, .unset, .unset, .unset, .unset, .unset] [(.int p0)])) rfl (hb hby at_1) _ ?_
    show Steps p.tables e below (s₁.setTop (mkF m 3 #[.val (.int p0), .val (.int p1), .val (.int p2), .unset, .unset, .unset, .unset, .unset, .unset, .unset, .unset, .unset] [(.int (2147483647 : Int32)), (.int p0)])) _
    refine XS.iand X0.here hx rfl (hb hby at_3) rfl ?_
    show Steps p.tables e below (s₁.setTop (mkF m 4 #[.val (.int p0), .val (.int p1), .val (.int p2), .unset, .unset, .unset, .unset, .unset, .unset, .unset, .unset, .unset] [(.int (p0 &&& (2147483647 : Int32)))])) _
    refine XS.bipush X0.here hx rfl (hb hby at_4) ?_
    show Steps p.tables e below (s₁.setTop (mkF m 6 #[.val (.int p0), .val (.int p1), .val (.int p2), .unset, .unset, .unset, .unset, .unset, .unset, .unset, .unset, .unset] [(.int (8 : Int32)), (.int (p0 &&& (2147483647 : Int32)))])) _
    refine Jvm.RoadKit.iremM (g := (mkF m 6 #[.val (.int p0), .val (.int p1), .val (.int p2), .unset, .unset, .unset, .unset, .unset, .unset, .unset, .unset, .unset] [(.int (8 : Int32)), (.int (p0 &&& (2147483647 : Int32)))])) X0 hx rfl (hb hby at_6) rfl (by decide) ?_
    show Steps p.tables e below (s₁.setTop (mkF m 7 #[.val (.int p0), .val (.int p1), .val (.int p2), .unset, .unset, .unset, .unset, .unset, .unset, .unset, .unset, .unset] [(.int ((p0 &&& (2147483647 : Int32)) % (8 : Int32)))])) _
    refine XS.istoreN X0.here hx rfl (hb hby at_7) rfl (l' := #[.val (.int p0), .val (.int p1), .val (.int p2), .val (.int ((p0 &&& (2147483647 : Int32)) % (8 : Int32))), .unset, .unset, .unset, .unset, .unset, .unset, .unset, .unset]) rfl ?_
    exact k)
  obtain ⟨ln, h_ln⟩ : ∃ z, z = ((p0 &&& (2147483647 : Int32)) % (8 : Int32)) := ⟨_, rfl⟩
  rw [← h_ln] at pre1
  have mln := own_mrem p0 (8 : Int32) 8 rfl
  rw [← h_ln] at mln
  obtain ⟨bb, cb, T2, L2, hh2, X2, e2, N2, Z2, K2, ⟨AB, SB, HB⟩, pre2⟩ : ∃ (bb : Addr) (cb : Cell) (T2 : State) (L2 : List Loc) (hh2 : Heap), Stand p l e room_1 s m #[(.int p0), (.int p1), (.int p2)] below meth c T2 L2 1 7 ∧ T2.heap = hh2 ∧ Fr n0 L2 ∧ n0 ≤ hh2.size ∧ Keep h0 hh2 [] ∧ (Arr Z hh2 bb cb .boolean ∧ cb.slots.size = ln.toNatClampNeg ∧ (∀ j : Nat, j < ln.toNatClampNeg → cb.slots[j]? = some (.int (own_B p1 j)))) ∧ ∀ t, Steps p.tables e below (T2.setTop (mkF m 158 #[.val (.int p0), .val (.int p1), .val (.int p2), .val (.int ln), .val (.ref bb), .unset, .unset, .unset, .unset, .unset, .unset, .unset] [])) t → Steps p.tables e below (s₁.setTop (mkF m 0 #[.val (.int p0), .val (.int p1), .val (.int p2), .unset, .unset, .unset, .unset, .unset, .unset, .unset, .unset, .unset] [])) t := by
    rcases (show ln.toInt = 0 ∨ ln.toInt = 1 ∨ ln.toInt = 2 ∨ ln.toInt = 3 ∨ ln.toInt = 4 ∨ ln.toInt = 5 ∨ ln.toInt = 6 ∨ ln.toInt = 7 by omega) with hk_ln | hk_ln | hk_ln | hk_ln | hk_ln | hk_ln | hk_ln | hk_ln
    · skip
      obtain rfl : ln = (0 : Int32) := own_eq.mpr hk_ln
      obtain ⟨T3, h3, k3, X3, e3, E3, A3, st3⟩ := newP X0 hx hZ (hw _ (List.mem_of_getElem? (i := 1) rfl)) e0 (g := (mkF m 9 #[.val (.int p0), .val (.int p1), .val (.int p2), .val (.int (0 : Int32)), .unset, .unset, .unset, .unset, .unset, .unset, .unset, .unset] [(.int (0 : Int32))])) rfl (hb hby at_9) rfl (by decide) (cap := 0) (by decide) (by decide) (by decide) (by decide)
      obtain ⟨b3, g3⟩ : ∃ z, z = h0.size := ⟨_, rfl⟩
      rw [← g3] at A3 st3
      have g_b3 : n0 ≤ b3 := Nat.le_trans Z0 (Nat.le_of_eq g3.symm)
      skip
      have Z3 : n0 ≤ h3.size := Nat.le_trans Z0 E3.1
      have K3 : Keep h0 h3 [] := KR.ext E3
      have sz_b3 : h0.size ≤ b3 := Nat.le_trans KR.1 (Nat.le_of_eq g3.symm)
      have V3 : Arv Z h3 b3 k3 .boolean (0 : Int32) [] (.int (0 : Int32)) := (Arv.new A3 (by decide))
      have hc4 : ¬ ((0 : Int32) < (0 : Int32)) := by decide
      have hc5 : ¬ ((1 : Int32) < (0 : Int32)) := by decide
      have hc6 : ¬ ((2 : Int32) < (0 : Int32)) := by decide
      have hc7 : ¬ ((3 : Int32) < (0 : Int32)) := by decide
      have hc8 : ¬ ((4 : Int32) < (0 : Int32)) := by decide
      have hc9 : ¬ ((5 : Int32) < (0 : Int32)) := by decide
      have hc10 : ¬ ((6 : Int32) < (0 : Int32)) := by decide
      obtain ⟨cl11, Ar11, -, Sz11, -, Hh11, -⟩ := V3
      refine ⟨b3, cl11, T3, _, h3, X3.more (by decide) (by decide), e3, N0, Z3, K3, ⟨Ar11, Sz11, fun j hj => by
        have q := Hh11 j (by rw [Sz11]; exact hj)
        have hj' : j < 0 := hj
        omega⟩, fun t k => pre1 t ?_⟩
      show Steps p.tables e below (s₁.setTop (mkF m 8 #[.val (.int p0), .val (.int p1), .val (.int p2), .val (.int (0 : Int32)), .unset, .unset, .unset, .unset, .unset, .unset, .unset, .unset] [])) _
      refine XS.iloadN X0.here hx rfl (hb hby at_8) rfl ?_
      show Steps p.tables e below (s₁.setTop (mkF m 9 #[.val (.int p0), .val (.int p1), .val (.int p2), .val (.int (0 : Int32)), .unset, .unset, .unset, .unset, .unset, .unset, .unset, .unset] [(.int (0 : Int32))])) _
      refine st3 _ ?_
      show Steps p.tables e below (T3.setTop (mkF m 11 #[.val (.int p0), .val (.int p1), .val (.int p2), .val (.int (0 : Int32)), .unset, .unset, .unset, .unset, .unset, .unset, .unset, .unset] [(.ref b3)])) _
      refine XS.astore X3.here hx rfl (hb hby at_11) rfl rfl (l' := #[.val (.int p0), .val (.int p1), .val (.int p2), .val (.int (0 : Int32)), .val (.ref b3), .unset, .unset, .unset, .unset, .unset, .unset, .unset]) rfl ?_
      show Steps p.tables e below (T3.setTop (mkF m 13 #[.val (.int p0), .val (.int p1), .val (.int p2), .val (.int (0 : Int32)), .val (.ref b3), .unset, .unset, .unset, .unset, .unset, .unset, .unset] [])) _
      refine XS.iloadN X3.here hx rfl (hb hby at_13) rfl ?_
      show Steps p.tables e below (T3.setTop (mkF m 14 #[.val (.int p0), .val (.int p1), .val (.int p2), .val (.int (0 : Int32)), .val (.ref b3), .unset, .unset, .unset, .unset, .unset, .unset, .unset] [(.int (0 : Int32))])) _
      refine XS.ifYes X3.here hx rfl (pc0 := 14) (pc' := 32) rfl (hb hby at_14) rfl ((if0 _ _).trans (flt hc4).2.2.2) (by decide) (by decide) ?_
      show Steps p.tables e below (T3.setTop (mkF m 32 #[.val (.int p0), .val (.int p1), .val (.int p2), .val (.int (0 : Int32)), .val (.ref b3), .unset, .unset, .unset, .unset, .unset, .unset, .unset] [])) _
      refine XS.iloadN X3.here hx rfl (hb hby at_32) rfl ?_
      show Steps p.tables e below (T3.setTop (mkF m 33 #[.val (.int p0), .val (.int p1), .val (.int p2), .val (.int (0 : Int32)), .val (.ref b3), .unset, .unset, .unset, .unset, .unset, .unset, .unset] [(.int (0 : Int32))])) _
      refine XS.iconst X3.here hx rfl (hb hby at_33) ?_
      show Steps p.tables e below (T3.setTop (mkF m 34 #[.val (.int p0), .val (.int p1), .val (.int p2), .val (.int (0 : Int32)), .val (.ref b3), .unset, .unset, .unset, .unset, .unset, .unset, .unset] [(.int (1 : Int32)), (.int (0 : Int32))])) _
      refine XS.icmpYes X3.here hx rfl (pc0 := 34) (pc' := 52) rfl (hb hby at_34) rfl (flt hc5).2.2.2 (by decide) (by decide) ?_
      show Steps p.tables e below (T3.setTop (mkF m 52 #[.val (.int p0), .val (.int p1), .val (.int p2), .val (.int (0 : Int32)), .val (.ref b3), .unset, .unset, .unset, .unset, .unset, .unset, .unset] [])) _
      refine XS.iloadN X3.here hx rfl (hb hby at_52) rfl ?_
      show Steps p.tables e below (T3.setTop (mkF m 53 #[.val (.int p0), .val (.int p1), .val (.int p2), .val (.int (0 : Int32)), .val (.ref b3), .unset, .unset, .unset, .unset, .unset, .unset, .unset] [(.int (0 : Int32))])) _
      refine XS.iconst X3.here hx rfl (hb hby at_53) ?_
      show Steps p.tables e below (T3.setTop (mkF m 54 #[.val (.int p0), .val (.int p1), .val (.int p2), .val (.int (0 : Int32)), .val (.ref b3), .unset, .unset, .unset, .unset, .unset, .unset, .unset] [(.int (2 : Int32)), (.int (0 : Int32))])) _
      refine XS.icmpYes X3.here hx rfl (pc0 := 54) (pc' := 72) rfl (hb hby at_54) rfl (flt hc6).2.2.2 (by decide) (by decide) ?_
      show Steps p.tables e below (T3.setTop (mkF m 72 #[.val (.int p0), .val (.int p1), .val (.int p2), .val (.int (0 : Int32)), .val (.ref b3), .unset, .unset, .unset, .unset, .unset, .unset, .unset] [])) _
      refine XS.iloadN X3.here hx rfl (hb hby at_72) rfl ?_
      show Steps p.tables e below (T3.setTop (mkF m 73 #[.val (.int p0), .val (.int p1), .val (.int p2), .val (.int (0 : Int32)), .val (.ref b3), .unset, .unset, .unset, .unset, .unset, .unset, .unset] [(.int (0 : Int32))])) _
      refine XS.iconst X3.here hx rfl (hb hby at_73) ?_
      show Steps p.tables e below (T3.setTop (mkF m 74 #[.val (.int p0), .val (.int p1), .val (.int p2), .val (.int (0 : Int32)), .val (.ref b3), .unset, .unset, .unset, .unset, .unset, .unset, .unset] [(.int (3 : Int32)), (.int (0 : Int32))])) _
      refine XS.icmpYes X3.here hx rfl (pc0 := 74) (pc' := 93) rfl (hb hby at_74) rfl (flt hc7).2.2.2 (by decide) (by decide) ?_
      show Steps p.tables e below (T3.setTop (mkF m 93 #[.val (.int p0), .val (.int p1), .val (.int p2), .val (.int (0 : Int32)), .val (.ref b3), .unset, .unset, .unset, .unset, .unset, .unset, .unset] [])) _
      refine XS.iloadN X3.here hx rfl (hb hby at_93) rfl ?_
      show Steps p.tables e below (T3.setTop (mkF m 94 #[.val (.int p0), .val (.int p1), .val (.int p2), .val (.int (0 : Int32)), .val (.ref b3), .unset, .unset, .unset, .unset, .unset, .unset, .unset] [(.int (0 : Int32))])) _
      refine XS.iconst X3.here hx rfl (hb hby at_94) ?_
      show Steps p.tables e below (T3.setTop (mkF m 95 #[.val (.int p0), .val (.int p1), .val (.int p2), .val (.int (0 : Int32)), .val (.ref b3), .unset, .unset, .unset, .unset, .unset, .unset, .unset] [(.int (4 : Int32)), (.int (0 : Int32))])) _
      refine XS.icmpYes X3.here hx rfl (pc0 := 95) (pc' := 114) rfl (hb hby at_95) rfl (flt hc8).2.2.2 (by decide) (by decide) ?_
      show Steps p.tables e below (T3.setTop (mkF m 114 #[.val (.int p0), .val (.int p1), .val (.int p2), .val (.int (0 : Int32)), .val (.ref b3), .unset, .unset, .unset, .unset, .unset, .unset, .unset] [])) _
      refine XS.iloadN X3.here hx rfl (hb hby at_114) rfl ?_
      show Steps p.tables e below (T3.setTop (mkF m 115 #[.val (.int p0), .val (.int p1), .val (.int p2), .val (.int (0 : Int32)), .val (.ref b3), .unset, .unset, .unset, .unset, .unset, .unset, .unset] [(.int (0 : Int32))])) _
      refine XS.iconst X3.here hx rfl (hb hby at_115) ?_
      show Steps p.tables e below (T3.setTop (mkF m 116 #[.val (.int p0), .val (.int p1), .val (.int p2), .val (.int (0 : Int32)), .val (.ref b3), .unset, .unset, .unset, .unset, .unset, .unset, .unset] [(.int (5 : Int32)), (.int (0 : Int32))])) _
      refine XS.icmpYes X3.here hx rfl (pc0 := 116) (pc' := 135) rfl (hb hby at_116) rfl (flt hc9).2.2.2 (by decide) (by decide) ?_
      show Steps p.tables e below (T3.setTop (mkF m 135 #[.val (.int p0), .val (.int p1), .val (.int p2), .val (.int (0 : Int32)), .val (.ref b3), .unset, .unset, .unset, .unset, .unset, .unset, .unset] [])) _
      refine XS.iloadN X3.here hx rfl (hb hby at_135) rfl ?_
      show Steps p.tables e below (T3.setTop (mkF m 136 #[.val (.int p0), .val (.int p1), .val (.int p2), .val (.int (0 : Int32)), .val (.ref b3), .unset, .unset, .unset, .unset, .unset, .unset, .unset] [(.int (0 : Int32))])) _
      refine XS.bipush X3.here hx rfl (hb hby at_136) ?_
      show Steps p.tables e below (T3.setTop (mkF m 138 #[.val (.int p0), .val (.int p1), .val (.int p2), .val (.int (0 : Int32)), .val (.ref b3), .unset, .unset, .unset, .unset, .unset, .unset, .unset] [(.int (6 : Int32)), (.int (0 : Int32))])) _
      refine XS.icmpYes X3.here hx rfl (pc0 := 138) (pc' := 158) rfl (hb hby at_138) rfl (flt hc10).2.2.2 (by decide) (by decide) ?_
      exact k
    · skip
      obtain rfl : ln = (1 : Int32) := own_eq.mpr hk_ln
      obtain ⟨T12, h12, k12, X12, e12, E12, A12, st12⟩ := newP X0 hx hZ (hw _ (List.mem_of_getElem? (i := 1) rfl)) e0 (g := (mkF m 9 #[.val (.int p0), .val (.int p1), .val (.int p2), .val (.int (1 : Int32)), .unset, .unset, .unset, .unset, .unset, .unset, .unset, .unset] [(.int (1 : Int32))])) rfl (hb hby at_9) rfl (by decide) (cap := 1) (by decide) (by decide) (by decide) (by decide)
      obtain ⟨b12, g12⟩ : ∃ z, z = h0.size := ⟨_, rfl⟩
      rw [← g12] at A12 st12
      have g_b12 : n0 ≤ b12 := Nat.le_trans Z0 (Nat.le_of_eq g12.symm)
      skip
      have Z12 : n0 ≤ h12.size := Nat.le_trans Z0 E12.1
      have K12 : Keep h0 h12 [] := KR.ext E12
      have sz_b12 : h0.size ≤ b12 := Nat.le_trans KR.1 (Nat.le_of_eq g12.symm)
      have V12 : Arv Z h12 b12 k12 .boolean (1 : Int32) [(.int (0 : Int32))] (.int (0 : Int32)) := (Arv.new A12 (by decide)).pad (pad_rep [] (.int (0 : Int32)) 1)
      have hc13 : (0 : Int32) < (1 : Int32) := by decide
      have pre14 : ∀ t, Steps p.tables e below (T12.setTop (mkF m 20 #[.val (.int p0), .val (.int p1), .val (.int p2), .val (.int (1 : Int32)), .val (.ref b12), .unset, .unset, .unset, .unset, .unset, .unset, .unset] [(.int (0 : Int32)), (.ref b12)])) t → Steps p.tables e below (s₁.setTop (mkF m 0 #[.val (.int p0), .val (.int p1), .val (.int p2), .unset, .unset, .unset, .unset, .unset, .unset, .unset, .unset, .unset] [])) t := fun t k => pre1 t (by
        show Steps p.tables e below (s₁.setTop (mkF m 8 #[.val (.int p0), .val (.int p1), .val (.int p2), .val (.int (1 : Int32)), .unset, .unset, .unset, .unset, .unset, .unset, .unset, .unset] [])) _
        refine XS.iloadN X0.here hx rfl (hb hby at_8) rfl ?_
        show Steps p.tables e below (s₁.setTop (mkF m 9 #[.val (.int p0), .val (.int p1), .val (.int p2), .val (.int (1 : Int32)), .unset, .unset, .unset, .unset, .unset, .unset, .unset, .unset] [(.int (1 : Int32))])) _
        refine st12 _ ?_
        show Steps p.tables e below (T12.setTop (mkF m 11 #[.val (.int p0), .val (.int p1), .val (.int p2), .val (.int (1 : Int32)), .unset, .unset, .unset, .unset, .unset, .unset, .unset, .unset] [(.ref b12)])) _
        refine XS.astore X12.here hx rfl (hb hby at_11) rfl rfl (l' := #[.val (.int p0), .val (.int p1), .val (.int p2), .val (.int (1 : Int32)), .val (.ref b12), .unset, .unset, .unset, .unset, .unset, .unset, .unset]) rfl ?_
        show Steps p.tables e below (T12.setTop (mkF m 13 #[.val (.int p0), .val (.int p1), .val (.int p2), .val (.int (1 : Int32)), .val (.ref b12), .unset, .unset, .unset, .unset, .unset, .unset, .unset] [])) _
        refine XS.iloadN X12.here hx rfl (hb hby at_13) rfl ?_
        show Steps p.tables e below (T12.setTop (mkF m 14 #[.val (.int p0), .val (.int p1), .val (.int p2), .val (.int (1 : Int32)), .val (.ref b12), .unset, .unset, .unset, .unset, .unset, .unset, .unset] [(.int (1 : Int32))])) _
        refine XS.ifNo X12.here hx rfl (hb hby at_14) rfl ((if0 _ _).trans (tlt hc13).2.2.2) ?_
        show Steps p.tables e below (T12.setTop (mkF m 17 #[.val (.int p0), .val (.int p1), .val (.int p2), .val (.int (1 : Int32)), .val (.ref b12), .unset, .unset, .unset, .unset, .unset, .unset, .unset] [])) _
        refine XS.aload X12.here hx rfl (hb hby at_17) rfl rfl ?_
        show Steps p.tables e below (T12.setTop (mkF m 19 #[.val (.int p0), .val (.int p1), .val (.int p2), .val (.int (1 : Int32)), .val (.ref b12), .unset, .unset, .unset, .unset, .unset, .unset, .unset] [(.ref b12)])) _
        refine XS.iconst X12.here hx rfl (hb hby at_19) ?_
        exact k)
      obtain ⟨v0, rfl, pre15⟩ : ∃ (v0 : Int32), (v0 = bI (¬ ((p1 &&& (1 : Int32)).toInt = 0))) ∧ ∀ t, Steps p.tables e below (T12.setTop (mkF m 31 #[.val (.int p0), .val (.int p1), .val (.int p2), .val (.int (1 : Int32)), .val (.ref b12), .unset, .unset, .unset, .unset, .unset, .unset, .unset] [(.int v0), (.int (0 : Int32)), (.ref b12)])) t → Steps p.tables e below (s₁.setTop (mkF m 0 #[.val (.int p0), .val (.int p1), .val (.int p2), .unset, .unset, .unset, .unset, .unset, .unset, .unset, .unset, .unset] [])) t := by
        have pre17 : ∀ t, Steps p.tables e below (T12.setTop (mkF m 23 #[.val (.int p0), .val (.int p1), .val (.int p2), .val (.int (1 : Int32)), .val (.ref b12), .unset, .unset, .unset, .unset, .unset, .unset, .unset] [(.int (p1 &&& (1 : Int32))), (.int (0 : Int32)), (.ref b12)])) t → Steps p.tables e below (s₁.setTop (mkF m 0 #[.val (.int p0), .val (.int p1), .val (.int p2), .unset, .unset, .unset, .unset, .unset, .unset, .unset, .unset, .unset] [])) t := fun t k => pre14 t (by
          show Steps p.tables e below (T12.setTop (mkF m 20 #[.val (.int p0), .val (.int p1), .val (.int p2), .val (.int (1 : Int32)), .val (.ref b12), .unset, .unset, .unset, .unset, .unset, .unset, .unset] [(.int (0 : Int32)), (.ref b12)])) _
          refine XS.iloadN X12.here hx rfl (hb hby at_20) rfl ?_
          show Steps p.tables e below (T12.setTop (mkF m 21 #[.val (.int p0), .val (.int p1), .val (.int p2), .val (.int (1 : Int32)), .val (.ref b12), .unset, .unset, .unset, .unset, .unset, .unset, .unset] [(.int p1), (.int (0 : Int32)), (.ref b12)])) _
          refine XS.iconst X12.here hx rfl (hb hby at_21) ?_
          show Steps p.tables e below (T12.setTop (mkF m 22 #[.val (.int p0), .val (.int p1), .val (.int p2), .val (.int (1 : Int32)), .val (.ref b12), .unset, .unset, .unset, .unset, .unset, .unset, .unset] [(.int (1 : Int32)), (.int p1), (.int (0 : Int32)), (.ref b12)])) _
          refine XS.iand X12.here hx rfl (hb hby at_22) rfl ?_
          exact k)
        by_cases hc16 : (p1 &&& (1 : Int32)) = (0 : Int32)
        · skip
          have ohc16 : (p1 &&& (1 : Int32)).toInt = 0 := own_eq.mp hc16
          refine ⟨(0 : Int32), ?_, fun t k => pre17 t ?_⟩
          · exact own_c0 (by omega)
          · skip
            show Steps p.tables e below (T12.setTop (mkF m 23 #[.val (.int p0), .val (.int p1), .val (.int p2), .val (.int (1 : Int32)), .val (.ref b12), .unset, .unset, .unset, .unset, .unset, .unset, .unset] [(.int (p1 &&& (1 : Int32))), (.int (0 : Int32)), (.ref b12)])) _
            refine XS.ifYes X12.here hx rfl (pc0 := 23) (pc' := 30) rfl (hb hby at_23) rfl ((if0 _ _).trans (teq hc16).1) (by decide) (by decide) ?_
            show Steps p.tables e below (T12.setTop (mkF m 30 #[.val (.int p0), .val (.int p1), .val (.int p2), .val (.int (1 : Int32)), .val (.ref b12), .unset, .unset, .unset, .unset, .unset, .unset, .unset] [(.int (0 : Int32)), (.ref b12)])) _
            refine XS.iconst X12.here hx rfl (hb hby at_30) ?_
            exact k
        · skip
          have ohc16 : ¬ ((p1 &&& (1 : Int32)).toInt = 0) := own_neq.mp hc16
          refine ⟨(1 : Int32), ?_, fun t k => pre17 t ?_⟩
          · exact own_c1 (by omega)
          · skip
            show Steps p.tables e below (T12.setTop (mkF m 23 #[.val (.int p0), .val (.int p1), .val (.int p2), .val (.int (1 : Int32)), .val (.ref b12), .unset, .unset, .unset, .unset, .unset, .unset, .unset] [(.int (p1 &&& (1 : Int32))), (.int (0 : Int32)), (.ref b12)])) _
            refine XS.ifNo X12.here hx rfl (hb hby at_23) rfl ((if0 _ _).trans (feq hc16).1) ?_
            show Steps p.tables e below (T12.setTop (mkF m 26 #[.val (.int p0), .val (.int p1), .val (.int p2), .val (.int (1 : Int32)), .val (.ref b12), .unset, .unset, .unset, .unset, .unset, .unset, .unset] [(.int (0 : Int32)), (.ref b12)])) _
            refine XS.iconst X12.here hx rfl (hb hby at_26) ?_
            show Steps p.tables e below (T12.setTop (mkF m 27 #[.val (.int p0), .val (.int p1), .val (.int p2), .val (.int (1 : Int32)), .val (.ref b12), .unset, .unset, .unset, .unset, .unset, .unset, .unset] [(.int (1 : Int32)), (.int (0 : Int32)), (.ref b12)])) _
            refine XS.goto X12.here hx rfl (pc0 := 27) (pc' := 31) rfl (hb hby at_27) (by decide) (by decide) ?_
            exact k
      obtain ⟨cl18, Ar18, q18, Sz18, Nn18, Hh18, Gg18⟩ := id V12
      have hin18 : ¬ ((0 : Int32) < 0 ∨ cl18.slots.size ≤ ((0 : Int32)).toNatClampNeg) := inb_of Sz18 ⟨by decide, by decide⟩
      obtain ⟨T19, h19, X19, e19, W19, st19⟩ := stZ X12 hx hZ e12 Ar18 (j := (0 : Int32)) hin18 (g := (mkF m 31 #[.val (.int p0), .val (.int p1), .val (.int p2), .val (.int (1 : Int32)), .val (.ref b12), .unset, .unset, .unset, .unset, .unset, .unset, .unset] [(.int (bI (¬ ((p1 &&& (1 : Int32)).toInt = 0)))), (.int (0 : Int32)), (.ref b12)])) rfl rfl (hb hby at_31)
      have V19 : Arv Z h19 b12 k12 .boolean (1 : Int32) [(.int (nar .boolean (bI (¬ ((p1 &&& (1 : Int32)).toInt = 0)))))] (.int (0 : Int32)) := Arv.set Ar18 q18 Sz18 Nn18 Hh18 Gg18 (fits_nar_bool _) W19 0 rfl (Nat.le_of_ble_eq_true rfl)
      have N19 := Fr.snoc X19 N0 g_b12
      have Z19 : n0 ≤ h19.size := Nat.le_trans Z12 (Keep.of_wr W19).1
      have K19 : Keep h0 h19 [] := K12.wr W19 (Or.inr sz_b12)
      have hc20 : ¬ ((1 : Int32) < (1 : Int32)) := by decide
      have hc21 : ¬ ((2 : Int32) < (1 : Int32)) := by decide
      have hc22 : ¬ ((3 : Int32) < (1 : Int32)) := by decide
      have hc23 : ¬ ((4 : Int32) < (1 : Int32)) := by decide
      have hc24 : ¬ ((5 : Int32) < (1 : Int32)) := by decide
      have hc25 : ¬ ((6 : Int32) < (1 : Int32)) := by decide
      obtain ⟨cl26, Ar26, -, Sz26, -, Hh26, -⟩ := V19
      refine ⟨b12, cl26, T19, _, h19, X19.more (by decide) (by decide), e19, N19, Z19, K19, ⟨Ar26, Sz26, fun j hj => by
        have q := Hh26 j (by rw [Sz26]; exact hj)
        have hj' : j < 1 := hj
        obtain rfl : j = 0 := by omega
        exact q.trans (congrArg (fun z => some (Value.int z)) (own_nar (P := ¬ ((p1 &&& (1 : Int32)).toInt = 0))))⟩, fun t k => pre15 t ?_⟩
      show Steps p.tables e below (T12.setTop (mkF m 31 #[.val (.int p0), .val (.int p1), .val (.int p2), .val (.int (1 : Int32)), .val (.ref b12), .unset, .unset, .unset, .unset, .unset, .unset, .unset] [(.int (bI (¬ ((p1 &&& (1 : Int32)).toInt = 0)))), (.int (0 : Int32)), (.ref b12)])) _
      refine st19 _ ?_
      show Steps p.tables e below (T19.setTop (mkF m 32 #[.val (.int p0), .val (.int p1), .val (.int p2), .val (.int (1 : Int32)), .val (.ref b12), .unset, .unset, .unset, .unset, .unset, .unset, .unset] [])) _
      refine XS.iloadN X19.here hx rfl (hb hby at_32) rfl ?_
      show Steps p.tables e below (T19.setTop (mkF m 33 #[.val (.int p0), .val (.int p1), .val (.int p2), .val (.int (1 : Int32)), .val (.ref b12), .unset, .unset, .unset, .unset, .unset, .unset, .unset] [(.int (1 : Int32))])) _
      refine XS.iconst X19.here hx rfl (hb hby at_33) ?_
      show Steps p.tables e below (T19.setTop (mkF m 34 #[.val (.int p0), .val (.int p1), .val (.int p2), .val (.int (1 : Int32)), .val (.ref b12), .unset, .unset, .unset, .unset, .unset, .unset, .unset] [(.int (1 : Int32)), (.int (1 : Int32))])) _
      refine XS.icmpYes X19.here hx rfl (pc0 := 34) (pc' := 52) rfl (hb hby at_34) rfl (flt hc20).2.2.2 (by decide) (by decide) ?_
      show Steps p.tables e below (T19.setTop (mkF m 52 #[.val (.int p0), .val (.int p1), .val (.int p2), .val (.int (1 : Int32)), .val (.ref b12), .unset, .unset, .unset, .unset, .unset, .unset, .unset] [])) _
      refine XS.iloadN X19.here hx rfl (hb hby at_52) rfl ?_
      show Steps p.tables e below (T19.setTop (mkF m 53 #[.val (.int p0), .val (.int p1), .val (.int p2), .val (.int (1 : Int32)), .val (.ref b12), .unset, .unset, .unset, .unset, .unset, .unset, .unset] [(.int (1 : Int32))])) _
      refine XS.iconst X19.here hx rfl (hb hby at_53) ?_
      show Steps p.tables e below (T19.setTop (mkF m 54 #[.val (.int p0), .val (.int p1), .val (.int p2), .val (.int (1 : Int32)), .val (.ref b12), .unset, .unset, .unset, .unset, .unset, .unset, .unset] [(.int (2 : Int32)), (.int (1 : Int32))])) _
      refine XS.icmpYes X19.here hx rfl (pc0 := 54) (pc' := 72) rfl (hb hby at_54) rfl (flt hc21).2.2.2 (by decide) (by decide) ?_
      show Steps p.tables e below (T19.setTop (mkF m 72 #[.val (.int p0), .val (.int p1), .val (.int p2), .val (.int (1 : Int32)), .val (.ref b12), .unset, .unset, .unset, .unset, .unset, .unset, .unset] [])) _
      refine XS.iloadN X19.here hx rfl (hb hby at_72) rfl ?_
      show Steps p.tables e below (T19.setTop (mkF m 73 #[.val (.int p0), .val (.int p1), .val (.int p2), .val (.int (1 : Int32)), .val (.ref b12), .unset, .unset, .unset, .unset, .unset, .unset, .unset] [(.int (1 : Int32))])) _
      refine XS.iconst X19.here hx rfl (hb hby at_73) ?_
      show Steps p.tables e below (T19.setTop (mkF m 74 #[.val (.int p0), .val (.int p1), .val (.int p2), .val (.int (1 : Int32)), .val (.ref b12), .unset, .unset, .unset, .unset, .unset, .unset, .unset] [(.int (3 : Int32)), (.int (1 : Int32))])) _
      refine XS.icmpYes X19.here hx rfl (pc0 := 74) (pc' := 93) rfl (hb hby at_74) rfl (flt hc22).2.2.2 (by decide) (by decide) ?_
      show Steps p.tables e below (T19.setTop (mkF m 93 #[.val (.int p0), .val (.int p1), .val (.int p2), .val (.int (1 : Int32)), .val (.ref b12), .unset, .unset, .unset, .unset, .unset, .unset, .unset] [])) _
      refine XS.iloadN X19.here hx rfl (hb hby at_93) rfl ?_
      show Steps p.tables e below (T19.setTop (mkF m 94 #[.val (.int p0), .val (.int p1), .val (.int p2), .val (.int (1 : Int32)), .val (.ref b12), .unset, .unset, .unset, .unset, .unset, .unset, .unset] [(.int (1 : Int32))])) _
      refine XS.iconst X19.here hx rfl (hb hby at_94) ?_
      show Steps p.tables e below (T19.setTop (mkF m 95 #[.val (.int p0), .val (.int p1), .val (.int p2), .val (.int (1 : Int32)), .val (.ref b12), .unset, .unset, .unset, .unset, .unset, .unset, .unset] [(.int (4 : Int32)), (.int (1 : Int32))])) _
      refine XS.icmpYes X19.here hx rfl (pc0 := 95) (pc' := 114) rfl (hb hby at_95) rfl (flt hc23).2.2.2 (by decide) (by decide) ?_
      show Steps p.tables e below (T19.setTop (mkF m 114 #[.val (.int p0), .val (.int p1), .val (.int p2), .val (.int (1 : Int32)), .val (.ref b12), .unset, .unset, .unset, .unset, .unset, .unset, .unset] [])) _
      refine XS.iloadN X19.here hx rfl (hb hby at_114) rfl ?_
      show Steps p.tables e below (T19.setTop (mkF m 115 #[.val (.int p0), .val (.int p1), .val (.int p2), .val (.int (1 : Int32)), .val (.ref b12), .unset, .unset, .unset, .unset, .unset, .unset, .unset] [(.int (1 : Int32))])) _
      refine XS.iconst X19.here hx rfl (hb hby at_115) ?_
      show Steps p.tables e below (T19.setTop (mkF m 116 #[.val (.int p0), .val (.int p1), .val (.int p2), .val (.int (1 : Int32)), .val (.ref b12), .unset, .unset, .unset, .unset, .unset, .unset, .unset] [(.int (5 : Int32)), (.int (1 : Int32))])) _
      refine XS.icmpYes X19.here hx rfl (pc0 := 116) (pc' := 135) rfl (hb hby at_116) rfl (flt hc24).2.2.2 (by decide) (by decide) ?_
      show Steps p.tables e below (T19.setTop (mkF m 135 #[.val (.int p0), .val (.int p1), .val (.int p2), .val (.int (1 : Int32)), .val (.ref b12), .unset, .unset, .unset, .unset, .unset, .unset, .unset] [])) _
      refine XS.iloadN X19.here hx rfl (hb hby at_135) rfl ?_
      show Steps p.tables e below (T19.setTop (mkF m 136 #[.val (.int p0), .val (.int p1), .val (.int p2), .val (.int (1 : Int32)), .val (.ref b12), .unset, .unset, .unset, .unset, .unset, .unset, .unset] [(.int (1 : Int32))])) _
      refine XS.bipush X19.here hx rfl (hb hby at_136) ?_
      show Steps p.tables e below (T19.setTop (mkF m 138 #[.val (.int p0), .val (.int p1), .val (.int p2), .val (.int (1 : Int32)), .val (.ref b12), .unset, .unset, .unset, .unset, .unset, .unset, .unset] [(.int (6 : Int32)), (.int (1 : Int32))])) _
      refine XS.icmpYes X19.here hx rfl (pc0 := 138) (pc' := 158) rfl (hb hby at_138) rfl (flt hc25).2.2.2 (by decide) (by decide) ?_
      exact k
    · skip
      obtain rfl : ln = (2 : Int32) := own_eq.mpr hk_ln
      obtain ⟨T27, h27, k27, X27, e27, E27, A27, st27⟩ := newP X0 hx hZ (hw _ (List.mem_of_getElem? (i := 1) rfl)) e0 (g := (mkF m 9 #[.val (.int p0), .val (.int p1), .val (.int p2), .val (.int (2 : Int32)), .unset, .unset, .unset, .unset, .unset, .unset, .unset, .unset] [(.int (2 : Int32))])) rfl (hb hby at_9) rfl (by decide) (cap := 2) (by decide) (by decide) (by decide) (by decide)
      obtain ⟨b27, g27⟩ : ∃ z, z = h0.size := ⟨_, rfl⟩
      rw [← g27] at A27 st27
      have g_b27 : n0 ≤ b27 := Nat.le_trans Z0 (Nat.le_of_eq g27.symm)
      skip
      have Z27 : n0 ≤ h27.size := Nat.le_trans Z0 E27.1
      have K27 : Keep h0 h27 [] := KR.ext E27
      have sz_b27 : h0.size ≤ b27 := Nat.le_trans KR.1 (Nat.le_of_eq g27.symm)
      have V27 : Arv Z h27 b27 k27 .boolean (2 : Int32) [(.int (0 : Int32)), (.int (0 : Int32))] (.int (0 : Int32)) := (Arv.new A27 (by decide)).pad (pad_rep [] (.int (0 : Int32)) 2)
      have hc28 : (0 : Int32) < (2 : Int32) := by decide
      have pre29 : ∀ t, Steps p.tables e below (T27.setTop (mkF m 20 #[.val (.int p0), .val (.int p1), .val (.int p2), .val (.int (2 : Int32)), .val (.ref b27), .unset, .unset, .unset, .unset, .unset, .unset, .unset] [(.int (0 : Int32)), (.ref b27)])) t → Steps p.tables e below (s₁.setTop (mkF m 0 #[.val (.int p0), .val (.int p1), .val (.int p2), .unset, .unset, .unset, .unset, .unset, .unset, .unset, .unset, .unset] [])) t := fun t k => pre1 t (by
        show Steps p.tables e below (s₁.setTop (mkF m 8 #[.val (.int p0), .val (.int p1), .val (.int p2), .val (.int (2 : Int32)), .unset, .unset, .unset, .unset, .unset, .unset, .unset, .unset] [])) _
        refine XS.iloadN X0.here hx rfl (hb hby at_8) rfl ?_
        show Steps p.tables e below (s₁.setTop (mkF m 9 #[.val (.int p0), .val (.int p1), .val (.int p2), .val (.int (2 : Int32)), .unset, .unset, .unset, .unset, .unset, .unset, .unset, .unset] [(.int (2 : Int32))])) _
        refine st27 _ ?_
        show Steps p.tables e below (T27.setTop (mkF m 11 #[.val (.int p0), .val (.int p1), .val (.int p2), .val (.int (2 : Int32)), .unset, .unset, .unset, .unset, .unset, .unset, .unset, .unset] [(.ref b27)])) _
        refine XS.astore X27.here hx rfl (hb hby at_11) rfl rfl (l' := #[.val (.int p0), .val (.int p1), .val (.int p2), .val (.int (2 : Int32)), .val (.ref b27), .unset, .unset, .unset, .unset, .unset, .unset, .unset]) rfl ?_
        show Steps p.tables e below (T27.setTop (mkF m 13 #[.val (.int p0), .val (.int p1), .val (.int p2), .val (.int (2 : Int32)), .val (.ref b27), .unset, .unset, .unset, .unset, .unset, .unset, .unset] [])) _
        refine XS.iloadN X27.here hx rfl (hb hby at_13) rfl ?_
        show Steps p.tables e below (T27.setTop (mkF m 14 #[.val (.int p0), .val (.int p1), .val (.int p2), .val (.int (2 : Int32)), .val (.ref b27), .unset, .unset, .unset, .unset, .unset, .unset, .unset] [(.int (2 : Int32))])) _
        refine XS.ifNo X27.here hx rfl (hb hby at_14) rfl ((if0 _ _).trans (tlt hc28).2.2.2) ?_
        show Steps p.tables e below (T27.setTop (mkF m 17 #[.val (.int p0), .val (.int p1), .val (.int p2), .val (.int (2 : Int32)), .val (.ref b27), .unset, .unset, .unset, .unset, .unset, .unset, .unset] [])) _
        refine XS.aload X27.here hx rfl (hb hby at_17) rfl rfl ?_
        show Steps p.tables e below (T27.setTop (mkF m 19 #[.val (.int p0), .val (.int p1), .val (.int p2), .val (.int (2 : Int32)), .val (.ref b27), .unset, .unset, .unset, .unset, .unset, .unset, .unset] [(.ref b27)])) _
        refine XS.iconst X27.here hx rfl (hb hby at_19) ?_
        exact k)
      obtain ⟨v0, rfl, pre30⟩ : ∃ (v0 : Int32), (v0 = bI (¬ ((p1 &&& (1 : Int32)).toInt = 0))) ∧ ∀ t, Steps p.tables e below (T27.setTop (mkF m 31 #[.val (.int p0), .val (.int p1), .val (.int p2), .val (.int (2 : Int32)), .val (.ref b27), .unset, .unset, .unset, .unset, .unset, .unset, .unset] [(.int v0), (.int (0 : Int32)), (.ref b27)])) t → Steps p.tables e below (s₁.setTop (mkF m 0 #[.val (.int p0), .val (.int p1), .val (.int p2), .unset, .unset, .unset, .unset, .unset, .unset, .unset, .unset, .unset] [])) t := by
        have pre32 : ∀ t, Steps p.tables e below (T27.setTop (mkF m 23 #[.val (.int p0), .val (.int p1), .val (.int p2), .val (.int (2 : Int32)), .val (.ref b27), .unset, .unset, .unset, .unset, .unset, .unset, .unset] [(.int (p1 &&& (1 : Int32))), (.int (0 : Int32)), (.ref b27)])) t → Steps p.tables e below (s₁.setTop (mkF m 0 #[.val (.int p0), .val (.int p1), .val (.int p2), .unset, .unset, .unset, .unset, .unset, .unset, .unset, .unset, .unset] [])) t := fun t k => pre29 t (by
          show Steps p.tables e below (T27.setTop (mkF m 20 #[.val (.int p0), .val (.int p1), .val (.int p2), .val (.int (2 : Int32)), .val (.ref b27), .unset, .unset, .unset, .unset, .unset, .unset, .unset] [(.int (0 : Int32)), (.ref b27)])) _
          refine XS.iloadN X27.here hx rfl (hb hby at_20) rfl ?_
          show Steps p.tables e below (T27.setTop (mkF m 21 #[.val (.int p0), .val (.int p1), .val (.int p2), .val (.int (2 : Int32)), .val (.ref b27), .unset, .unset, .unset, .unset, .unset, .unset, .unset] [(.int p1), (.int (0 : Int32)), (.ref b27)])) _
          refine XS.iconst X27.here hx rfl (hb hby at_21) ?_
          show Steps p.tables e below (T27.setTop (mkF m 22 #[.val (.int p0), .val (.int p1), .val (.int p2), .val (.int (2 : Int32)), .val (.ref b27), .unset, .unset, .unset, .unset, .unset, .unset, .unset] [(.int (1 : Int32)), (.int p1), (.int (0 : Int32)), (.ref b27)])) _
          refine XS.iand X27.here hx rfl (hb hby at_22) rfl ?_
          exact k)
        by_cases hc31 : (p1 &&& (1 : Int32)) = (0 : Int32)
        · skip
          have ohc31 : (p1 &&& (1 : Int32)).toInt = 0 := own_eq.mp hc31
          refine ⟨(0 : Int32), ?_, fun t k => pre32 t ?_⟩
          · exact own_c0 (by omega)
          · skip
            show Steps p.tables e below (T27.setTop (mkF m 23 #[.val (.int p0), .val (.int p1), .val (.int p2), .val (.int (2 : Int32)), .val (.ref b27), .unset, .unset, .unset, .unset, .unset, .unset, .unset] [(.int (p1 &&& (1 : Int32))), (.int (0 : Int32)), (.ref b27)])) _
            refine XS.ifYes X27.here hx rfl (pc0 := 23) (pc' := 30) rfl (hb hby at_23) rfl ((if0 _ _).trans (teq hc31).1) (by decide) (by decide) ?_
            show Steps p.tables e below (T27.setTop (mkF m 30 #[.val (.int p0), .val (.int p1), .val (.int p2), .val (.int (2 : Int32)), .val (.ref b27), .unset, .unset, .unset, .unset, .unset, .unset, .unset] [(.int (0 : Int32)), (.ref b27)])) _
            refine XS.iconst X27.here hx rfl (hb hby at_30) ?_
            exact k
        · skip
          have ohc31 : ¬ ((p1 &&& (1 : Int32)).toInt = 0) := own_neq.mp hc31
          refine ⟨(1 : Int32), ?_, fun t k => pre32 t ?_⟩
          · exact own_c1 (by omega)
          · skip
            show Steps p.tables e below (T27.setTop (mkF m 23 #[.val (.int p0), .val (.int p1), .val (.int p2), .val (.int (2 : Int32)), .val (.ref b27), .unset, .unset, .unset, .unset, .unset, .unset, .unset] [(.int (p1 &&& (1 : Int32))), (.int (0 : Int32)), (.ref b27)])) _
            refine XS.ifNo X27.here hx rfl (hb hby at_23) rfl ((if0 _ _).trans (feq hc31).1) ?_
            show Steps p.tables e below (T27.setTop (mkF m 26 #[.val (.int p0), .val (.int p1), .val (.int p2), .val (.int (2 : Int32)), .val (.ref b27), .unset, .unset, .unset, .unset, .unset, .unset, .unset] [(.int (0 : Int32)), (.ref b27)])) _
            refine XS.iconst X27.here hx rfl (hb hby at_26) ?_
            show Steps p.tables e below (T27.setTop (mkF m 27 #[.val (.int p0), .val (.int p1), .val (.int p2), .val (.int (2 : Int32)), .val (.ref b27), .unset, .unset, .unset, .unset, .unset, .unset, .unset] [(.int (1 : Int32)), (.int (0 : Int32)), (.ref b27)])) _
            refine XS.goto X27.here hx rfl (pc0 := 27) (pc' := 31) rfl (hb hby at_27) (by decide) (by decide) ?_
            exact k
      obtain ⟨cl33, Ar33, q33, Sz33, Nn33, Hh33, Gg33⟩ := id V27
      have hin33 : ¬ ((0 : Int32) < 0 ∨ cl33.slots.size ≤ ((0 : Int32)).toNatClampNeg) := inb_of Sz33 ⟨by decide, by decide⟩
      obtain ⟨T34, h34, X34, e34, W34, st34⟩ := stZ X27 hx hZ e27 Ar33 (j := (0 : Int32)) hin33 (g := (mkF m 31 #[.val (.int p0), .val (.int p1), .val (.int p2), .val (.int (2 : Int32)), .val (.ref b27), .unset, .unset, .unset, .unset, .unset, .unset, .unset] [(.int (bI (¬ ((p1 &&& (1 : Int32)).toInt = 0)))), (.int (0 : Int32)), (.ref b27)])) rfl rfl (hb hby at_31)
      have V34 : Arv Z h34 b27 k27 .boolean (2 : Int32) [(.int (nar .boolean (bI (¬ ((p1 &&& (1 : Int32)).toInt = 0))))), (.int (0 : Int32))] (.int (0 : Int32)) := Arv.set Ar33 q33 Sz33 Nn33 Hh33 Gg33 (fits_nar_bool _) W34 0 rfl (Nat.le_of_ble_eq_true rfl)
      have N34 := Fr.snoc X34 N0 g_b27
      have Z34 : n0 ≤ h34.size := Nat.le_trans Z27 (Keep.of_wr W34).1
      have K34 : Keep h0 h34 [] := K27.wr W34 (Or.inr sz_b27)
      have hc35 : (1 : Int32) < (2 : Int32) := by decide
      have pre36 : ∀ t, Steps p.tables e below (T34.setTop (mkF m 40 #[.val (.int p0), .val (.int p1), .val (.int p2), .val (.int (2 : Int32)), .val (.ref b27), .unset, .unset, .unset, .unset, .unset, .unset, .unset] [(.int (1 : Int32)), (.ref b27)])) t → Steps p.tables e below (s₁.setTop (mkF m 0 #[.val (.int p0), .val (.int p1), .val (.int p2), .unset, .unset, .unset, .unset, .unset, .unset, .unset, .unset, .unset] [])) t := fun t k => pre30 t (by
        show Steps p.tables e below (T27.setTop (mkF m 31 #[.val (.int p0), .val (.int p1), .val (.int p2), .val (.int (2 : Int32)), .val (.ref b27), .unset, .unset, .unset, .unset, .unset, .unset, .unset] [(.int (bI (¬ ((p1 &&& (1 : Int32)).toInt = 0)))), (.int (0 : Int32)), (.ref b27)])) _
        refine st34 _ ?_
        show Steps p.tables e below (T34.setTop (mkF m 32 #[.val (.int p0), .val (.int p1), .val (.int p2), .val (.int (2 : Int32)), .val (.ref b27), .unset, .unset, .unset, .unset, .unset, .unset, .unset] [])) _
        refine XS.iloadN X34.here hx rfl (hb hby at_32) rfl ?_
        show Steps p.tables e below (T34.setTop (mkF m 33 #[.val (.int p0), .val (.int p1), .val (.int p2), .val (.int (2 : Int32)), .val (.ref b27), .unset, .unset, .unset, .unset, .unset, .unset, .unset] [(.int (2 : Int32))])) _
        refine XS.iconst X34.here hx rfl (hb hby at_33) ?_
        show Steps p.tables e below (T34.setTop (mkF m 34 #[.val (.int p0), .val (.int p1), .val (.int p2), .val (.int (2 : Int32)), .val (.ref b27), .unset, .unset, .unset, .unset, .unset, .unset, .unset] [(.int (1 : Int32)), (.int (2 : Int32))])) _
        refine XS.icmpNo X34.here hx rfl (hb hby at_34) rfl (tlt hc35).2.2.2 ?_
        show Steps p.tables e below (T34.setTop (mkF m 37 #[.val (.int p0), .val (.int p1), .val (.int p2), .val (.int (2 : Int32)), .val (.ref b27), .unset, .unset, .unset, .unset, .unset, .unset, .unset] [])) _
        refine XS.aload X34.here hx rfl (hb hby at_37) rfl rfl ?_
        show Steps p.tables e below (T34.setTop (mkF m 39 #[.val (.int p0), .val (.int p1), .val (.int p2), .val (.int (2 : Int32)), .val (.ref b27), .unset, .unset, .unset, .unset, .unset, .unset, .unset] [(.ref b27)])) _
        refine XS.iconst X34.here hx rfl (hb hby at_39) ?_
        exact k)
      obtain ⟨v1, rfl, pre37⟩ : ∃ (v1 : Int32), (v1 = bI (¬ ((p1 &&& (2 : Int32)).toInt = 0))) ∧ ∀ t, Steps p.tables e below (T34.setTop (mkF m 51 #[.val (.int p0), .val (.int p1), .val (.int p2), .val (.int (2 : Int32)), .val (.ref b27), .unset, .unset, .unset, .unset, .unset, .unset, .unset] [(.int v1), (.int (1 : Int32)), (.ref b27)])) t → Steps p.tables e below (s₁.setTop (mkF m 0 #[.val (.int p0), .val (.int p1), .val (.int p2), .unset, .unset, .unset, .unset, .unset, .unset, .unset, .unset, .unset] [])) t := by
        have pre39 : ∀ t, Steps p.tables e below (T34.setTop (mkF m 43 #[.val (.int p0), .val (.int p1), .val (.int p2), .val (.int (2 : Int32)), .val (.ref b27), .unset, .unset, .unset, .unset, .unset, .unset, .unset] [(.int (p1 &&& (2 : Int32))), (.int (1 : Int32)), (.ref b27)])) t → Steps p.tables e below (s₁.setTop (mkF m 0 #[.val (.int p0), .val (.int p1), .val (.int p2), .unset, .unset, .unset, .unset, .unset, .unset, .unset, .unset, .unset] [])) t := fun t k => pre36 t (by
          show Steps p.tables e below (T34.setTop (mkF m 40 #[.val (.int p0), .val (.int p1), .val (.int p2), .val (.int (2 : Int32)), .val (.ref b27), .unset, .unset, .unset, .unset, .unset, .unset, .unset] [(.int (1 : Int32)), (.ref b27)])) _
          refine XS.iloadN X34.here hx rfl (hb hby at_40) rfl ?_
          show Steps p.tables e below (T34.setTop (mkF m 41 #[.val (.int p0), .val (.int p1), .val (.int p2), .val (.int (2 : Int32)), .val (.ref b27), .unset, .unset, .unset, .unset, .unset, .unset, .unset] [(.int p1), (.int (1 : Int32)), (.ref b27)])) _
          refine XS.iconst X34.here hx rfl (hb hby at_41) ?_
          show Steps p.tables e below (T34.setTop (mkF m 42 #[.val (.int p0), .val (.int p1), .val (.int p2), .val (.int (2 : Int32)), .val (.ref b27), .unset, .unset, .unset, .unset, .unset, .unset, .unset] [(.int (2 : Int32)), (.int p1), (.int (1 : Int32)), (.ref b27)])) _
          refine XS.iand X34.here hx rfl (hb hby at_42) rfl ?_
          exact k)
        by_cases hc38 : (p1 &&& (2 : Int32)) = (0 : Int32)
        · skip
          have ohc38 : (p1 &&& (2 : Int32)).toInt = 0 := own_eq.mp hc38
          refine ⟨(0 : Int32), ?_, fun t k => pre39 t ?_⟩
          · exact own_c0 (by omega)
          · skip
            show Steps p.tables e below (T34.setTop (mkF m 43 #[.val (.int p0), .val (.int p1), .val (.int p2), .val (.int (2 : Int32)), .val (.ref b27), .unset, .unset, .unset, .unset, .unset, .unset, .unset] [(.int (p1 &&& (2 : Int32))), (.int (1 : Int32)), (.ref b27)])) _
            refine XS.ifYes X34.here hx rfl (pc0 := 43) (pc' := 50) rfl (hb hby at_43) rfl ((if0 _ _).trans (teq hc38).1) (by decide) (by decide) ?_
            show Steps p.tables e below (T34.setTop (mkF m 50 #[.val (.int p0), .val (.int p1), .val (.int p2), .val (.int (2 : Int32)), .val (.ref b27), .unset, .unset, .unset, .unset, .unset, .unset, .unset] [(.int (1 : Int32)), (.ref b27)])) _
            refine XS.iconst X34.here hx rfl (hb hby at_50) ?_
            exact k
        · skip
          have ohc38 : ¬ ((p1 &&& (2 : Int32)).toInt = 0) := own_neq.mp hc38
          refine ⟨(1 : Int32), ?_, fun t k => pre39 t ?_⟩
          · exact own_c1 (by omega)
          · skip
            show Steps p.tables e below (T34.setTop (mkF m 43 #[.val (.int p0), .val (.int p1), .val (.int p2), .val (.int (2 : Int32)), .val (.ref b27), .unset, .unset, .unset, .unset, .unset, .unset, .unset] [(.int (p1 &&& (2 : Int32))), (.int (1 : Int32)), (.ref b27)])) _
            refine XS.ifNo X34.here hx rfl (hb hby at_43) rfl ((if0 _ _).trans (feq hc38).1) ?_
            show Steps p.tables e below (T34.setTop (mkF m 46 #[.val (.int p0), .val (.int p1), .val (.int p2), .val (.int (2 : Int32)), .val (.ref b27), .unset, .unset, .unset, .unset, .unset, .unset, .unset] [(.int (1 : Int32)), (.ref b27)])) _
            refine XS.iconst X34.here hx rfl (hb hby at_46) ?_
            show Steps p.tables e below (T34.setTop (mkF m 47 #[.val (.int p0), .val (.int p1), .val (.int p2), .val (.int (2 : Int32)), .val (.ref b27), .unset, .unset, .unset, .unset, .unset, .unset, .unset] [(.int (1 : Int32)), (.int (1 : Int32)), (.ref b27)])) _
            refine XS.goto X34.here hx rfl (pc0 := 47) (pc' := 51) rfl (hb hby at_47) (by decide) (by decide) ?_
            exact k
      obtain ⟨cl40, Ar40, q40, Sz40, Nn40, Hh40, Gg40⟩ := id V34
      have hin40 : ¬ ((1 : Int32) < 0 ∨ cl40.slots.size ≤ ((1 : Int32)).toNatClampNeg) := inb_of Sz40 ⟨by decide, by decide⟩
      obtain ⟨T41, h41, X41, e41, W41, st41⟩ := stZ X34 hx hZ e34 Ar40 (j := (1 : Int32)) hin40 (g := (mkF m 51 #[.val (.int p0), .val (.int p1), .val (.int p2), .val (.int (2 : Int32)), .val (.ref b27), .unset, .unset, .unset, .unset, .unset, .unset, .unset] [(.int (bI (¬ ((p1 &&& (2 : Int32)).toInt = 0)))), (.int (1 : Int32)), (.ref b27)])) rfl rfl (hb hby at_51)
      have V41 : Arv Z h41 b27 k27 .boolean (2 : Int32) [(.int (nar .boolean (bI (¬ ((p1 &&& (1 : Int32)).toInt = 0))))), (.int (nar .boolean (bI (¬ ((p1 &&& (2 : Int32)).toInt = 0)))))] (.int (0 : Int32)) := Arv.set Ar40 q40 Sz40 Nn40 Hh40 Gg40 (fits_nar_bool _) W41 1 rfl (Nat.le_of_ble_eq_true rfl)
      have N41 := Fr.snoc X41 N34 g_b27
      have Z41 : n0 ≤ h41.size := Nat.le_trans Z34 (Keep.of_wr W41).1
      have K41 : Keep h0 h41 [] := K34.wr W41 (Or.inr sz_b27)
      have hc42 : ¬ ((2 : Int32) < (2 : Int32)) := by decide
      have hc43 : ¬ ((3 : Int32) < (2 : Int32)) := by decide
      have hc44 : ¬ ((4 : Int32) < (2 : Int32)) := by decide
      have hc45 : ¬ ((5 : Int32) < (2 : Int32)) := by decide
      have hc46 : ¬ ((6 : Int32) < (2 : Int32)) := by decide
      obtain ⟨cl47, Ar47, -, Sz47, -, Hh47, -⟩ := V41
      refine ⟨b27, cl47, T41, _, h41, X41.more (by decide) (by decide), e41, N41, Z41, K41, ⟨Ar47, Sz47, fun j hj => by
        have q := Hh47 j (by rw [Sz47]; exact hj)
        have hj' : j < 2 := hj
        rcases (show j = 0 ∨ j = 1 by omega) with rfl | rfl
        · exact q.trans (congrArg (fun z => some (Value.int z)) (own_nar (P := ¬ ((p1 &&& (1 : Int32)).toInt = 0))))
        · exact q.trans (congrArg (fun z => some (Value.int z)) (own_nar (P := ¬ ((p1 &&& (2 : Int32)).toInt = 0))))⟩, fun t k => pre37 t ?_⟩
      show Steps p.tables e below (T34.setTop (mkF m 51 #[.val (.int p0), .val (.int p1), .val (.int p2), .val (.int (2 : Int32)), .val (.ref b27), .unset, .unset, .unset, .unset, .unset, .unset, .unset] [(.int (bI (¬ ((p1 &&& (2 : Int32)).toInt = 0)))), (.int (1 : Int32)), (.ref b27)])) _
      refine st41 _ ?_
      show Steps p.tables e below (T41.setTop (mkF m 52 #[.val (.int p0), .val (.int p1), .val (.int p2), .val (.int (2 : Int32)), .val (.ref b27), .unset, .unset, .unset, .unset, .unset, .unset, .unset] [])) _
      refine XS.iloadN X41.here hx rfl (hb hby at_52) rfl ?_
      show Steps p.tables e below (T41.setTop (mkF m 53 #[.val (.int p0), .val (.int p1), .val (.int p2), .val (.int (2 : Int32)), .val (.ref b27), .unset, .unset, .unset, .unset, .unset, .unset, .unset] [(.int (2 : Int32))])) _
      refine XS.iconst X41.here hx rfl (hb hby at_53) ?_
      show Steps p.tables e below (T41.setTop (mkF m 54 #[.val (.int p0), .val (.int p1), .val (.int p2), .val (.int (2 : Int32)), .val (.ref b27), .unset, .unset, .unset, .unset, .unset, .unset, .unset] [(.int (2 : Int32)), (.int (2 : Int32))])) _
      refine XS.icmpYes X41.here hx rfl (pc0 := 54) (pc' := 72) rfl (hb hby at_54) rfl (flt hc42).2.2.2 (by decide) (by decide) ?_
      show Steps p.tables e below (T41.setTop (mkF m 72 #[.val (.int p0), .val (.int p1), .val (.int p2), .val (.int (2 : Int32)), .val (.ref b27), .unset, .unset, .unset, .unset, .unset, .unset, .unset] [])) _
      refine XS.iloadN X41.here hx rfl (hb hby at_72) rfl ?_
      show Steps p.tables e below (T41.setTop (mkF m 73 #[.val (.int p0), .val (.int p1), .val (.int p2), .val (.int (2 : Int32)), .val (.ref b27), .unset, .unset, .unset, .unset, .unset, .unset, .unset] [(.int (2 : Int32))])) _
      refine XS.iconst X41.here hx rfl (hb hby at_73) ?_
      show Steps p.tables e below (T41.setTop (mkF m 74 #[.val (.int p0), .val (.int p1), .val (.int p2), .val (.int (2 : Int32)), .val (.ref b27), .unset, .unset, .unset, .unset, .unset, .unset, .unset] [(.int (3 : Int32)), (.int (2 : Int32))])) _
      refine XS.icmpYes X41.here hx rfl (pc0 := 74) (pc' := 93) rfl (hb hby at_74) rfl (flt hc43).2.2.2 (by decide) (by decide) ?_
      show Steps p.tables e below (T41.setTop (mkF m 93 #[.val (.int p0), .val (.int p1), .val (.int p2), .val (.int (2 : Int32)), .val (.ref b27), .unset, .unset, .unset, .unset, .unset, .unset, .unset] [])) _
      refine XS.iloadN X41.here hx rfl (hb hby at_93) rfl ?_
      show Steps p.tables e below (T41.setTop (mkF m 94 #[.val (.int p0), .val (.int p1), .val (.int p2), .val (.int (2 : Int32)), .val (.ref b27), .unset, .unset, .unset, .unset, .unset, .unset, .unset] [(.int (2 : Int32))])) _
      refine XS.iconst X41.here hx rfl (hb hby at_94) ?_
      show Steps p.tables e below (T41.setTop (mkF m 95 #[.val (.int p0), .val (.int p1), .val (.int p2), .val (.int (2 : Int32)), .val (.ref b27), .unset, .unset, .unset, .unset, .unset, .unset, .unset] [(.int (4 : Int32)), (.int (2 : Int32))])) _
      refine XS.icmpYes X41.here hx rfl (pc0 := 95) (pc' := 114) rfl (hb hby at_95) rfl (flt hc44).2.2.2 (by decide) (by decide) ?_
      show Steps p.tables e below (T41.setTop (mkF m 114 #[.val (.int p0), .val (.int p1), .val (.int p2), .val (.int (2 : Int32)), .val (.ref b27), .unset, .unset, .unset, .unset, .unset, .unset, .unset] [])) _
      refine XS.iloadN X41.here hx rfl (hb hby at_114) rfl ?_
      show Steps p.tables e below (T41.setTop (mkF m 115 #[.val (.int p0), .val (.int p1), .val (.int p2), .val (.int (2 : Int32)), .val (.ref b27), .unset, .unset, .unset, .unset, .unset, .unset, .unset] [(.int (2 : Int32))])) _
      refine XS.iconst X41.here hx rfl (hb hby at_115) ?_
      show Steps p.tables e below (T41.setTop (mkF m 116 #[.val (.int p0), .val (.int p1), .val (.int p2), .val (.int (2 : Int32)), .val (.ref b27), .unset, .unset, .unset, .unset, .unset, .unset, .unset] [(.int (5 : Int32)), (.int (2 : Int32))])) _
      refine XS.icmpYes X41.here hx rfl (pc0 := 116) (pc' := 135) rfl (hb hby at_116) rfl (flt hc45).2.2.2 (by decide) (by decide) ?_
      show Steps p.tables e below (T41.setTop (mkF m 135 #[.val (.int p0), .val (.int p1), .val (.int p2), .val (.int (2 : Int32)), .val (.ref b27), .unset, .unset, .unset, .unset, .unset, .unset, .unset] [])) _
      refine XS.iloadN X41.here hx rfl (hb hby at_135) rfl ?_
      show Steps p.tables e below (T41.setTop (mkF m 136 #[.val (.int p0), .val (.int p1), .val (.int p2), .val (.int (2 : Int32)), .val (.ref b27), .unset, .unset, .unset, .unset, .unset, .unset, .unset] [(.int (2 : Int32))])) _
      refine XS.bipush X41.here hx rfl (hb hby at_136) ?_
      show Steps p.tables e below (T41.setTop (mkF m 138 #[.val (.int p0), .val (.int p1), .val (.int p2), .val (.int (2 : Int32)), .val (.ref b27), .unset, .unset, .unset, .unset, .unset, .unset, .unset] [(.int (6 : Int32)), (.int (2 : Int32))])) _
      refine XS.icmpYes X41.here hx rfl (pc0 := 138) (pc' := 158) rfl (hb hby at_138) rfl (flt hc46).2.2.2 (by decide) (by decide) ?_
      exact k
    · skip
      obtain rfl : ln = (3 : Int32) := own_eq.mpr hk_ln
      obtain ⟨T48, h48, k48, X48, e48, E48, A48, st48⟩ := newP X0 hx hZ (hw _ (List.mem_of_getElem? (i := 1) rfl)) e0 (g := (mkF m 9 #[.val (.int p0), .val (.int p1), .val (.int p2), .val (.int (3 : Int32)), .unset, .unset, .unset, .unset, .unset, .unset, .unset, .unset] [(.int (3 : Int32))])) rfl (hb hby at_9) rfl (by decide) (cap := 3) (by decide) (by decide) (by decide) (by decide)
      obtain ⟨b48, g48⟩ : ∃ z, z = h0.size := ⟨_, rfl⟩
      rw [← g48] at A48 st48
      have g_b48 : n0 ≤ b48 := Nat.le_trans Z0 (Nat.le_of_eq g48.symm)
      skip
      have Z48 : n0 ≤ h48.size := Nat.le_trans Z0 E48.1
      have K48 : Keep h0 h48 [] := KR.ext E48
      have sz_b48 : h0.size ≤ b48 := Nat.le_trans KR.1 (Nat.le_of_eq g48.symm)
      have V48 : Arv Z h48 b48 k48 .boolean (3 : Int32) [(.int (0 : Int32)), (.int (0 : Int32)), (.int (0 : Int32))] (.int (0 : Int32)) := (Arv.new A48 (by decide)).pad (pad_rep [] (.int (0 : Int32)) 3)
      have hc49 : (0 : Int32) < (3 : Int32) := by decide
      have pre50 : ∀ t, Steps p.tables e below (T48.setTop (mkF m 20 #[.val (.int p0), .val (.int p1), .val (.int p2), .val (.int (3 : Int32)), .val (.ref b48), .unset, .unset, .unset, .unset, .unset, .unset, .unset] [(.int (0 : Int32)), (.ref b48)])) t → Steps p.tables e below (s₁.setTop (mkF m 0 #[.val (.int p0), .val (.int p1), .val (.int p2), .unset, .unset, .unset, .unset, .unset, .unset, .unset, .unset, .unset] [])) t := fun t k => pre1 t (by
        show Steps p.tables e below (s₁.setTop (mkF m 8 #[.val (.int p0), .val (.int p1), .val (.int p2), .val (.int (3 : Int32)), .unset, .unset, .unset, .unset, .unset, .unset, .unset, .unset] [])) _
        refine XS.iloadN X0.here hx rfl (hb hby at_8) rfl ?_
        show Steps p.tables e below (s₁.setTop (mkF m 9 #[.val (.int p0), .val (.int p1), .val (.int p2), .val (.int (3 : Int32)), .unset, .unset, .unset, .unset, .unset, .unset, .unset, .unset] [(.int (3 : Int32))])) _
        refine st48 _ ?_
        show Steps p.tables e below (T48.setTop (mkF m 11 #[.val (.int p0), .val (.int p1), .val (.int p2), .val (.int (3 : Int32)), .unset, .unset, .unset, .unset, .unset, .unset, .unset, .unset] [(.ref b48)])) _
        refine XS.astore X48.here hx rfl (hb hby at_11) rfl rfl (l' := #[.val (.int p0), .val (.int p1), .val (.int p2), .val (.int (3 : Int32)), .val (.ref b48), .unset, .unset, .unset, .unset, .unset, .unset, .unset]) rfl ?_
        show Steps p.tables e below (T48.setTop (mkF m 13 #[.val (.int p0), .val (.int p1), .val (.int p2), .val (.int (3 : Int32)), .val (.ref b48), .unset, .unset, .unset, .unset, .unset, .unset, .unset] [])) _
        refine XS.iloadN X48.here hx rfl (hb hby at_13) rfl ?_
        show Steps p.tables e below (T48.setTop (mkF m 14 #[.val (.int p0), .val (.int p1), .val (.int p2), .val (.int (3 : Int32)), .val (.ref b48), .unset, .unset, .unset, .unset, .unset, .unset, .unset] [(.int (3 : Int32))])) _
        refine XS.ifNo X48.here hx rfl (hb hby at_14) rfl ((if0 _ _).trans (tlt hc49).2.2.2) ?_
        show Steps p.tables e below (T48.setTop (mkF m 17 #[.val (.int p0), .val (.int p1), .val (.int p2), .val (.int (3 : Int32)), .val (.ref b48), .unset, .unset, .unset, .unset, .unset, .unset, .unset] [])) _
        refine XS.aload X48.here hx rfl (hb hby at_17) rfl rfl ?_
        show Steps p.tables e below (T48.setTop (mkF m 19 #[.val (.int p0), .val (.int p1), .val (.int p2), .val (.int (3 : Int32)), .val (.ref b48), .unset, .unset, .unset, .unset, .unset, .unset, .unset] [(.ref b48)])) _
        refine XS.iconst X48.here hx rfl (hb hby at_19) ?_
        exact k)
      obtain ⟨v0, rfl, pre51⟩ : ∃ (v0 : Int32), (v0 = bI (¬ ((p1 &&& (1 : Int32)).toInt = 0))) ∧ ∀ t, Steps p.tables e below (T48.setTop (mkF m 31 #[.val (.int p0), .val (.int p1), .val (.int p2), .val (.int (3 : Int32)), .val (.ref b48), .unset, .unset, .unset, .unset, .unset, .unset, .unset] [(.int v0), (.int (0 : Int32)), (.ref b48)])) t → Steps p.tables e below (s₁.setTop (mkF m 0 #[.val (.int p0), .val (.int p1), .val (.int p2), .unset, .unset, .unset, .unset, .unset, .unset, .unset, .unset, .unset] [])) t := by
        have pre53 : ∀ t, Steps p.tables e below (T48.setTop (mkF m 23 #[.val (.int p0), .val (.int p1), .val (.int p2), .val (.int (3 : Int32)), .val (.ref b48), .unset, .unset, .unset, .unset, .unset, .unset, .unset] [(.int (p1 &&& (1 : Int32))), (.int (0 : Int32)), (.ref b48)])) t → Steps p.tables e below (s₁.setTop (mkF m 0 #[.val (.int p0), .val (.int p1), .val (.int p2), .unset, .unset, .unset, .unset, .unset, .unset, .unset, .unset, .unset] [])) t := fun t k => pre50 t (by
          show Steps p.tables e below (T48.setTop (mkF m 20 #[.val (.int p0), .val (.int p1), .val (.int p2), .val (.int (3 : Int32)), .val (.ref b48), .unset, .unset, .unset, .unset, .unset, .unset, .unset] [(.int (0 : Int32)), (.ref b48)])) _
          refine XS.iloadN X48.here hx rfl (hb hby at_20) rfl ?_
          show Steps p.tables e below (T48.setTop (mkF m 21 #[.val (.int p0), .val (.int p1), .val (.int p2), .val (.int (3 : Int32)), .val (.ref b48), .unset, .unset, .unset, .unset, .unset, .unset, .unset] [(.int p1), (.int (0 : Int32)), (.ref b48)])) _
          refine XS.iconst X48.here hx rfl (hb hby at_21) ?_
          show Steps p.tables e below (T48.setTop (mkF m 22 #[.val (.int p0), .val (.int p1), .val (.int p2), .val (.int (3 : Int32)), .val (.ref b48), .unset, .unset, .unset, .unset, .unset, .unset, .unset] [(.int (1 : Int32)), (.int p1), (.int (0 : Int32)), (.ref b48)])) _
          refine XS.iand X48.here hx rfl (hb hby at_22) rfl ?_
          exact k)
        by_cases hc52 : (p1 &&& (1 : Int32)) = (0 : Int32)
        · skip
          have ohc52 : (p1 &&& (1 : Int32)).toInt = 0 := own_eq.mp hc52
          refine ⟨(0 : Int32), ?_, fun t k => pre53 t ?_⟩
          · exact own_c0 (by omega)
          · skip
            show Steps p.tables e below (T48.setTop (mkF m 23 #[.val (.int p0), .val (.int p1), .val (.int p2), .val (.int (3 : Int32)), .val (.ref b48), .unset, .unset, .unset, .unset, .unset, .unset, .unset] [(.int (p1 &&& (1 : Int32))), (.int (0 : Int32)), (.ref b48)])) _
            refine XS.ifYes X48.here hx rfl (pc0 := 23) (pc' := 30) rfl (hb hby at_23) rfl ((if0 _ _).trans (teq hc52).1) (by decide) (by decide) ?_
            show Steps p.tables e below (T48.setTop (mkF m 30 #[.val (.int p0), .val (.int p1), .val (.int p2), .val (.int (3 : Int32)), .val (.ref b48), .unset, .unset, .unset, .unset, .unset, .unset, .unset] [(.int (0 : Int32)), (.ref b48)])) _
            refine XS.iconst X48.here hx rfl (hb hby at_30) ?_
            exact k
        · skip
          have ohc52 : ¬ ((p1 &&& (1 : Int32)).toInt = 0) := own_neq.mp hc52
          refine ⟨(1 : Int32), ?_, fun t k => pre53 t ?_⟩
          · exact own_c1 (by omega)
          · skip
            show Steps p.tables e below (T48.setTop (mkF m 23 #[.val (.int p0), .val (.int p1), .val (.int p2), .val (.int (3 : Int32)), .val (.ref b48), .unset, .unset, .unset, .unset, .unset, .unset, .unset] [(.int (p1 &&& (1 : Int32))), (.int (0 : Int32)), (.ref b48)])) _
            refine XS.ifNo X48.here hx rfl (hb hby at_23) rfl ((if0 _ _).trans (feq hc52).1) ?_
            show Steps p.tables e below (T48.setTop (mkF m 26 #[.val (.int p0), .val (.int p1), .val (.int p2), .val (.int (3 : Int32)), .val (.ref b48), .unset, .unset, .unset, .unset, .unset, .unset, .unset] [(.int (0 : Int32)), (.ref b48)])) _
            refine XS.iconst X48.here hx rfl (hb hby at_26) ?_
            show Steps p.tables e below (T48.setTop (mkF m 27 #[.val (.int p0), .val (.int p1), .val (.int p2), .val (.int (3 : Int32)), .val (.ref b48), .unset, .unset, .unset, .unset, .unset, .unset, .unset] [(.int (1 : Int32)), (.int (0 : Int32)), (.ref b48)])) _
            refine XS.goto X48.here hx rfl (pc0 := 27) (pc' := 31) rfl (hb hby at_27) (by decide) (by decide) ?_
            exact k
      obtain ⟨cl54, Ar54, q54, Sz54, Nn54, Hh54, Gg54⟩ := id V48
      have hin54 : ¬ ((0 : Int32) < 0 ∨ cl54.slots.size ≤ ((0 : Int32)).toNatClampNeg) := inb_of Sz54 ⟨by decide, by decide⟩
      obtain ⟨T55, h55, X55, e55, W55, st55⟩ := stZ X48 hx hZ e48 Ar54 (j := (0 : Int32)) hin54 (g := (mkF m 31 #[.val (.int p0), .val (.int p1), .val (.int p2), .val (.int (3 : Int32)), .val (.ref b48), .unset, .unset, .unset, .unset, .unset, .unset, .unset] [(.int (bI (¬ ((p1 &&& (1 : Int32)).toInt = 0)))), (.int (0 : Int32)), (.ref b48)])) rfl rfl (hb hby at_31)
      have V55 : Arv Z h55 b48 k48 .boolean (3 : Int32) [(.int (nar .boolean (bI (¬ ((p1 &&& (1 : Int32)).toInt = 0))))), (.int (0 : Int32)), (.int (0 : Int32))] (.int (0 : Int32)) := Arv.set Ar54 q54 Sz54 Nn54 Hh54 Gg54 (fits_nar_bool _) W55 0 rfl (Nat.le_of_ble_eq_true rfl)
      have N55 := Fr.snoc X55 N0 g_b48
      have Z55 : n0 ≤ h55.size := Nat.le_trans Z48 (Keep.of_wr W55).1
      have K55 : Keep h0 h55 [] := K48.wr W55 (Or.inr sz_b48)
      have hc56 : (1 : Int32) < (3 : Int32) := by decide
      have pre57 : ∀ t, Steps p.tables e below (T55.setTop (mkF m 40 #[.val (.int p0), .val (.int p1), .val (.int p2), .val (.int (3 : Int32)), .val (.ref b48), .unset, .unset, .unset, .unset, .unset, .unset, .unset] [(.int (1 : Int32)), (.ref b48)])) t → Steps p.tables e below (s₁.setTop (mkF m 0 #[.val (.int p0), .val (.int p1), .val (.int p2), .unset, .unset, .unset, .unset, .unset, .unset, .unset, .unset, .unset] [])) t := fun t k => pre51 t (by
        show Steps p.tables e below (T48.setTop (mkF m 31 #[.val (.int p0), .val (.int p1), .val (.int p2), .val (.int (3 : Int32)), .val (.ref b48), .unset, .unset, .unset, .unset, .unset, .unset, .unset] [(.int (bI (¬ ((p1 &&& (1 : Int32)).toInt = 0)))), (.int (0 : Int32)), (.ref b48)])) _
        refine st55 _ ?_
        show Steps p.tables e below (T55.setTop (mkF m 32 #[.val (.int p0), .val (.int p1), .val (.int p2), .val (.int (3 : Int32)), .val (.ref b48), .unset, .unset, .unset, .unset, .unset, .unset, .unset] [])) _
        refine XS.iloadN X55.here hx rfl (hb hby at_32) rfl ?_
        show Steps p.tables e below (T55.setTop (mkF m 33 #[.val (.int p0), .val (.int p1), .val (.int p2), .val (.int (3 : Int32)), .val (.ref b48), .unset, .unset, .unset, .unset, .unset, .unset, .unset] [(.int (3 : Int32))])) _
        refine XS.iconst X55.here hx rfl (hb hby at_33) ?_
        show Steps p.tables e below (T55.setTop (mkF m 34 #[.val (.int p0), .val (.int p1), .val (.int p2), .val (.int (3 : Int32)), .val (.ref b48), .unset, .unset, .unset, .unset, .unset, .unset, .unset] [(.int (1 : Int32)), (.int (3 : Int32))])) _
        refine XS.icmpNo X55.here hx rfl (hb hby at_34) rfl (tlt hc56).2.2.2 ?_
        show Steps p.tables e below (T55.setTop (mkF m 37 #[.val (.int p0), .val (.int p1), .val (.int p2), .val (.int (3 : Int32)), .val (.ref b48), .unset, .unset, .unset, .unset, .unset, .unset, .unset] [])) _
        refine XS.aload X55.here hx rfl (hb hby at_37) rfl rfl ?_
        show Steps p.tables e below (T55.setTop (mkF m 39 #[.val (.int p0), .val (.int p1), .val (.int p2), .val (.int (3 : Int32)), .val (.ref b48), .unset, .unset, .unset, .unset, .unset, .unset, .unset] [(.ref b48)])) _
        refine XS.iconst X55.here hx rfl (hb hby at_39) ?_
        exact k)
      obtain ⟨v1, rfl, pre58⟩ : ∃ (v1 : Int32), (v1 = bI (¬ ((p1 &&& (2 : Int32)).toInt = 0))) ∧ ∀ t, Steps p.tables e below (T55.setTop (mkF m 51 #[.val (.int p0), .val (.int p1), .val (.int p2), .val (.int (3 : Int32)), .val (.ref b48), .unset, .unset, .unset, .unset, .unset, .unset, .unset] [(.int v1), (.int (1 : Int32)), (.ref b48)])) t → Steps p.tables e below (s₁.setTop (mkF m 0 #[.val (.int p0), .val (.int p1), .val (.int p2), .unset, .unset, .unset, .unset, .unset, .unset, .unset, .unset, .unset] [])) t := by
        have pre60 : ∀ t, Steps p.tables e below (T55.setTop (mkF m 43 #[.val (.int p0), .val (.int p1), .val (.int p2), .val (.int (3 : Int32)), .val (.ref b48), .unset, .unset, .unset, .unset, .unset, .unset, .unset] [(.int (p1 &&& (2 : Int32))), (.int (1 : Int32)), (.ref b48)])) t → Steps p.tables e below (s₁.setTop (mkF m 0 #[.val (.int p0), .val (.int p1), .val (.int p2), .unset, .unset, .unset, .unset, .unset, .unset, .unset, .unset, .unset] [])) t := fun t k => pre57 t (by
          show Steps p.tables e below (T55.setTop (mkF m 40 #[.val (.int p0), .val (.int p1), .val (.int p2), .val (.int (3 : Int32)), .val (.ref b48), .unset, .unset, .unset, .unset, .unset, .unset, .unset] [(.int (1 : Int32)), (.ref b48)])) _
          refine XS.iloadN X55.here hx rfl (hb hby at_40) rfl ?_
          show Steps p.tables e below (T55.setTop (mkF m 41 #[.val (.int p0), .val (.int p1), .val (.int p2), .val (.int (3 : Int32)), .val (.ref b48), .unset, .unset, .unset, .unset, .unset, .unset, .unset] [(.int p1), (.int (1 : Int32)), (.ref b48)])) _
          refine XS.iconst X55.here hx rfl (hb hby at_41) ?_
          show Steps p.tables e below (T55.setTop (mkF m 42 #[.val (.int p0), .val (.int p1), .val (.int p2), .val (.int (3 : Int32)), .val (.ref b48), .unset, .unset, .unset, .unset, .unset, .unset, .unset] [(.int (2 : Int32)), (.int p1), (.int (1 : Int32)), (.ref b48)])) _
          refine XS.iand X55.here hx rfl (hb hby at_42) rfl ?_
          exact k)
        by_cases hc59 : (p1 &&& (2 : Int32)) = (0 : Int32)
        · skip
          have ohc59 : (p1 &&& (2 : Int32)).toInt = 0 := own_eq.mp hc59
          refine ⟨(0 : Int32), ?_, fun t k => pre60 t ?_⟩
          · exact own_c0 (by omega)
          · skip
            show Steps p.tables e below (T55.setTop (mkF m 43 #[.val (.int p0), .val (.int p1), .val (.int p2), .val (.int (3 : Int32)), .val (.ref b48), .unset, .unset, .unset, .unset, .unset, .unset, .unset] [(.int (p1 &&& (2 : Int32))), (.int (1 : Int32)), (.ref b48)])) _
            refine XS.ifYes X55.here hx rfl (pc0 := 43) (pc' := 50) rfl (hb hby at_43) rfl ((if0 _ _).trans (teq hc59).1) (by decide) (by decide) ?_
            show Steps p.tables e below (T55.setTop (mkF m 50 #[.val (.int p0), .val (.int p1), .val (.int p2), .val (.int (3 : Int32)), .val (.ref b48), .unset, .unset, .unset, .unset, .unset, .unset, .unset] [(.int (1 : Int32)), (.ref b48)])) _
            refine XS.iconst X55.here hx rfl (hb hby at_50) ?_
            exact k
        · skip
          have ohc59 : ¬ ((p1 &&& (2 : Int32)).toInt = 0) := own_neq.mp hc59
          refine ⟨(1 : Int32), ?_, fun t k => pre60 t ?_⟩
          · exact own_c1 (by omega)
          · skip
            show Steps p.tables e below (T55.setTop (mkF m 43 #[.val (.int p0), .val (.int p1), .val (.int p2), .val (.int (3 : Int32)), .val (.ref b48), .unset, .unset, .unset, .unset, .unset, .unset, .unset] [(.int (p1 &&& (2 : Int32))), (.int (1 : Int32)), (.ref b48)])) _
            refine XS.ifNo X55.here hx rfl (hb hby at_43) rfl ((if0 _ _).trans (feq hc59).1) ?_
            show Steps p.tables e below (T55.setTop (mkF m 46 #[.val (.int p0), .val (.int p1), .val (.int p2), .val (.int (3 : Int32)), .val (.ref b48), .unset, .unset, .unset, .unset, .unset, .unset, .unset] [(.int (1 : Int32)), (.ref b48)])) _
            refine XS.iconst X55.here hx rfl (hb hby at_46) ?_
            show Steps p.tables e below (T55.setTop (mkF m 47 #[.val (.int p0), .val (.int p1), .val (.int p2), .val (.int (3 : Int32)), .val (.ref b48), .unset, .unset, .unset, .unset, .unset, .unset, .unset] [(.int (1 : Int32)), (.int (1 : Int32)), (.ref b48)])) _
            refine XS.goto X55.here hx rfl (pc0 := 47) (pc' := 51) rfl (hb hby at_47) (by decide) (by decide) ?_
            exact k
      obtain ⟨cl61, Ar61, q61, Sz61, Nn61, Hh61, Gg61⟩ := id V55
      have hin61 : ¬ ((1 : Int32) < 0 ∨ cl61.slots.size ≤ ((1 : Int32)).toNatClampNeg) := inb_of Sz61 ⟨by decide, by decide⟩
      obtain ⟨T62, h62, X62, e62, W62, st62⟩ := stZ X55 hx hZ e55 Ar61 (j := (1 : Int32)) hin61 (g := (mkF m 51 #[.val (.int p0), .val (.int p1), .val (.int p2), .val (.int (3 : Int32)), .val (.ref b48), .unset, .unset, .unset, .unset, .unset, .unset, .unset] [(.int (bI (¬ ((p1 &&& (2 : Int32)).toInt = 0)))), (.int (1 : Int32)), (.ref b48)])) rfl rfl (hb hby at_51)
      have V62 : Arv Z h62 b48 k48 .boolean (3 : Int32) [(.int (nar .boolean (bI (¬ ((p1 &&& (1 : Int32)).toInt = 0))))), (.int (nar .boolean (bI (¬ ((p1 &&& (2 : Int32)).toInt = 0))))), (.int (0 : Int32))] (.int (0 : Int32)) := Arv.set Ar61 q61 Sz61 Nn61 Hh61 Gg61 (fits_nar_bool _) W62 1 rfl (Nat.le_of_ble_eq_true rfl)
      have N62 := Fr.snoc X62 N55 g_b48
      have Z62 : n0 ≤ h62.size := Nat.le_trans Z55 (Keep.of_wr W62).1
      have K62 : Keep h0 h62 [] := K55.wr W62 (Or.inr sz_b48)
      have hc63 : (2 : Int32) < (3 : Int32) := by decide
      have pre64 : ∀ t, Steps p.tables e below (T62.setTop (mkF m 60 #[.val (.int p0), .val (.int p1), .val (.int p2), .val (.int (3 : Int32)), .val (.ref b48), .unset, .unset, .unset, .unset, .unset, .unset, .unset] [(.int (2 : Int32)), (.ref b48)])) t → Steps p.tables e below (s₁.setTop (mkF m 0 #[.val (.int p0), .val (.int p1), .val (.int p2), .unset, .unset, .unset, .unset, .unset, .unset, .unset, .unset, .unset] [])) t := fun t k => pre58 t (by
        show Steps p.tables e below (T55.setTop (mkF m 51 #[.val (.int p0), .val (.int p1), .val (.int p2), .val (.int (3 : Int32)), .val (.ref b48), .unset, .unset, .unset, .unset, .unset, .unset, .unset] [(.int (bI (¬ ((p1 &&& (2 : Int32)).toInt = 0)))), (.int (1 : Int32)), (.ref b48)])) _
        refine st62 _ ?_
        show Steps p.tables e below (T62.setTop (mkF m 52 #[.val (.int p0), .val (.int p1), .val (.int p2), .val (.int (3 : Int32)), .val (.ref b48), .unset, .unset, .unset, .unset, .unset, .unset, .unset] [])) _
        refine XS.iloadN X62.here hx rfl (hb hby at_52) rfl ?_
        show Steps p.tables e below (T62.setTop (mkF m 53 #[.val (.int p0), .val (.int p1), .val (.int p2), .val (.int (3 : Int32)), .val (.ref b48), .unset, .unset, .unset, .unset, .unset, .unset, .unset] [(.int (3 : Int32))])) _
        refine XS.iconst X62.here hx rfl (hb hby at_53) ?_
        show Steps p.tables e below (T62.setTop (mkF m 54 #[.val (.int p0), .val (.int p1), .val (.int p2), .val (.int (3 : Int32)), .val (.ref b48), .unset, .unset, .unset, .unset, .unset, .unset, .unset] [(.int (2 : Int32)), (.int (3 : Int32))])) _
        refine XS.icmpNo X62.here hx rfl (hb hby at_54) rfl (tlt hc63).2.2.2 ?_
        show Steps p.tables e below (T62.setTop (mkF m 57 #[.val (.int p0), .val (.int p1), .val (.int p2), .val (.int (3 : Int32)), .val (.ref b48), .unset, .unset, .unset, .unset, .unset, .unset, .unset] [])) _
        refine XS.aload X62.here hx rfl (hb hby at_57) rfl rfl ?_
        show Steps p.tables e below (T62.setTop (mkF m 59 #[.val (.int p0), .val (.int p1), .val (.int p2), .val (.int (3 : Int32)), .val (.ref b48), .unset, .unset, .unset, .unset, .unset, .unset, .unset] [(.ref b48)])) _
        refine XS.iconst X62.here hx rfl (hb hby at_59) ?_
        exact k)
      obtain ⟨v2, rfl, pre65⟩ : ∃ (v2 : Int32), (v2 = bI (¬ ((p1 &&& (4 : Int32)).toInt = 0))) ∧ ∀ t, Steps p.tables e below (T62.setTop (mkF m 71 #[.val (.int p0), .val (.int p1), .val (.int p2), .val (.int (3 : Int32)), .val (.ref b48), .unset, .unset, .unset, .unset, .unset, .unset, .unset] [(.int v2), (.int (2 : Int32)), (.ref b48)])) t → Steps p.tables e below (s₁.setTop (mkF m 0 #[.val (.int p0), .val (.int p1), .val (.int p2), .unset, .unset, .unset, .unset, .unset, .unset, .unset, .unset, .unset] [])) t := by
        have pre67 : ∀ t, Steps p.tables e below (T62.setTop (mkF m 63 #[.val (.int p0), .val (.int p1), .val (.int p2), .val (.int (3 : Int32)), .val (.ref b48), .unset, .unset, .unset, .unset, .unset, .unset, .unset] [(.int (p1 &&& (4 : Int32))), (.int (2 : Int32)), (.ref b48)])) t → Steps p.tables e below (s₁.setTop (mkF m 0 #[.val (.int p0), .val (.int p1), .val (.int p2), .unset, .unset, .unset, .unset, .unset, .unset, .unset, .unset, .unset] [])) t := fun t k => pre64 t (by
          show Steps p.tables e below (T62.setTop (mkF m 60 #[.val (.int p0), .val (.int p1), .val (.int p2), .val (.int (3 : Int32)), .val (.ref b48), .unset, .unset, .unset, .unset, .unset, .unset, .unset] [(.int (2 : Int32)), (.ref b48)])) _
          refine XS.iloadN X62.here hx rfl (hb hby at_60) rfl ?_
          show Steps p.tables e below (T62.setTop (mkF m 61 #[.val (.int p0), .val (.int p1), .val (.int p2), .val (.int (3 : Int32)), .val (.ref b48), .unset, .unset, .unset, .unset, .unset, .unset, .unset] [(.int p1), (.int (2 : Int32)), (.ref b48)])) _
          refine XS.iconst X62.here hx rfl (hb hby at_61) ?_
          show Steps p.tables e below (T62.setTop (mkF m 62 #[.val (.int p0), .val (.int p1), .val (.int p2), .val (.int (3 : Int32)), .val (.ref b48), .unset, .unset, .unset, .unset, .unset, .unset, .unset] [(.int (4 : Int32)), (.int p1), (.int (2 : Int32)), (.ref b48)])) _
          refine XS.iand X62.here hx rfl (hb hby at_62) rfl ?_
          exact k)
        by_cases hc66 : (p1 &&& (4 : Int32)) = (0 : Int32)
        · skip
          have ohc66 : (p1 &&& (4 : Int32)).toInt = 0 := own_eq.mp hc66
          refine ⟨(0 : Int32), ?_, fun t k => pre67 t ?_⟩
          · exact own_c0 (by omega)
          · skip
            show Steps p.tables e below (T62.setTop (mkF m 63 #[.val (.int p0), .val (.int p1), .val (.int p2), .val (.int (3 : Int32)), .val (.ref b48), .unset, .unset, .unset, .unset, .unset, .unset, .unset] [(.int (p1 &&& (4 : Int32))), (.int (2 : Int32)), (.ref b48)])) _
            refine XS.ifYes X62.here hx rfl (pc0 := 63) (pc' := 70) rfl (hb hby at_63) rfl ((if0 _ _).trans (teq hc66).1) (by decide) (by decide) ?_
            show Steps p.tables e below (T62.setTop (mkF m 70 #[.val (.int p0), .val (.int p1), .val (.int p2), .val (.int (3 : Int32)), .val (.ref b48), .unset, .unset, .unset, .unset, .unset, .unset, .unset] [(.int (2 : Int32)), (.ref b48)])) _
            refine XS.iconst X62.here hx rfl (hb hby at_70) ?_
            exact k
        · skip
          have ohc66 : ¬ ((p1 &&& (4 : Int32)).toInt = 0) := own_neq.mp hc66
          refine ⟨(1 : Int32), ?_, fun t k => pre67 t ?_⟩
          · exact own_c1 (by omega)
          · skip
            show Steps p.tables e below (T62.setTop (mkF m 63 #[.val (.int p0), .val (.int p1), .val (.int p2), .val (.int (3 : Int32)), .val (.ref b48), .unset, .unset, .unset, .unset, .unset, .unset, .unset] [(.int (p1 &&& (4 : Int32))), (.int (2 : Int32)), (.ref b48)])) _
            refine XS.ifNo X62.here hx rfl (hb hby at_63) rfl ((if0 _ _).trans (feq hc66).1) ?_
            show Steps p.tables e below (T62.setTop (mkF m 66 #[.val (.int p0), .val (.int p1), .val (.int p2), .val (.int (3 : Int32)), .val (.ref b48), .unset, .unset, .unset, .unset, .unset, .unset, .unset] [(.int (2 : Int32)), (.ref b48)])) _
            refine XS.iconst X62.here hx rfl (hb hby at_66) ?_
            show Steps p.tables e below (T62.setTop (mkF m 67 #[.val (.int p0), .val (.int p1), .val (.int p2), .val (.int (3 : Int32)), .val (.ref b48), .unset, .unset, .unset, .unset, .unset, .unset, .unset] [(.int (1 : Int32)), (.int (2 : Int32)), (.ref b48)])) _
            refine XS.goto X62.here hx rfl (pc0 := 67) (pc' := 71) rfl (hb hby at_67) (by decide) (by decide) ?_
            exact k
      obtain ⟨cl68, Ar68, q68, Sz68, Nn68, Hh68, Gg68⟩ := id V62
      have hin68 : ¬ ((2 : Int32) < 0 ∨ cl68.slots.size ≤ ((2 : Int32)).toNatClampNeg) := inb_of Sz68 ⟨by decide, by decide⟩
      obtain ⟨T69, h69, X69, e69, W69, st69⟩ := stZ X62 hx hZ e62 Ar68 (j := (2 : Int32)) hin68 (g := (mkF m 71 #[.val (.int p0), .val (.int p1), .val (.int p2), .val (.int (3 : Int32)), .val (.ref b48), .unset, .unset, .unset, .unset, .unset, .unset, .unset] [(.int (bI (¬ ((p1 &&& (4 : Int32)).toInt = 0)))), (.int (2 : Int32)), (.ref b48)])) rfl rfl (hb hby at_71)
      have V69 : Arv Z h69 b48 k48 .boolean (3 : Int32) [(.int (nar .boolean (bI (¬ ((p1 &&& (1 : Int32)).toInt = 0))))), (.int (nar .boolean (bI (¬ ((p1 &&& (2 : Int32)).toInt = 0))))), (.int (nar .boolean (bI (¬ ((p1 &&& (4 : Int32)).toInt = 0)))))] (.int (0 : Int32)) := Arv.set Ar68 q68 Sz68 Nn68 Hh68 Gg68 (fits_nar_bool _) W69 2 rfl (Nat.le_of_ble_eq_true rfl)
      have N69 := Fr.snoc X69 N62 g_b48
      have Z69 : n0 ≤ h69.size := Nat.le_trans Z62 (Keep.of_wr W69).1
      have K69 : Keep h0 h69 [] := K62.wr W69 (Or.inr sz_b48)
      have hc70 : ¬ ((3 : Int32) < (3 : Int32)) := by decide
      have hc71 : ¬ ((4 : Int32) < (3 : Int32)) := by decide
      have hc72 : ¬ ((5 : Int32) < (3 : Int32)) := by decide
      have hc73 : ¬ ((6 : Int32) < (3 : Int32)) := by decide
      obtain ⟨cl74, Ar74, -, Sz74, -, Hh74, -⟩ := V69
      refine ⟨b48, cl74, T69, _, h69, X69.more (by decide) (by decide), e69, N69, Z69, K69, ⟨Ar74, Sz74, fun j hj => by
        have q := Hh74 j (by rw [Sz74]; exact hj)
        have hj' : j < 3 := hj
        rcases (show j = 0 ∨ j = 1 ∨ j = 2 by omega) with rfl | rfl | rfl
        · exact q.trans (congrArg (fun z => some (Value.int z)) (own_nar (P := ¬ ((p1 &&& (1 : Int32)).toInt = 0))))
        · exact q.trans (congrArg (fun z => some (Value.int z)) (own_nar (P := ¬ ((p1 &&& (2 : Int32)).toInt = 0))))
        · exact q.trans (congrArg (fun z => some (Value.int z)) (own_nar (P := ¬ ((p1 &&& (4 : Int32)).toInt = 0))))⟩, fun t k => pre65 t ?_⟩
      show Steps p.tables e below (T62.setTop (mkF m 71 #[.val (.int p0), .val (.int p1), .val (.int p2), .val (.int (3 : Int32)), .val (.ref b48), .unset, .unset, .unset, .unset, .unset, .unset, .unset] [(.int (bI (¬ ((p1 &&& (4 : Int32)).toInt = 0)))), (.int (2 : Int32)), (.ref b48)])) _
      refine st69 _ ?_
      show Steps p.tables e below (T69.setTop (mkF m 72 #[.val (.int p0), .val (.int p1), .val (.int p2), .val (.int (3 : Int32)), .val (.ref b48), .unset, .unset, .unset, .unset, .unset, .unset, .unset] [])) _
      refine XS.iloadN X69.here hx rfl (hb hby at_72) rfl ?_
      show Steps p.tables e below (T69.setTop (mkF m 73 #[.val (.int p0), .val (.int p1), .val (.int p2), .val (.int (3 : Int32)), .val (.ref b48), .unset, .unset, .unset, .unset, .unset, .unset, .unset] [(.int (3 : Int32))])) _
      refine XS.iconst X69.here hx rfl (hb hby at_73) ?_
      show Steps p.tables e below (T69.setTop (mkF m 74 #[.val (.int p0), .val (.int p1), .val (.int p2), .val (.int (3 : Int32)), .val (.ref b48), .unset, .unset, .unset, .unset, .unset, .unset, .unset] [(.int (3 : Int32)), (.int (3 : Int32))])) _
      refine XS.icmpYes X69.here hx rfl (pc0 := 74) (pc' := 93) rfl (hb hby at_74) rfl (flt hc70).2.2.2 (by decide) (by decide) ?_
      show Steps p.tables e below (T69.setTop (mkF m 93 #[.val (.int p0), .val (.int p1), .val (.int p2), .val (.int (3 : Int32)), .val (.ref b48), .unset, .unset, .unset, .unset, .unset, .unset, .unset] [])) _
      refine XS.iloadN X69.here hx rfl (hb hby at_93) rfl ?_
      show Steps p.tables e below (T69.setTop (mkF m 94 #[.val (.int p0), .val (.int p1), .val (.int p2), .val (.int (3 : Int32)), .val (.ref b48), .unset, .unset, .unset, .unset, .unset, .unset, .unset] [(.int (3 : Int32))])) _
      refine XS.iconst X69.here hx rfl (hb hby at_94) ?_
      show Steps p.tables e below (T69.setTop (mkF m 95 #[.val (.int p0), .val (.int p1), .val (.int p2), .val (.int (3 : Int32)), .val (.ref b48), .unset, .unset, .unset, .unset, .unset, .unset, .unset] [(.int (4 : Int32)), (.int (3 : Int32))])) _
      refine XS.icmpYes X69.here hx rfl (pc0 := 95) (pc' := 114) rfl (hb hby at_95) rfl (flt hc71).2.2.2 (by decide) (by decide) ?_
      show Steps p.tables e below (T69.setTop (mkF m 114 #[.val (.int p0), .val (.int p1), .val (.int p2), .val (.int (3 : Int32)), .val (.ref b48), .unset, .unset, .unset, .unset, .unset, .unset, .unset] [])) _
      refine XS.iloadN X69.here hx rfl (hb hby at_114) rfl ?_
      show Steps p.tables e below (T69.setTop (mkF m 115 #[.val (.int p0), .val (.int p1), .val (.int p2), .val (.int (3 : Int32)), .val (.ref b48), .unset, .unset, .unset, .unset, .unset, .unset, .unset] [(.int (3 : Int32))])) _
      refine XS.iconst X69.here hx rfl (hb hby at_115) ?_
      show Steps p.tables e below (T69.setTop (mkF m 116 #[.val (.int p0), .val (.int p1), .val (.int p2), .val (.int (3 : Int32)), .val (.ref b48), .unset, .unset, .unset, .unset, .unset, .unset, .unset] [(.int (5 : Int32)), (.int (3 : Int32))])) _
      refine XS.icmpYes X69.here hx rfl (pc0 := 116) (pc' := 135) rfl (hb hby at_116) rfl (flt hc72).2.2.2 (by decide) (by decide) ?_
      show Steps p.tables e below (T69.setTop (mkF m 135 #[.val (.int p0), .val (.int p1), .val (.int p2), .val (.int (3 : Int32)), .val (.ref b48), .unset, .unset, .unset, .unset, .unset, .unset, .unset] [])) _
      refine XS.iloadN X69.here hx rfl (hb hby at_135) rfl ?_
      show Steps p.tables e below (T69.setTop (mkF m 136 #[.val (.int p0), .val (.int p1), .val (.int p2), .val (.int (3 : Int32)), .val (.ref b48), .unset, .unset, .unset, .unset, .unset, .unset, .unset] [(.int (3 : Int32))])) _
      refine XS.bipush X69.here hx rfl (hb hby at_136) ?_
      show Steps p.tables e below (T69.setTop (mkF m 138 #[.val (.int p0), .val (.int p1), .val (.int p2), .val (.int (3 : Int32)), .val (.ref b48), .unset, .unset, .unset, .unset, .unset, .unset, .unset] [(.int (6 : Int32)), (.int (3 : Int32))])) _
      refine XS.icmpYes X69.here hx rfl (pc0 := 138) (pc' := 158) rfl (hb hby at_138) rfl (flt hc73).2.2.2 (by decide) (by decide) ?_
      exact k
    · skip
      obtain rfl : ln = (4 : Int32) := own_eq.mpr hk_ln
      obtain ⟨T75, h75, k75, X75, e75, E75, A75, st75⟩ := newP X0 hx hZ (hw _ (List.mem_of_getElem? (i := 1) rfl)) e0 (g := (mkF m 9 #[.val (.int p0), .val (.int p1), .val (.int p2), .val (.int (4 : Int32)), .unset, .unset, .unset, .unset, .unset, .unset, .unset, .unset] [(.int (4 : Int32))])) rfl (hb hby at_9) rfl (by decide) (cap := 4) (by decide) (by decide) (by decide) (by decide)
      obtain ⟨b75, g75⟩ : ∃ z, z = h0.size := ⟨_, rfl⟩
      rw [← g75] at A75 st75
      have g_b75 : n0 ≤ b75 := Nat.le_trans Z0 (Nat.le_of_eq g75.symm)
      skip
      have Z75 : n0 ≤ h75.size := Nat.le_trans Z0 E75.1
      have K75 : Keep h0 h75 [] := KR.ext E75
      have sz_b75 : h0.size ≤ b75 := Nat.le_trans KR.1 (Nat.le_of_eq g75.symm)
      have V75 : Arv Z h75 b75 k75 .boolean (4 : Int32) [(.int (0 : Int32)), (.int (0 : Int32)), (.int (0 : Int32)), (.int (0 : Int32))] (.int (0 : Int32)) := (Arv.new A75 (by decide)).pad (pad_rep [] (.int (0 : Int32)) 4)
      have hc76 : (0 : Int32) < (4 : Int32) := by decide
      have pre77 : ∀ t, Steps p.tables e below (T75.setTop (mkF m 20 #[.val (.int p0), .val (.int p1), .val (.int p2), .val (.int (4 : Int32)), .val (.ref b75), .unset, .unset, .unset, .unset, .unset, .unset, .unset] [(.int (0 : Int32)), (.ref b75)])) t → Steps p.tables e below (s₁.setTop (mkF m 0 #[.val (.int p0), .val (.int p1), .val (.int p2), .unset, .unset, .unset, .unset, .unset, .unset, .unset, .unset, .unset] [])) t := fun t k => pre1 t (by
        show Steps p.tables e below (s₁.setTop (mkF m 8 #[.val (.int p0), .val (.int p1), .val (.int p2), .val (.int (4 : Int32)), .unset, .unset, .unset, .unset, .unset, .unset, .unset, .unset] [])) _
        refine XS.iloadN X0.here hx rfl (hb hby at_8) rfl ?_
        show Steps p.tables e below (s₁.setTop (mkF m 9 #[.val (.int p0), .val (.int p1), .val (.int p2), .val (.int (4 : Int32)), .unset, .unset, .unset, .unset, .unset, .unset, .unset, .unset] [(.int (4 : Int32))])) _
        refine st75 _ ?_
        show Steps p.tables e below (T75.setTop (mkF m 11 #[.val (.int p0), .val (.int p1), .val (.int p2), .val (.int (4 : Int32)), .unset, .unset, .unset, .unset, .unset, .unset, .unset, .unset] [(.ref b75)])) _
        refine XS.astore X75.here hx rfl (hb hby at_11) rfl rfl (l' := #[.val (.int p0), .val (.int p1), .val (.int p2), .val (.int (4 : Int32)), .val (.ref b75), .unset, .unset, .unset, .unset, .unset, .unset, .unset]) rfl ?_
        show Steps p.tables e below (T75.setTop (mkF m 13 #[.val (.int p0), .val (.int p1), .val (.int p2), .val (.int (4 : Int32)), .val (.ref b75), .unset, .unset, .unset, .unset, .unset, .unset, .unset] [])) _
        refine XS.iloadN X75.here hx rfl (hb hby at_13) rfl ?_
        show Steps p.tables e below (T75.setTop (mkF m 14 #[.val (.int p0), .val (.int p1), .val (.int p2), .val (.int (4 : Int32)), .val (.ref b75), .unset, .unset, .unset, .unset, .unset, .unset, .unset] [(.int (4 : Int32))])) _
        refine XS.ifNo X75.here hx rfl (hb hby at_14) rfl ((if0 _ _).trans (tlt hc76).2.2.2) ?_
        show Steps p.tables e below (T75.setTop (mkF m 17 #[.val (.int p0), .val (.int p1), .val (.int p2), .val (.int (4 : Int32)), .val (.ref b75), .unset, .unset, .unset, .unset, .unset, .unset, .unset] [])) _
        refine XS.aload X75.here hx rfl (hb hby at_17) rfl rfl ?_
        show Steps p.tables e below (T75.setTop (mkF m 19 #[.val (.int p0), .val (.int p1), .val (.int p2), .val (.int (4 : Int32)), .val (.ref b75), .unset, .unset, .unset, .unset, .unset, .unset, .unset] [(.ref b75)])) _
        refine XS.iconst X75.here hx rfl (hb hby at_19) ?_
        exact k)
      obtain ⟨v0, rfl, pre78⟩ : ∃ (v0 : Int32), (v0 = bI (¬ ((p1 &&& (1 : Int32)).toInt = 0))) ∧ ∀ t, Steps p.tables e below (T75.setTop (mkF m 31 #[.val (.int p0), .val (.int p1), .val (.int p2), .val (.int (4 : Int32)), .val (.ref b75), .unset, .unset, .unset, .unset, .unset, .unset, .unset] [(.int v0), (.int (0 : Int32)), (.ref b75)])) t → Steps p.tables e below (s₁.setTop (mkF m 0 #[.val (.int p0), .val (.int p1), .val (.int p2), .unset, .unset, .unset, .unset, .unset, .unset, .unset, .unset, .unset] [])) t := by
        have pre80 : ∀ t, Steps p.tables e below (T75.setTop (mkF m 23 #[.val (.int p0), .val (.int p1), .val (.int p2), .val (.int (4 : Int32)), .val (.ref b75), .unset, .unset, .unset, .unset, .unset, .unset, .unset] [(.int (p1 &&& (1 : Int32))), (.int (0 : Int32)), (.ref b75)])) t → Steps p.tables e below (s₁.setTop (mkF m 0 #[.val (.int p0), .val (.int p1), .val (.int p2), .unset, .unset, .unset, .unset, .unset, .unset, .unset, .unset, .unset] [])) t := fun t k => pre77 t (by
          show Steps p.tables e below (T75.setTop (mkF m 20 #[.val (.int p0), .val (.int p1), .val (.int p2), .val (.int (4 : Int32)), .val (.ref b75), .unset, .unset, .unset, .unset, .unset, .unset, .unset] [(.int (0 : Int32)), (.ref b75)])) _
          refine XS.iloadN X75.here hx rfl (hb hby at_20) rfl ?_
          show Steps p.tables e below (T75.setTop (mkF m 21 #[.val (.int p0), .val (.int p1), .val (.int p2), .val (.int (4 : Int32)), .val (.ref b75), .unset, .unset, .unset, .unset, .unset, .unset, .unset] [(.int p1), (.int (0 : Int32)), (.ref b75)])) _
          refine XS.iconst X75.here hx rfl (hb hby at_21) ?_
          show Steps p.tables e below (T75.setTop (mkF m 22 #[.val (.int p0), .val (.int p1), .val (.int p2), .val (.int (4 : Int32)), .val (.ref b75), .unset, .unset, .unset, .unset, .unset, .unset, .unset] [(.int (1 : Int32)), (.int p1), (.int (0 : Int32)), (.ref b75)])) _
          refine XS.iand X75.here hx rfl (hb hby at_22) rfl ?_
          exact k)
        by_cases hc79 : (p1 &&& (1 : Int32)) = (0 : Int32)
        · skip
          have ohc79 : (p1 &&& (1 : Int32)).toInt = 0 := own_eq.mp hc79
          refine ⟨(0 : Int32), ?_, fun t k => pre80 t ?_⟩
          · exact own_c0 (by omega)
          · skip
            show Steps p.tables e below (T75.setTop (mkF m 23 #[.val (.int p0), .val (.int p1), .val (.int p2), .val (.int (4 : Int32)), .val (.ref b75), .unset, .unset, .unset, .unset, .unset, .unset, .unset] [(.int (p1 &&& (1 : Int32))), (.int (0 : Int32)), (.ref b75)])) _
            refine XS.ifYes X75.here hx rfl (pc0 := 23) (pc' := 30) rfl (hb hby at_23) rfl ((if0 _ _).trans (teq hc79).1) (by decide) (by decide) ?_
            show Steps p.tables e below (T75.setTop (mkF m 30 #[.val (.int p0), .val (.int p1), .val (.int p2), .val (.int (4 : Int32)), .val (.ref b75), .unset, .unset, .unset, .unset, .unset, .unset, .unset] [(.int (0 : Int32)), (.ref b75)])) _
            refine XS.iconst X75.here hx rfl (hb hby at_30) ?_
            exact k
        · skip
          have ohc79 : ¬ ((p1 &&& (1 : Int32)).toInt = 0) := own_neq.mp hc79
          refine ⟨(1 : Int32), ?_, fun t k => pre80 t ?_⟩
          · exact own_c1 (by omega)
          · skip
            show Steps p.tables e below (T75.setTop (mkF m 23 #[.val (.int p0), .val (.int p1), .val (.int p2), .val (.int (4 : Int32)), .val (.ref b75), .unset, .unset, .unset, .unset, .unset, .unset, .unset] [(.int (p1 &&& (1 : Int32))), (.int (0 : Int32)), (.ref b75)])) _
            refine XS.ifNo X75.here hx rfl (hb hby at_23) rfl ((if0 _ _).trans (feq hc79).1) ?_
            show Steps p.tables e below (T75.setTop (mkF m 26 #[.val (.int p0), .val (.int p1), .val (.int p2), .val (.int (4 : Int32)), .val (.ref b75), .unset, .unset, .unset, .unset, .unset, .unset, .unset] [(.int (0 : Int32)), (.ref b75)])) _
            refine XS.iconst X75.here hx rfl (hb hby at_26) ?_
            show Steps p.tables e below (T75.setTop (mkF m 27 #[.val (.int p0), .val (.int p1), .val (.int p2), .val (.int (4 : Int32)), .val (.ref b75), .unset, .unset, .unset, .unset, .unset, .unset, .unset] [(.int (1 : Int32)), (.int (0 : Int32)), (.ref b75)])) _
            refine XS.goto X75.here hx rfl (pc0 := 27) (pc' := 31) rfl (hb hby at_27) (by decide) (by decide) ?_
            exact k
      obtain ⟨cl81, Ar81, q81, Sz81, Nn81, Hh81, Gg81⟩ := id V75
      have hin81 : ¬ ((0 : Int32) < 0 ∨ cl81.slots.size ≤ ((0 : Int32)).toNatClampNeg) := inb_of Sz81 ⟨by decide, by decide⟩
      obtain ⟨T82, h82, X82, e82, W82, st82⟩ := stZ X75 hx hZ e75 Ar81 (j := (0 : Int32)) hin81 (g := (mkF m 31 #[.val (.int p0), .val (.int p1), .val (.int p2), .val (.int (4 : Int32)), .val (.ref b75), .unset, .unset, .unset, .unset, .unset, .unset, .unset] [(.int (bI (¬ ((p1 &&& (1 : Int32)).toInt = 0)))), (.int (0 : Int32)), (.ref b75)])) rfl rfl (hb hby at_31)
      have V82 : Arv Z h82 b75 k75 .boolean (4 : Int32) [(.int (nar .boolean (bI (¬ ((p1 &&& (1 : Int32)).toInt = 0))))), (.int (0 : Int32)), (.int (0 : Int32)), (.int (0 : Int32))] (.int (0 : Int32)) := Arv.set Ar81 q81 Sz81 Nn81 Hh81 Gg81 (fits_nar_bool _) W82 0 rfl (Nat.le_of_ble_eq_true rfl)
      have N82 := Fr.snoc X82 N0 g_b75
      have Z82 : n0 ≤ h82.size := Nat.le_trans Z75 (Keep.of_wr W82).1
      have K82 : Keep h0 h82 [] := K75.wr W82 (Or.inr sz_b75)
      have hc83 : (1 : Int32) < (4 : Int32) := by decide
      have pre84 : ∀ t, Steps p.tables e below (T82.setTop (mkF m 40 #[.val (.int p0), .val (.int p1), .val (.int p2), .val (.int (4 : Int32)), .val (.ref b75), .unset, .unset, .unset, .unset, .unset, .unset, .unset] [(.int (1 : Int32)), (.ref b75)])) t → Steps p.tables e below (s₁.setTop (mkF m 0 #[.val (.int p0), .val (.int p1), .val (.int p2), .unset, .unset, .unset, .unset, .unset, .unset, .unset, .unset, .unset] [])) t := fun t k => pre78 t (by
        show Steps p.tables e below (T75.setTop (mkF m 31 #[.val (.int p0), .val (.int p1), .val (.int p2), .val (.int (4 : Int32)), .val (.ref b75), .unset, .unset, .unset, .unset, .unset, .unset, .unset] [(.int (bI (¬ ((p1 &&& (1 : Int32)).toInt = 0)))), (.int (0 : Int32)), (.ref b75)])) _
        refine st82 _ ?_
        show Steps p.tables e below (T82.setTop (mkF m 32 #[.val (.int p0), .val (.int p1), .val (.int p2), .val (.int (4 : Int32)), .val (.ref b75), .unset, .unset, .unset, .unset, .unset, .unset, .unset] [])) _
        refine XS.iloadN X82.here hx rfl (hb hby at_32) rfl ?_
        show Steps p.tables e below (T82.setTop (mkF m 33 #[.val (.int p0), .val (.int p1), .val (.int p2), .val (.int (4 : Int32)), .val (.ref b75), .unset, .unset, .unset, .unset, .unset, .unset, .unset] [(.int (4 : Int32))])) _
        refine XS.iconst X82.here hx rfl (hb hby at_33) ?_
        show Steps p.tables e below (T82.setTop (mkF m 34 #[.val (.int p0), .val (.int p1), .val (.int p2), .val (.int (4 : Int32)), .val (.ref b75), .unset, .unset, .unset, .unset, .unset, .unset, .unset] [(.int (1 : Int32)), (.int (4 : Int32))])) _
        refine XS.icmpNo X82.here hx rfl (hb hby at_34) rfl (tlt hc83).2.2.2 ?_
        show Steps p.tables e below (T82.setTop (mkF m 37 #[.val (.int p0), .val (.int p1), .val (.int p2), .val (.int (4 : Int32)), .val (.ref b75), .unset, .unset, .unset, .unset, .unset, .unset, .unset] [])) _
        refine XS.aload X82.here hx rfl (hb hby at_37) rfl rfl ?_
        show Steps p.tables e below (T82.setTop (mkF m 39 #[.val (.int p0), .val (.int p1), .val (.int p2), .val (.int (4 : Int32)), .val (.ref b75), .unset, .unset, .unset, .unset, .unset, .unset, .unset] [(.ref b75)])) _
        refine XS.iconst X82.here hx rfl (hb hby at_39) ?_
        exact k)
      obtain ⟨v1, rfl, pre85⟩ : ∃ (v1 : Int32), (v1 = bI (¬ ((p1 &&& (2 : Int32)).toInt = 0))) ∧ ∀ t, Steps p.tables e below (T82.setTop (mkF m 51 #[.val (.int p0), .val (.int p1), .val (.int p2), .val (.int (4 : Int32)), .val (.ref b75), .unset, .unset, .unset, .unset, .unset, .unset, .unset] [(.int v1), (.int (1 : Int32)), (.ref b75)])) t → Steps p.tables e below (s₁.setTop (mkF m 0 #[.val (.int p0), .val (.int p1), .val (.int p2), .unset, .unset, .unset, .unset, .unset, .unset, .unset, .unset, .unset] [])) t := by
        have pre87 : ∀ t, Steps p.tables e below (T82.setTop (mkF m 43 #[.val (.int p0), .val (.int p1), .val (.int p2), .val (.int (4 : Int32)), .val (.ref b75), .unset, .unset, .unset, .unset, .unset, .unset, .unset] [(.int (p1 &&& (2 : Int32))), (.int (1 : Int32)), (.ref b75)])) t → Steps p.tables e below (s₁.setTop (mkF m 0 #[.val (.int p0), .val (.int p1), .val (.int p2), .unset, .unset, .unset, .unset, .unset, .unset, .unset, .unset, .unset] [])) t := fun t k => pre84 t (by
          show Steps p.tables e below (T82.setTop (mkF m 40 #[.val (.int p0), .val (.int p1), .val (.int p2), .val (.int (4 : Int32)), .val (.ref b75), .unset, .unset, .unset, .unset, .unset, .unset, .unset] [(.int (1 : Int32)), (.ref b75)])) _
          refine XS.iloadN X82.here hx rfl (hb hby at_40) rfl ?_
          show Steps p.tables e below (T82.setTop (mkF m 41 #[.val (.int p0), .val (.int p1), .val (.int p2), .val (.int (4 : Int32)), .val (.ref b75), .unset, .unset, .unset, .unset, .unset, .unset, .unset] [(.int p1), (.int (1 : Int32)), (.ref b75)])) _
          refine XS.iconst X82.here hx rfl (hb hby at_41) ?_
          show Steps p.tables e below (T82.setTop (mkF m 42 #[.val (.int p0), .val (.int p1), .val (.int p2), .val (.int (4 : Int32)), .val (.ref b75), .unset, .unset, .unset, .unset, .unset, .unset, .unset] [(.int (2 : Int32)), (.int p1), (.int (1 : Int32)), (.ref b75)])) _
          refine XS.iand X82.here hx rfl (hb hby at_42) rfl ?_
          exact k)
        by_cases hc86 : (p1 &&& (2 : Int32)) = (0 : Int32)
        · skip
          have ohc86 : (p1 &&& (2 : Int32)).toInt = 0 := own_eq.mp hc86
          refine ⟨(0 : Int32), ?_, fun t k => pre87 t ?_⟩
          · exact own_c0 (by omega)
          · skip
            show Steps p.tables e below (T82.setTop (mkF m 43 #[.val (.int p0), .val (.int p1), .val (.int p2), .val (.int (4 : Int32)), .val (.ref b75), .unset, .unset, .unset, .unset, .unset, .unset, .unset] [(.int (p1 &&& (2 : Int32))), (.int (1 : Int32)), (.ref b75)])) _
            refine XS.ifYes X82.here hx rfl (pc0 := 43) (pc' := 50) rfl (hb hby at_43) rfl ((if0 _ _).trans (teq hc86).1) (by decide) (by decide) ?_
            show Steps p.tables e below (T82.setTop (mkF m 50 #[.val (.int p0), .val (.int p1), .val (.int p2), .val (.int (4 : Int32)), .val (.ref b75), .unset, .unset, .unset, .unset, .unset, .unset, .unset] [(.int (1 : Int32)), (.ref b75)])) _
            refine XS.iconst X82.here hx rfl (hb hby at_50) ?_
            exact k
        · skip
          have ohc86 : ¬ ((p1 &&& (2 : Int32)).toInt = 0) := own_neq.mp hc86
          refine ⟨(1 : Int32), ?_, fun t k => pre87 t ?_⟩
          · exact own_c1 (by omega)
          · skip
            show Steps p.tables e below (T82.setTop (mkF m 43 #[.val (.int p0), .val (.int p1), .val (.int p2), .val (.int (4 : Int32)), .val (.ref b75), .unset, .unset, .unset, .unset, .unset, .unset, .unset] [(.int (p1 &&& (2 : Int32))), (.int (1 : Int32)), (.ref b75)])) _
            refine XS.ifNo X82.here hx rfl (hb hby at_43) rfl ((if0 _ _).trans (feq hc86).1) ?_
            show Steps p.tables e below (T82.setTop (mkF m 46 #[.val (.int p0), .val (.int p1), .val (.int p2), .val (.int (4 : Int32)), .val (.ref b75), .unset, .unset, .unset, .unset, .unset, .unset, .unset] [(.int (1 : Int32)), (.ref b75)])) _
            refine XS.iconst X82.here hx rfl (hb hby at_46) ?_
            show Steps p.tables e below (T82.setTop (mkF m 47 #[.val (.int p0), .val (.int p1), .val (.int p2), .val (.int (4 : Int32)), .val (.ref b75), .unset, .unset, .unset, .unset, .unset, .unset, .unset] [(.int (1 : Int32)), (.int (1 : Int32)), (.ref b75)])) _
            refine XS.goto X82.here hx rfl (pc0 := 47) (pc' := 51) rfl (hb hby at_47) (by decide) (by decide) ?_
            exact k
      obtain ⟨cl88, Ar88, q88, Sz88, Nn88, Hh88, Gg88⟩ := id V82
      have hin88 : ¬ ((1 : Int32) < 0 ∨ cl88.slots.size ≤ ((1 : Int32)).toNatClampNeg) := inb_of Sz88 ⟨by decide, by decide⟩
      obtain ⟨T89, h89, X89, e89, W89, st89⟩ := stZ X82 hx hZ e82 Ar88 (j := (1 : Int32)) hin88 (g := (mkF m 51 #[.val (.int p0), .val (.int p1), .val (.int p2), .val (.int (4 : Int32)), .val (.ref b75), .unset, .unset, .unset, .unset, .unset, .unset, .unset] [(.int (bI (¬ ((p1 &&& (2 : Int32)).toInt = 0)))), (.int (1 : Int32)), (.ref b75)])) rfl rfl (hb hby at_51)
      have V89 : Arv Z h89 b75 k75 .boolean (4 : Int32) [(.int (nar .boolean (bI (¬ ((p1 &&& (1 : Int32)).toInt = 0))))), (.int (nar .boolean (bI (¬ ((p1 &&& (2 : Int32)).toInt = 0))))), (.int (0 : Int32)), (.int (0 : Int32))] (.int (0 : Int32)) := Arv.set Ar88 q88 Sz88 Nn88 Hh88 Gg88 (fits_nar_bool _) W89 1 rfl (Nat.le_of_ble_eq_true rfl)
      have N89 := Fr.snoc X89 N82 g_b75
      have Z89 : n0 ≤ h89.size := Nat.le_trans Z82 (Keep.of_wr W89).1
      have K89 : Keep h0 h89 [] := K82.wr W89 (Or.inr sz_b75)
      have hc90 : (2 : Int32) < (4 : Int32) := by decide
      have pre91 : ∀ t, Steps p.tables e below (T89.setTop (mkF m 60 #[.val (.int p0), .val (.int p1), .val (.int p2), .val (.int (4 : Int32)), .val (.ref b75), .unset, .unset, .unset, .unset, .unset, .unset, .unset] [(.int (2 : Int32)), (.ref b75)])) t → Steps p.tables e below (s₁.setTop (mkF m 0 #[.val (.int p0), .val (.int p1), .val (.int p2), .unset, .unset, .unset, .unset, .unset, .unset, .unset, .unset, .unset] [])) t := fun t k => pre85 t (by
        show Steps p.tables e below (T82.setTop (mkF m 51 #[.val (.int p0), .val (.int p1), .val (.int p2), .val (.int (4 : Int32)), .val (.ref b75), .unset, .unset, .unset, .unset, .unset, .unset, .unset] [(.int (bI (¬ ((p1 &&& (2 : Int32)).toInt = 0)))), (.int (1 : Int32)), (.ref b75)])) _
        refine st89 _ ?_
        show Steps p.tables e below (T89.setTop (mkF m 52 #[.val (.int p0), .val (.int p1), .val (.int p2), .val (.int (4 : Int32)), .val (.ref b75), .unset, .unset, .unset, .unset, .unset, .unset, .unset] [])) _
        refine XS.iloadN X89.here hx rfl (hb hby at_52) rfl ?_
        show Steps p.tables e below (T89.setTop (mkF m 53 #[.val (.int p0), .val (.int p1), .val (.int p2), .val (.int (4 : Int32)), .val (.ref b75), .unset, .unset, .unset, .unset, .unset, .unset, .unset] [(.int (4 : Int32))])) _
        refine XS.iconst X89.here hx rfl (hb hby at_53) ?_
        show Steps p.tables e below (T89.setTop (mkF m 54 #[.val (.int p0), .val (.int p1), .val (.int p2), .val (.int (4 : Int32)), .val (.ref b75), .unset, .unset, .unset, .unset, .unset, .unset, .unset] [(.int (2 : Int32)), (.int (4 : Int32))])) _
        refine XS.icmpNo X89.here hx rfl (hb hby at_54) rfl (tlt hc90).2.2.2 ?_
        show Steps p.tables e below (T89.setTop (mkF m 57 #[.val (.int p0), .val (.int p1), .val (.int p2), .val (.int (4 : Int32)), .val (.ref b75), .unset, .unset, .unset, .unset, .unset, .unset, .unset] [])) _
        refine XS.aload X89.here hx rfl (hb hby at_57) rfl rfl ?_
        show Steps p.tables e below (T89.setTop (mkF m 59 #[.val (.int p0), .val (.int p1), .val (.int p2), .val (.int (4 : Int32)), .val (.ref b75), .unset, .unset, .unset, .unset, .unset, .unset, .unset] [(.ref b75)])) _
        refine XS.iconst X89.here hx rfl (hb hby at_59) ?_
        exact k)
      obtain ⟨v2, rfl, pre92⟩ : ∃ (v2 : Int32), (v2 = bI (¬ ((p1 &&& (4 : Int32)).toInt = 0))) ∧ ∀ t, Steps p.tables e below (T89.setTop (mkF m 71 #[.val (.int p0), .val (.int p1), .val (.int p2), .val (.int (4 : Int32)), .val (.ref b75), .unset, .unset, .unset, .unset, .unset, .unset, .unset] [(.int v2), (.int (2 : Int32)), (.ref b75)])) t → Steps p.tables e below (s₁.setTop (mkF m 0 #[.val (.int p0), .val (.int p1), .val (.int p2), .unset, .unset, .unset, .unset, .unset, .unset, .unset, .unset, .unset] [])) t := by
        have pre94 : ∀ t, Steps p.tables e below (T89.setTop (mkF m 63 #[.val (.int p0), .val (.int p1), .val (.int p2), .val (.int (4 : Int32)), .val (.ref b75), .unset, .unset, .unset, .unset, .unset, .unset, .unset] [(.int (p1 &&& (4 : Int32))), (.int (2 : Int32)), (.ref b75)])) t → Steps p.tables e below (s₁.setTop (mkF m 0 #[.val (.int p0), .val (.int p1), .val (.int p2), .unset, .unset, .unset, .unset, .unset, .unset, .unset, .unset, .unset] [])) t := fun t k => pre91 t (by
          show Steps p.tables e below (T89.setTop (mkF m 60 #[.val (.int p0), .val (.int p1), .val (.int p2), .val (.int (4 : Int32)), .val (.ref b75), .unset, .unset, .unset, .unset, .unset, .unset, .unset] [(.int (2 : Int32)), (.ref b75)])) _
          refine XS.iloadN X89.here hx rfl (hb hby at_60) rfl ?_
          show Steps p.tables e below (T89.setTop (mkF m 61 #[.val (.int p0), .val (.int p1), .val (.int p2), .val (.int (4 : Int32)), .val (.ref b75), .unset, .unset, .unset, .unset, .unset, .unset, .unset] [(.int p1), (.int (2 : Int32)), (.ref b75)])) _
          refine XS.iconst X89.here hx rfl (hb hby at_61) ?_
          show Steps p.tables e below (T89.setTop (mkF m 62 #[.val (.int p0), .val (.int p1), .val (.int p2), .val (.int (4 : Int32)), .val (.ref b75), .unset, .unset, .unset, .unset, .unset, .unset, .unset] [(.int (4 : Int32)), (.int p1), (.int (2 : Int32)), (.ref b75)])) _
          refine XS.iand X89.here hx rfl (hb hby at_62) rfl ?_
          exact k)
        by_cases hc93 : (p1 &&& (4 : Int32)) = (0 : Int32)
        · skip
          have ohc93 : (p1 &&& (4 : Int32)).toInt = 0 := own_eq.mp hc93
          refine ⟨(0 : Int32), ?_, fun t k => pre94 t ?_⟩
          · exact own_c0 (by omega)
          · skip
            show Steps p.tables e below (T89.setTop (mkF m 63 #[.val (.int p0), .val (.int p1), .val (.int p2), .val (.int (4 : Int32)), .val (.ref b75), .unset, .unset, .unset, .unset, .unset, .unset, .unset] [(.int (p1 &&& (4 : Int32))), (.int (2 : Int32)), (.ref b75)])) _
            refine XS.ifYes X89.here hx rfl (pc0 := 63) (pc' := 70) rfl (hb hby at_63) rfl ((if0 _ _).trans (teq hc93).1) (by decide) (by decide) ?_
            show Steps p.tables e below (T89.setTop (mkF m 70 #[.val (.int p0), .val (.int p1), .val (.int p2), .val (.int (4 : Int32)), .val (.ref b75), .unset, .unset, .unset, .unset, .unset, .unset, .unset] [(.int (2 : Int32)), (.ref b75)])) _
            refine XS.iconst X89.here hx rfl (hb hby at_70) ?_
            exact k
        · skip
          have ohc93 : ¬ ((p1 &&& (4 : Int32)).toInt = 0) := own_neq.mp hc93
          refine ⟨(1 : Int32), ?_, fun t k => pre94 t ?_⟩
          · exact own_c1 (by omega)
          · skip
            show Steps p.tables e below (T89.setTop (mkF m 63 #[.val (.int p0), .val (.int p1), .val (.int p2), .val (.int (4 : Int32)), .val (.ref b75), .unset, .unset, .unset, .unset, .unset, .unset, .unset] [(.int (p1 &&& (4 : Int32))), (.int (2 : Int32)), (.ref b75)])) _
            refine XS.ifNo X89.here hx rfl (hb hby at_63) rfl ((if0 _ _).trans (feq hc93).1) ?_
            show Steps p.tables e below (T89.setTop (mkF m 66 #[.val (.int p0), .val (.int p1), .val (.int p2), .val (.int (4 : Int32)), .val (.ref b75), .unset, .unset, .unset, .unset, .unset, .unset, .unset] [(.int (2 : Int32)), (.ref b75)])) _
            refine XS.iconst X89.here hx rfl (hb hby at_66) ?_
            show Steps p.tables e below (T89.setTop (mkF m 67 #[.val (.int p0), .val (.int p1), .val (.int p2), .val (.int (4 : Int32)), .val (.ref b75), .unset, .unset, .unset, .unset, .unset, .unset, .unset] [(.int (1 : Int32)), (.int (2 : Int32)), (.ref b75)])) _
            refine XS.goto X89.here hx rfl (pc0 := 67) (pc' := 71) rfl (hb hby at_67) (by decide) (by decide) ?_
            exact k
      obtain ⟨cl95, Ar95, q95, Sz95, Nn95, Hh95, Gg95⟩ := id V89
      have hin95 : ¬ ((2 : Int32) < 0 ∨ cl95.slots.size ≤ ((2 : Int32)).toNatClampNeg) := inb_of Sz95 ⟨by decide, by decide⟩
      obtain ⟨T96, h96, X96, e96, W96, st96⟩ := stZ X89 hx hZ e89 Ar95 (j := (2 : Int32)) hin95 (g := (mkF m 71 #[.val (.int p0), .val (.int p1), .val (.int p2), .val (.int (4 : Int32)), .val (.ref b75), .unset, .unset, .unset, .unset, .unset, .unset, .unset] [(.int (bI (¬ ((p1 &&& (4 : Int32)).toInt = 0)))), (.int (2 : Int32)), (.ref b75)])) rfl rfl (hb hby at_71)
      have V96 : Arv Z h96 b75 k75 .boolean (4 : Int32) [(.int (nar .boolean (bI (¬ ((p1 &&& (1 : Int32)).toInt = 0))))), (.int (nar .boolean (bI (¬ ((p1 &&& (2 : Int32)).toInt = 0))))), (.int (nar .boolean (bI (¬ ((p1 &&& (4 : Int32)).toInt = 0))))), (.int (0 : Int32))] (.int (0 : Int32)) := Arv.set Ar95 q95 Sz95 Nn95 Hh95 Gg95 (fits_nar_bool _) W96 2 rfl (Nat.le_of_ble_eq_true rfl)
      have N96 := Fr.snoc X96 N89 g_b75
      have Z96 : n0 ≤ h96.size := Nat.le_trans Z89 (Keep.of_wr W96).1
      have K96 : Keep h0 h96 [] := K89.wr W96 (Or.inr sz_b75)
      have hc97 : (3 : Int32) < (4 : Int32) := by decide
      have pre98 : ∀ t, Steps p.tables e below (T96.setTop (mkF m 80 #[.val (.int p0), .val (.int p1), .val (.int p2), .val (.int (4 : Int32)), .val (.ref b75), .unset, .unset, .unset, .unset, .unset, .unset, .unset] [(.int (3 : Int32)), (.ref b75)])) t → Steps p.tables e below (s₁.setTop (mkF m 0 #[.val (.int p0), .val (.int p1), .val (.int p2), .unset, .unset, .unset, .unset, .unset, .unset, .unset, .unset, .unset] [])) t := fun t k => pre92 t (by
        show Steps p.tables e below (T89.setTop (mkF m 71 #[.val (.int p0), .val (.int p1), .val (.int p2), .val (.int (4 : Int32)), .val (.ref b75), .unset, .unset, .unset, .unset, .unset, .unset, .unset] [(.int (bI (¬ ((p1 &&& (4 : Int32)).toInt = 0)))), (.int (2 : Int32)), (.ref b75)])) _
        refine st96 _ ?_
        show Steps p.tables e below (T96.setTop (mkF m 72 #[.val (.int p0), .val (.int p1), .val (.int p2), .val (.int (4 : Int32)), .val (.ref b75), .unset, .unset, .unset, .unset, .unset, .unset, .unset] [])) _
        refine XS.iloadN X96.here hx rfl (hb hby at_72) rfl ?_
        show Steps p.tables e below (T96.setTop (mkF m 73 #[.val (.int p0), .val (.int p1), .val (.int p2), .val (.int (4 : Int32)), .val (.ref b75), .unset, .unset, .unset, .unset, .unset, .unset, .unset] [(.int (4 : Int32))])) _
        refine XS.iconst X96.here hx rfl (hb hby at_73) ?_
        show Steps p.tables e below (T96.setTop (mkF m 74 #[.val (.int p0), .val (.int p1), .val (.int p2), .val (.int (4 : Int32)), .val (.ref b75), .unset, .unset, .unset, .unset, .unset, .unset, .unset] [(.int (3 : Int32)), (.int (4 : Int32))])) _
        refine XS.icmpNo X96.here hx rfl (hb hby at_74) rfl (tlt hc97).2.2.2 ?_
        show Steps p.tables e below (T96.setTop (mkF m 77 #[.val (.int p0), .val (.int p1), .val (.int p2), .val (.int (4 : Int32)), .val (.ref b75), .unset, .unset, .unset, .unset, .unset, .unset, .unset] [])) _
        refine XS.aload X96.here hx rfl (hb hby at_77) rfl rfl ?_
        show Steps p.tables e below (T96.setTop (mkF m 79 #[.val (.int p0), .val (.int p1), .val (.int p2), .val (.int (4 : Int32)), .val (.ref b75), .unset, .unset, .unset, .unset, .unset, .unset, .unset] [(.ref b75)])) _
        refine XS.iconst X96.here hx rfl (hb hby at_79) ?_
        exact k)
      obtain ⟨v3, rfl, pre99⟩ : ∃ (v3 : Int32), (v3 = bI (¬ ((p1 &&& (8 : Int32)).toInt = 0))) ∧ ∀ t, Steps p.tables e below (T96.setTop (mkF m 92 #[.val (.int p0), .val (.int p1), .val (.int p2), .val (.int (4 : Int32)), .val (.ref b75), .unset, .unset, .unset, .unset, .unset, .unset, .unset] [(.int v3), (.int (3 : Int32)), (.ref b75)])) t → Steps p.tables e below (s₁.setTop (mkF m 0 #[.val (.int p0), .val (.int p1), .val (.int p2), .unset, .unset, .unset, .unset, .unset, .unset, .unset, .unset, .unset] [])) t := by
        have pre101 : ∀ t, Steps p.tables e below (T96.setTop (mkF m 84 #[.val (.int p0), .val (.int p1), .val (.int p2), .val (.int (4 : Int32)), .val (.ref b75), .unset, .unset, .unset, .unset, .unset, .unset, .unset] [(.int (p1 &&& (8 : Int32))), (.int (3 : Int32)), (.ref b75)])) t → Steps p.tables e below (s₁.setTop (mkF m 0 #[.val (.int p0), .val (.int p1), .val (.int p2), .unset, .unset, .unset, .unset, .unset, .unset, .unset, .unset, .unset] [])) t := fun t k => pre98 t (by
          show Steps p.tables e below (T96.setTop (mkF m 80 #[.val (.int p0), .val (.int p1), .val (.int p2), .val (.int (4 : Int32)), .val (.ref b75), .unset, .unset, .unset, .unset, .unset, .unset, .unset] [(.int (3 : Int32)), (.ref b75)])) _
          refine XS.iloadN X96.here hx rfl (hb hby at_80) rfl ?_
          show Steps p.tables e below (T96.setTop (mkF m 81 #[.val (.int p0), .val (.int p1), .val (.int p2), .val (.int (4 : Int32)), .val (.ref b75), .unset, .unset, .unset, .unset, .unset, .unset, .unset] [(.int p1), (.int (3 : Int32)), (.ref b75)])) _
          refine XS.bipush X96.here hx rfl (hb hby at_81) ?_
          show Steps p.tables e below (T96.setTop (mkF m 83 #[.val (.int p0), .val (.int p1), .val (.int p2), .val (.int (4 : Int32)), .val (.ref b75), .unset, .unset, .unset, .unset, .unset, .unset, .unset] [(.int (8 : Int32)), (.int p1), (.int (3 : Int32)), (.ref b75)])) _
          refine XS.iand X96.here hx rfl (hb hby at_83) rfl ?_
          exact k)
        by_cases hc100 : (p1 &&& (8 : Int32)) = (0 : Int32)
        · skip
          have ohc100 : (p1 &&& (8 : Int32)).toInt = 0 := own_eq.mp hc100
          refine ⟨(0 : Int32), ?_, fun t k => pre101 t ?_⟩
          · exact own_c0 (by omega)
          · skip
            show Steps p.tables e below (T96.setTop (mkF m 84 #[.val (.int p0), .val (.int p1), .val (.int p2), .val (.int (4 : Int32)), .val (.ref b75), .unset, .unset, .unset, .unset, .unset, .unset, .unset] [(.int (p1 &&& (8 : Int32))), (.int (3 : Int32)), (.ref b75)])) _
            refine XS.ifYes X96.here hx rfl (pc0 := 84) (pc' := 91) rfl (hb hby at_84) rfl ((if0 _ _).trans (teq hc100).1) (by decide) (by decide) ?_
            show Steps p.tables e below (T96.setTop (mkF m 91 #[.val (.int p0), .val (.int p1), .val (.int p2), .val (.int (4 : Int32)), .val (.ref b75), .unset, .unset, .unset, .unset, .unset, .unset, .unset] [(.int (3 : Int32)), (.ref b75)])) _
            refine XS.iconst X96.here hx rfl (hb hby at_91) ?_
            exact k
        · skip
          have ohc100 : ¬ ((p1 &&& (8 : Int32)).toInt = 0) := own_neq.mp hc100
          refine ⟨(1 : Int32), ?_, fun t k => pre101 t ?_⟩
          · exact own_c1 (by omega)
          · skip
            show Steps p.tables e below (T96.setTop (mkF m 84 #[.val (.int p0), .val (.int p1), .val (.int p2), .val (.int (4 : Int32)), .val (.ref b75), .unset, .unset, .unset, .unset, .unset, .unset, .unset] [(.int (p1 &&& (8 : Int32))), (.int (3 : Int32)), (.ref b75)])) _
            refine XS.ifNo X96.here hx rfl (hb hby at_84) rfl ((if0 _ _).trans (feq hc100).1) ?_
            show Steps p.tables e below (T96.setTop (mkF m 87 #[.val (.int p0), .val (.int p1), .val (.int p2), .val (.int (4 : Int32)), .val (.ref b75), .unset, .unset, .unset, .unset, .unset, .unset, .unset] [(.int (3 : Int32)), (.ref b75)])) _
            refine XS.iconst X96.here hx rfl (hb hby at_87) ?_
            show Steps p.tables e below (T96.setTop (mkF m 88 #[.val (.int p0), .val (.int p1), .val (.int p2), .val (.int (4 : Int32)), .val (.ref b75), .unset, .unset, .unset, .unset, .unset, .unset, .unset] [(.int (1 : Int32)), (.int (3 : Int32)), (.ref b75)])) _
            refine XS.goto X96.here hx rfl (pc0 := 88) (pc' := 92) rfl (hb hby at_88) (by decide) (by decide) ?_
            exact k
      obtain ⟨cl102, Ar102, q102, Sz102, Nn102, Hh102, Gg102⟩ := id V96
      have hin102 : ¬ ((3 : Int32) < 0 ∨ cl102.slots.size ≤ ((3 : Int32)).toNatClampNeg) := inb_of Sz102 ⟨by decide, by decide⟩
      obtain ⟨T103, h103, X103, e103, W103, st103⟩ := stZ X96 hx hZ e96 Ar102 (j := (3 : Int32)) hin102 (g := (mkF m 92 #[.val (.int p0), .val (.int p1), .val (.int p2), .val (.int (4 : Int32)), .val (.ref b75), .unset, .unset, .unset, .unset, .unset, .unset, .unset] [(.int (bI (¬ ((p1 &&& (8 : Int32)).toInt = 0)))), (.int (3 : Int32)), (.ref b75)])) rfl rfl (hb hby at_92)
      have V103 : Arv Z h103 b75 k75 .boolean (4 : Int32) [(.int (nar .boolean (bI (¬ ((p1 &&& (1 : Int32)).toInt = 0))))), (.int (nar .boolean (bI (¬ ((p1 &&& (2 : Int32)).toInt = 0))))), (.int (nar .boolean (bI (¬ ((p1 &&& (4 : Int32)).toInt = 0))))), (.int (nar .boolean (bI (¬ ((p1 &&& (8 : Int32)).toInt = 0)))))] (.int (0 : Int32)) := Arv.set Ar102 q102 Sz102 Nn102 Hh102 Gg102 (fits_nar_bool _) W103 3 rfl (Nat.le_of_ble_eq_true rfl)
      have N103 := Fr.snoc X103 N96 g_b75
      have Z103 : n0 ≤ h103.size := Nat.le_trans Z96 (Keep.of_wr W103).1
      have K103 : Keep h0 h103 [] := K96.wr W103 (Or.inr sz_b75)
      have hc104 : ¬ ((4 : Int32) < (4 : Int32)) := by decide
      have hc105 : ¬ ((5 : Int32) < (4 : Int32)) := by decide
      have hc106 : ¬ ((6 : Int32) < (4 : Int32)) := by decide
      obtain ⟨cl107, Ar107, -, Sz107, -, Hh107, -⟩ := V103
      refine ⟨b75, cl107, T103, _, h103, X103.more (by decide) (by decide), e103, N103, Z103, K103, ⟨Ar107, Sz107, fun j hj => by
        have q := Hh107 j (by rw [Sz107]; exact hj)
        have hj' : j < 4 := hj
        rcases (show j = 0 ∨ j = 1 ∨ j = 2 ∨ j = 3 by omega) with rfl | rfl | rfl | rfl
        · exact q.trans (congrArg (fun z => some (Value.int z)) (own_nar (P := ¬ ((p1 &&& (1 : Int32)).toInt = 0))))
        · exact q.trans (congrArg (fun z => some (Value.int z)) (own_nar (P := ¬ ((p1 &&& (2 : Int32)).toInt = 0))))
        · exact q.trans (congrArg (fun z => some (Value.int z)) (own_nar (P := ¬ ((p1 &&& (4 : Int32)).toInt = 0))))
        · exact q.trans (congrArg (fun z => some (Value.int z)) (own_nar (P := ¬ ((p1 &&& (8 : Int32)).toInt = 0))))⟩, fun t k => pre99 t ?_⟩
      show Steps p.tables e below (T96.setTop (mkF m 92 #[.val (.int p0), .val (.int p1), .val (.int p2), .val (.int (4 : Int32)), .val (.ref b75), .unset, .unset, .unset, .unset, .unset, .unset, .unset] [(.int (bI (¬ ((p1 &&& (8 : Int32)).toInt = 0)))), (.int (3 : Int32)), (.ref b75)])) _
      refine st103 _ ?_
      show Steps p.tables e below (T103.setTop (mkF m 93 #[.val (.int p0), .val (.int p1), .val (.int p2), .val (.int (4 : Int32)), .val (.ref b75), .unset, .unset, .unset, .unset, .unset, .unset, .unset] [])) _
      refine XS.iloadN X103.here hx rfl (hb hby at_93) rfl ?_
      show Steps p.tables e below (T103.setTop (mkF m 94 #[.val (.int p0), .val (.int p1), .val (.int p2), .val (.int (4 : Int32)), .val (.ref b75), .unset, .unset, .unset, .unset, .unset, .unset, .unset] [(.int (4 : Int32))])) _
      refine XS.iconst X103.here hx rfl (hb hby at_94) ?_
      show Steps p.tables e below (T103.setTop (mkF m 95 #[.val (.int p0), .val (.int p1), .val (.int p2), .val (.int (4 : Int32)), .val (.ref b75), .unset, .unset, .unset, .unset, .unset, .unset, .unset] [(.int (4 : Int32)), (.int (4 : Int32))])) _
      refine XS.icmpYes X103.here hx rfl (pc0 := 95) (pc' := 114) rfl (hb hby at_95) rfl (flt hc104).2.2.2 (by decide) (by decide) ?_
      show Steps p.tables e below (T103.setTop (mkF m 114 #[.val (.int p0), .val (.int p1), .val (.int p2), .val (.int (4 : Int32)), .val (.ref b75), .unset, .unset, .unset, .unset, .unset, .unset, .unset] [])) _
      refine XS.iloadN X103.here hx rfl (hb hby at_114) rfl ?_
      show Steps p.tables e below (T103.setTop (mkF m 115 #[.val (.int p0), .val (.int p1), .val (.int p2), .val (.int (4 : Int32)), .val (.ref b75), .unset, .unset, .unset, .unset, .unset, .unset, .unset] [(.int (4 : Int32))])) _
      refine XS.iconst X103.here hx rfl (hb hby at_115) ?_
      show Steps p.tables e below (T103.setTop (mkF m 116 #[.val (.int p0), .val (.int p1), .val (.int p2), .val (.int (4 : Int32)), .val (.ref b75), .unset, .unset, .unset, .unset, .unset, .unset, .unset] [(.int (5 : Int32)), (.int (4 : Int32))])) _
      refine XS.icmpYes X103.here hx rfl (pc0 := 116) (pc' := 135) rfl (hb hby at_116) rfl (flt hc105).2.2.2 (by decide) (by decide) ?_
      show Steps p.tables e below (T103.setTop (mkF m 135 #[.val (.int p0), .val (.int p1), .val (.int p2), .val (.int (4 : Int32)), .val (.ref b75), .unset, .unset, .unset, .unset, .unset, .unset, .unset] [])) _
      refine XS.iloadN X103.here hx rfl (hb hby at_135) rfl ?_
      show Steps p.tables e below (T103.setTop (mkF m 136 #[.val (.int p0), .val (.int p1), .val (.int p2), .val (.int (4 : Int32)), .val (.ref b75), .unset, .unset, .unset, .unset, .unset, .unset, .unset] [(.int (4 : Int32))])) _
      refine XS.bipush X103.here hx rfl (hb hby at_136) ?_
      show Steps p.tables e below (T103.setTop (mkF m 138 #[.val (.int p0), .val (.int p1), .val (.int p2), .val (.int (4 : Int32)), .val (.ref b75), .unset, .unset, .unset, .unset, .unset, .unset, .unset] [(.int (6 : Int32)), (.int (4 : Int32))])) _
      refine XS.icmpYes X103.here hx rfl (pc0 := 138) (pc' := 158) rfl (hb hby at_138) rfl (flt hc106).2.2.2 (by decide) (by decide) ?_
      exact k
    · skip
      obtain rfl : ln = (5 : Int32) := own_eq.mpr hk_ln
      obtain ⟨T108, h108, k108, X108, e108, E108, A108, st108⟩ := newP X0 hx hZ (hw _ (List.mem_of_getElem? (i := 1) rfl)) e0 (g := (mkF m 9 #[.val (.int p0), .val (.int p1), .val (.int p2), .val (.int (5 : Int32)), .unset, .unset, .unset, .unset, .unset, .unset, .unset, .unset] [(.int (5 : Int32))])) rfl (hb hby at_9) rfl (by decide) (cap := 5) (by decide) (by decide) (by decide) (by decide)
      obtain ⟨b108, g108⟩ : ∃ z, z = h0.size := ⟨_, rfl⟩
      rw [← g108] at A108 st108
      have g_b108 : n0 ≤ b108 := Nat.le_trans Z0 (Nat.le_of_eq g108.symm)
      skip
      have Z108 : n0 ≤ h108.size := Nat.le_trans Z0 E108.1
      have K108 : Keep h0 h108 [] := KR.ext E108
      have sz_b108 : h0.size ≤ b108 := Nat.le_trans KR.1 (Nat.le_of_eq g108.symm)
      have V108 : Arv Z h108 b108 k108 .boolean (5 : Int32) [(.int (0 : Int32)), (.int (0 : Int32)), (.int (0 : Int32)), (.int (0 : Int32)), (.int (0 : Int32))] (.int (0 : Int32)) := (Arv.new A108 (by decide)).pad (pad_rep [] (.int (0 : Int32)) 5)
      have hc109 : (0 : Int32) < (5 : Int32) := by decide
      have pre110 : ∀ t, Steps p.tables e below (T108.setTop (mkF m 20 #[.val (.int p0), .val (.int p1), .val (.int p2), .val (.int (5 : Int32)), .val (.ref b108), .unset, .unset, .unset, .unset, .unset, .unset, .unset] [(.int (0 : Int32)), (.ref b108)])) t → Steps p.tables e below (s₁.setTop (mkF m 0 #[.val (.int p0), .val (.int p1), .val (.int p2), .unset, .unset, .unset, .unset, .unset, .unset, .unset, .unset, .unset] [])) t := fun t k => pre1 t (by
        show Steps p.tables e below (s₁.setTop (mkF m 8 #[.val (.int p0), .val (.int p1), .val (.int p2), .val (.int (5 : Int32)), .unset, .unset, .unset, .unset, .unset, .unset, .unset, .unset] [])) _
        refine XS.iloadN X0.here hx rfl (hb hby at_8) rfl ?_
        show Steps p.tables e below (s₁.setTop (mkF m 9 #[.val (.int p0), .val (.int p1), .val (.int p2), .val (.int (5 : Int32)), .unset, .unset, .unset, .unset, .unset, .unset, .unset, .unset] [(.int (5 : Int32))])) _
        refine st108 _ ?_
        show Steps p.tables e below (T108.setTop (mkF m 11 #[.val (.int p0), .val (.int p1), .val (.int p2), .val (.int (5 : Int32)), .unset, .unset, .unset, .unset, .unset, .unset, .unset, .unset] [(.ref b108)])) _
        refine XS.astore X108.here hx rfl (hb hby at_11) rfl rfl (l' := #[.val (.int p0), .val (.int p1), .val (.int p2), .val (.int (5 : Int32)), .val (.ref b108), .unset, .unset, .unset, .unset, .unset, .unset, .unset]) rfl ?_
        show Steps p.tables e below (T108.setTop (mkF m 13 #[.val (.int p0), .val (.int p1), .val (.int p2), .val (.int (5 : Int32)), .val (.ref b108), .unset, .unset, .unset, .unset, .unset, .unset, .unset] [])) _
        refine XS.iloadN X108.here hx rfl (hb hby at_13) rfl ?_
        show Steps p.tables e below (T108.setTop (mkF m 14 #[.val (.int p0), .val (.int p1), .val (.int p2), .val (.int (5 : Int32)), .val (.ref b108), .unset, .unset, .unset, .unset, .unset, .unset, .unset] [(.int (5 : Int32))])) _
        refine XS.ifNo X108.here hx rfl (hb hby at_14) rfl ((if0 _ _).trans (tlt hc109).2.2.2) ?_
        show Steps p.tables e below (T108.setTop (mkF m 17 #[.val (.int p0), .val (.int p1), .val (.int p2), .val (.int (5 : Int32)), .val (.ref b108), .unset, .unset, .unset, .unset, .unset, .unset, .unset] [])) _
        refine XS.aload X108.here hx rfl (hb hby at_17) rfl rfl ?_
        show Steps p.tables e below (T108.setTop (mkF m 19 #[.val (.int p0), .val (.int p1), .val (.int p2), .val (.int (5 : Int32)), .val (.ref b108), .unset, .unset, .unset, .unset, .unset, .unset, .unset] [(.ref b108)])) _
        refine XS.iconst X108.here hx rfl (hb hby at_19) ?_
        exact k)
      obtain ⟨v0, rfl, pre111⟩ : ∃ (v0 : Int32), (v0 = bI (¬ ((p1 &&& (1 : Int32)).toInt = 0))) ∧ ∀ t, Steps p.tables e below (T108.setTop (mkF m 31 #[.val (.int p0), .val (.int p1), .val (.int p2), .val (.int (5 : Int32)), .val (.ref b108), .unset, .unset, .unset, .unset, .unset, .unset, .unset] [(.int v0), (.int (0 : Int32)), (.ref b108)])) t → Steps p.tables e below (s₁.setTop (mkF m 0 #[.val (.int p0), .val (.int p1), .val (.int p2), .unset, .unset, .unset, .unset, .unset, .unset, .unset, .unset, .unset] [])) t := by
        have pre113 : ∀ t, Steps p.tables e below (T108.setTop (mkF m 23 #[.val (.int p0), .val (.int p1), .val (.int p2), .val (.int (5 : Int32)), .val (.ref b108), .unset, .unset, .unset, .unset, .unset, .unset, .unset] [(.int (p1 &&& (1 : Int32))), (.int (0 : Int32)), (.ref b108)])) t → Steps p.tables e below (s₁.setTop (mkF m 0 #[.val (.int p0), .val (.int p1), .val (.int p2), .unset, .unset, .unset, .unset, .unset, .unset, .unset, .unset, .unset] [])) t := fun t k => pre110 t (by
          show Steps p.tables e below (T108.setTop (mkF m 20 #[.val (.int p0), .val (.int p1), .val (.int p2), .val (.int (5 : Int32)), .val (.ref b108), .unset, .unset, .unset, .unset, .unset, .unset, .unset] [(.int (0 : Int32)), (.ref b108)])) _
          refine XS.iloadN X108.here hx rfl (hb hby at_20) rfl ?_
          show Steps p.tables e below (T108.setTop (mkF m 21 #[.val (.int p0), .val (.int p1), .val (.int p2), .val (.int (5 : Int32)), .val (.ref b108), .unset, .unset, .unset, .unset, .unset, .unset, .unset] [(.int p1), (.int (0 : Int32)), (.ref b108)])) _
          refine XS.iconst X108.here hx rfl (hb hby at_21) ?_
          show Steps p.tables e below (T108.setTop (mkF m 22 #[.val (.int p0), .val (.int p1), .val (.int p2), .val (.int (5 : Int32)), .val (.ref b108), .unset, .unset, .unset, .unset, .unset, .unset, .unset] [(.int (1 : Int32)), (.int p1), (.int (0 : Int32)), (.ref b108)])) _
          refine XS.iand X108.here hx rfl (hb hby at_22) rfl ?_
          exact k)
        by_cases hc112 : (p1 &&& (1 : Int32)) = (0 : Int32)
        · skip
          have ohc112 : (p1 &&& (1 : Int32)).toInt = 0 := own_eq.mp hc112
          refine ⟨(0 : Int32), ?_, fun t k => pre113 t ?_⟩
          · exact own_c0 (by omega)
          · skip
            show Steps p.tables e below (T108.setTop (mkF m 23 #[.val (.int p0), .val (.int p1), .val (.int p2), .val (.int (5 : Int32)), .val (.ref b108), .unset, .unset, .unset, .unset, .unset, .unset, .unset] [(.int (p1 &&& (1 : Int32))), (.int (0 : Int32)), (.ref b108)])) _
            refine XS.ifYes X108.here hx rfl (pc0 := 23) (pc' := 30) rfl (hb hby at_23) rfl ((if0 _ _).trans (teq hc112).1) (by decide) (by decide) ?_
            show Steps p.tables e below (T108.setTop (mkF m 30 #[.val (.int p0), .val (.int p1), .val (.int p2), .val (.int (5 : Int32)), .val (.ref b108), .unset, .unset, .unset, .unset, .unset, .unset, .unset] [(.int (0 : Int32)), (.ref b108)])) _
            refine XS.iconst X108.here hx rfl (hb hby at_30) ?_
            exact k
        · skip
          have ohc112 : ¬ ((p1 &&& (1 : Int32)).toInt = 0) := own_neq.mp hc112
          refine ⟨(1 : Int32), ?_, fun t k => pre113 t ?_⟩
          · exact own_c1 (by omega)
          · skip
            show Steps p.tables e below (T108.setTop (mkF m 23 #[.val (.int p0), .val (.int p1), .val (.int p2), .val (.int (5 : Int32)), .val (.ref b108), .unset, .unset, .unset, .unset, .unset, .unset, .unset] [(.int (p1 &&& (1 : Int32))), (.int (0 : Int32)), (.ref b108)])) _
            refine XS.ifNo X108.here hx rfl (hb hby at_23) rfl ((if0 _ _).trans (feq hc112).1) ?_
            show Steps p.tables e below (T108.setTop (mkF m 26 #[.val (.int p0), .val (.int p1), .val (.int p2), .val (.int (5 : Int32)), .val (.ref b108), .unset, .unset, .unset, .unset, .unset, .unset, .unset] [(.int (0 : Int32)), (.ref b108)])) _
            refine XS.iconst X108.here hx rfl (hb hby at_26) ?_
            show Steps p.tables e below (T108.setTop (mkF m 27 #[.val (.int p0), .val (.int p1), .val (.int p2), .val (.int (5 : Int32)), .val (.ref b108), .unset, .unset, .unset, .unset, .unset, .unset, .unset] [(.int (1 : Int32)), (.int (0 : Int32)), (.ref b108)])) _
            refine XS.goto X108.here hx rfl (pc0 := 27) (pc' := 31) rfl (hb hby at_27) (by decide) (by decide) ?_
            exact k
      obtain ⟨cl114, Ar114, q114, Sz114, Nn114, Hh114, Gg114⟩ := id V108
      have hin114 : ¬ ((0 : Int32) < 0 ∨ cl114.slots.size ≤ ((0 : Int32)).toNatClampNeg) := inb_of Sz114 ⟨by decide, by decide⟩
      obtain ⟨T115, h115, X115, e115, W115, st115⟩ := stZ X108 hx hZ e108 Ar114 (j := (0 : Int32)) hin114 (g := (mkF m 31 #[.val (.int p0), .val (.int p1), .val (.int p2), .val (.int (5 : Int32)), .val (.ref b108), .unset, .unset, .unset, .unset, .unset, .unset, .unset] [(.int (bI (¬ ((p1 &&& (1 : Int32)).toInt = 0)))), (.int (0 : Int32)), (.ref b108)])) rfl rfl (hb hby at_31)
      have V115 : Arv Z h115 b108 k108 .boolean (5 : Int32) [(.int (nar .boolean (bI (¬ ((p1 &&& (1 : Int32)).toInt = 0))))), (.int (0 : Int32)), (.int (0 : Int32)), (.int (0 : Int32)), (.int (0 : Int32))] (.int (0 : Int32)) := Arv.set Ar114 q114 Sz114 Nn114 Hh114 Gg114 (fits_nar_bool _) W115 0 rfl (Nat.le_of_ble_eq_true rfl)
      have N115 := Fr.snoc X115 N0 g_b108
      have Z115 : n0 ≤ h115.size := Nat.le_trans Z108 (Keep.of_wr W115).1
      have K115 : Keep h0 h115 [] := K108.wr W115 (Or.inr sz_b108)
      have hc116 : (1 : Int32) < (5 : Int32) := by decide
      have pre117 : ∀ t, Steps p.tables e below (T115.setTop (mkF m 40 #[.val (.int p0), .val (.int p1), .val (.int p2), .val (.int (5 : Int32)), .val (.ref b108), .unset, .unset, .unset, .unset, .unset, .unset, .unset] [(.int (1 : Int32)), (.ref b108)])) t → Steps p.tables e below (s₁.setTop (mkF m 0 #[.val (.int p0), .val (.int p1), .val (.int p2), .unset, .unset, .unset, .unset, .unset, .unset, .unset, .unset, .unset] [])) t := fun t k => pre111 t (by
        show Steps p.tables e below (T108.setTop (mkF m 31 #[.val (.int p0), .val (.int p1), .val (.int p2), .val (.int (5 : Int32)), .val (.ref b108), .unset, .unset, .unset, .unset, .unset, .unset, .unset] [(.int (bI (¬ ((p1 &&& (1 : Int32)).toInt = 0)))), (.int (0 : Int32)), (.ref b108)])) _
        refine st115 _ ?_
        show Steps p.tables e below (T115.setTop (mkF m 32 #[.val (.int p0), .val (.int p1), .val (.int p2), .val (.int (5 : Int32)), .val (.ref b108), .unset, .unset, .unset, .unset, .unset, .unset, .unset] [])) _
        refine XS.iloadN X115.here hx rfl (hb hby at_32) rfl ?_
        show Steps p.tables e below (T115.setTop (mkF m 33 #[.val (.int p0), .val (.int p1), .val (.int p2), .val (.int (5 : Int32)), .val (.ref b108), .unset, .unset, .unset, .unset, .unset, .unset, .unset] [(.int (5 : Int32))])) _
        refine XS.iconst X115.here hx rfl (hb hby at_33) ?_
        show Steps p.tables e below (T115.setTop (mkF m 34 #[.val (.int p0), .val (.int p1), .val (.int p2), .val (.int (5 : Int32)), .val (.ref b108), .unset, .unset, .unset, .unset, .unset, .unset, .unset] [(.int (1 : Int32)), (.int (5 : Int32))])) _
        refine XS.icmpNo X115.here hx rfl (hb hby at_34) rfl (tlt hc116).2.2.2 ?_
        show Steps p.tables e below (T115.setTop (mkF m 37 #[.val (.int p0), .val (.int p1), .val (.int p2), .val (.int (5 : Int32)), .val (.ref b108), .unset, .unset, .unset, .unset, .unset, .unset, .unset] [])) _
        refine XS.aload X115.here hx rfl (hb hby at_37) rfl rfl ?_
        show Steps p.tables e below (T115.setTop (mkF m 39 #[.val (.int p0), .val (.int p1), .val (.int p2), .val (.int (5 : Int32)), .val (.ref b108), .unset, .unset, .unset, .unset, .unset, .unset, .unset] [(.ref b108)])) _
        refine XS.iconst X115.here hx rfl (hb hby at_39) ?_
        exact k)
      obtain ⟨v1, rfl, pre118⟩ : ∃ (v1 : Int32), (v1 = bI (¬ ((p1 &&& (2 : Int32)).toInt = 0))) ∧ ∀ t, Steps p.tables e below (T115.setTop (mkF m 51 #[.val (.int p0), .val (.int p1), .val (.int p2), .val (.int (5 : Int32)), .val (.ref b108), .unset, .unset, .unset, .unset, .unset, .unset, .unset] [(.int v1), (.int (1 : Int32)), (.ref b108)])) t → Steps p.tables e below (s₁.setTop (mkF m 0 #[.val (.int p0), .val (.int p1), .val (.int p2), .unset, .unset, .unset, .unset, .unset, .unset, .unset, .unset, .unset] [])) t := by
        have pre120 : ∀ t, Steps p.tables e below (T115.setTop (mkF m 43 #[.val (.int p0), .val (.int p1), .val (.int p2), .val (.int (5 : Int32)), .val (.ref b108), .unset, .unset, .unset, .unset, .unset, .unset, .unset] [(.int (p1 &&& (2 : Int32))), (.int (1 : Int32)), (.ref b108)])) t → Steps p.tables e below (s₁.setTop (mkF m 0 #[.val (.int p0), .val (.int p1), .val (.int p2), .unset, .unset, .unset, .unset, .unset, .unset, .unset, .unset, .unset] [])) t := fun t k => pre117 t (by
          show Steps p.tables e below (T115.setTop (mkF m 40 #[.val (.int p0), .val (.int p1), .val (.int p2), .val (.int (5 : Int32)), .val (.ref b108), .unset, .unset, .unset, .unset, .unset, .unset, .unset] [(.int (1 : Int32)), (.ref b108)])) _
          refine XS.iloadN X115.here hx rfl (hb hby at_40) rfl ?_
          show Steps p.tables e below (T115.setTop (mkF m 41 #[.val (.int p0), .val (.int p1), .val (.int p2), .val (.int (5 : Int32)), .val (.ref b108), .unset, .unset, .unset, .unset, .unset, .unset, .unset] [(.int p1), (.int (1 : Int32)), (.ref b108)])) _
          refine XS.iconst X115.here hx rfl (hb hby at_41) ?_
          show Steps p.tables e below (T115.setTop (mkF m 42 #[.val (.int p0), .val (.int p1), .val (.int p2), .val (.int (5 : Int32)), .val (.ref b108), .unset, .unset, .unset, .unset, .unset, .unset, .unset] [(.int (2 : Int32)), (.int p1), (.int (1 : Int32)), (.ref b108)])) _
          refine XS.iand X115.here hx rfl (hb hby at_42) rfl ?_
          exact k)
        by_cases hc119 : (p1 &&& (2 : Int32)) = (0 : Int32)
        · skip
          have ohc119 : (p1 &&& (2 : Int32)).toInt = 0 := own_eq.mp hc119
          refine ⟨(0 : Int32), ?_, fun t k => pre120 t ?_⟩
          · exact own_c0 (by omega)
          · skip
            show Steps p.tables e below (T115.setTop (mkF m 43 #[.val (.int p0), .val (.int p1), .val (.int p2), .val (.int (5 : Int32)), .val (.ref b108), .unset, .unset, .unset, .unset, .unset, .unset, .unset] [(.int (p1 &&& (2 : Int32))), (.int (1 : Int32)), (.ref b108)])) _
            refine XS.ifYes X115.here hx rfl (pc0 := 43) (pc' := 50) rfl (hb hby at_43) rfl ((if0 _ _).trans (teq hc119).1) (by decide) (by decide) ?_
            show Steps p.tables e below (T115.setTop (mkF m 50 #[.val (.int p0), .val (.int p1), .val (.int p2), .val (.int (5 : Int32)), .val (.ref b108), .unset, .unset, .unset, .unset, .unset, .unset, .unset] [(.int (1 : Int32)), (.ref b108)])) _
            refine XS.iconst X115.here hx rfl (hb hby at_50) ?_
            exact k
        · skip
          have ohc119 : ¬ ((p1 &&& (2 : Int32)).toInt = 0) := own_neq.mp hc119
          refine ⟨(1 : Int32), ?_, fun t k => pre120 t ?_⟩
          · exact own_c1 (by omega)
          · skip
            show Steps p.tables e below (T115.setTop (mkF m 43 #[.val (.int p0), .val (.int p1), .val (.int p2), .val (.int (5 : Int32)), .val (.ref b108), .unset, .unset, .unset, .unset, .unset, .unset, .unset] [(.int (p1 &&& (2 : Int32))), (.int (1 : Int32)), (.ref b108)])) _
            refine XS.ifNo X115.here hx rfl (hb hby at_43) rfl ((if0 _ _).trans (feq hc119).1) ?_
            show Steps p.tables e below (T115.setTop (mkF m 46 #[.val (.int p0), .val (.int p1), .val (.int p2), .val (.int (5 : Int32)), .val (.ref b108), .unset, .unset, .unset, .unset, .unset, .unset, .unset] [(.int (1 : Int32)), (.ref b108)])) _
            refine XS.iconst X115.here hx rfl (hb hby at_46) ?_
            show Steps p.tables e below (T115.setTop (mkF m 47 #[.val (.int p0), .val (.int p1), .val (.int p2), .val (.int (5 : Int32)), .val (.ref b108), .unset, .unset, .unset, .unset, .unset, .unset, .unset] [(.int (1 : Int32)), (.int (1 : Int32)), (.ref b108)])) _
            refine XS.goto X115.here hx rfl (pc0 := 47) (pc' := 51) rfl (hb hby at_47) (by decide) (by decide) ?_
            exact k
      obtain ⟨cl121, Ar121, q121, Sz121, Nn121, Hh121, Gg121⟩ := id V115
      have hin121 : ¬ ((1 : Int32) < 0 ∨ cl121.slots.size ≤ ((1 : Int32)).toNatClampNeg) := inb_of Sz121 ⟨by decide, by decide⟩
      obtain ⟨T122, h122, X122, e122, W122, st122⟩ := stZ X115 hx hZ e115 Ar121 (j := (1 : Int32)) hin121 (g := (mkF m 51 #[.val (.int p0), .val (.int p1), .val (.int p2), .val (.int (5 : Int32)), .val (.ref b108), .unset, .unset, .unset, .unset, .unset, .unset, .unset] [(.int (bI (¬ ((p1 &&& (2 : Int32)).toInt = 0)))), (.int (1 : Int32)), (.ref b108)])) rfl rfl (hb hby at_51)
      have V122 : Arv Z h122 b108 k108 .boolean (5 : Int32) [(.int (nar .boolean (bI (¬ ((p1 &&& (1 : Int32)).toInt = 0))))), (.int (nar .boolean (bI (¬ ((p1 &&& (2 : Int32)).toInt = 0))))), (.int (0 : Int32)), (.int (0 : Int32)), (.int (0 : Int32))] (.int (0 : Int32)) := Arv.set Ar121 q121 Sz121 Nn121 Hh121 Gg121 (fits_nar_bool _) W122 1 rfl (Nat.le_of_ble_eq_true rfl)
      have N122 := Fr.snoc X122 N115 g_b108
      have Z122 : n0 ≤ h122.size := Nat.le_trans Z115 (Keep.of_wr W122).1
      have K122 : Keep h0 h122 [] := K115.wr W122 (Or.inr sz_b108)
      have hc123 : (2 : Int32) < (5 : Int32) := by decide
      have pre124 : ∀ t, Steps p.tables e below (T122.setTop (mkF m 60 #[.val (.int p0), .val (.int p1), .val (.int p2), .val (.int (5 : Int32)), .val (.ref b108), .unset, .unset, .unset, .unset, .unset, .unset, .unset] [(.int (2 : Int32)), (.ref b108)])) t → Steps p.tables e below (s₁.setTop (mkF m 0 #[.val (.int p0), .val (.int p1), .val (.int p2), .unset, .unset, .unset, .unset, .unset, .unset, .unset, .unset, .unset] [])) t := fun t k => pre118 t (by
        show Steps p.tables e below (T115.setTop (mkF m 51 #[.val (.int p0), .val (.int p1), .val (.int p2), .val (.int (5 : Int32)), .val (.ref b108), .unset, .unset, .unset, .unset, .unset, .unset, .unset] [(.int (bI (¬ ((p1 &&& (2 : Int32)).toInt = 0)))), (.int (1 : Int32)), (.ref b108)])) _
        refine st122 _ ?_
        show Steps p.tables e below (T122.setTop (mkF m 52 #[.val (.int p0), .val (.int p1), .val (.int p2), .val (.int (5 : Int32)), .val (.ref b108), .unset, .unset, .unset, .unset, .unset, .unset, .unset] [])) _
        refine XS.iloadN X122.here hx rfl (hb hby at_52) rfl ?_
        show Steps p.tables e below (T122.setTop (mkF m 53 #[.val (.int p0), .val (.int p1), .val (.int p2), .val (.int (5 : Int32)), .val (.ref b108), .unset, .unset, .unset, .unset, .unset, .unset, .unset] [(.int (5 : Int32))])) _
        refine XS.iconst X122.here hx rfl (hb hby at_53) ?_
        show Steps p.tables e below (T122.setTop (mkF m 54 #[.val (.int p0), .val (.int p1), .val (.int p2), .val (.int (5 : Int32)), .val (.ref b108), .unset, .unset, .unset, .unset, .unset, .unset, .unset] [(.int (2 : Int32)), (.int (5 : Int32))])) _
        refine XS.icmpNo X122.here hx rfl (hb hby at_54) rfl (tlt hc123).2.2.2 ?_
        show Steps p.tables e below (T122.setTop (mkF m 57 #[.val (.int p0), .val (.int p1), .val (.int p2), .val (.int (5 : Int32)), .val (.ref b108), .unset, .unset, .unset, .unset, .unset, .unset, .unset] [])) _
        refine XS.aload X122.here hx rfl (hb hby at_57) rfl rfl ?_
        show Steps p.tables e below (T122.setTop (mkF m 59 #[.val (.int p0), .val (.int p1), .val (.int p2), .val (.int (5 : Int32)), .val (.ref b108), .unset, .unset, .unset, .unset, .unset, .unset, .unset] [(.ref b108)])) _
        refine XS.iconst X122.here hx rfl (hb hby at_59) ?_
        exact k)
      obtain ⟨v2, rfl, pre125⟩ : ∃ (v2 : Int32), (v2 = bI (¬ ((p1 &&& (4 : Int32)).toInt = 0))) ∧ ∀ t, Steps p.tables e below (T122.setTop (mkF m 71 #[.val (.int p0), .val (.int p1), .val (.int p2), .val (.int (5 : Int32)), .val (.ref b108), .unset, .unset, .unset, .unset, .unset, .unset, .unset] [(.int v2), (.int (2 : Int32)), (.ref b108)])) t → Steps p.tables e below (s₁.setTop (mkF m 0 #[.val (.int p0), .val (.int p1), .val (.int p2), .unset, .unset, .unset, .unset, .unset, .unset, .unset, .unset, .unset] [])) t := by
        have pre127 : ∀ t, Steps p.tables e below (T122.setTop (mkF m 63 #[.val (.int p0), .val (.int p1), .val (.int p2), .val (.int (5 : Int32)), .val (.ref b108), .unset, .unset, .unset, .unset, .unset, .unset, .unset] [(.int (p1 &&& (4 : Int32))), (.int (2 : Int32)), (.ref b108)])) t → Steps p.tables e below (s₁.setTop (mkF m 0 #[.val (.int p0), .val (.int p1), .val (.int p2), .unset, .unset, .unset, .unset, .unset, .unset, .unset, .unset, .unset] [])) t := fun t k => pre124 t (by
          show Steps p.tables e below (T122.setTop (mkF m 60 #[.val (.int p0), .val (.int p1), .val (.int p2), .val (.int (5 : Int32)), .val (.ref b108), .unset, .unset, .unset, .unset, .unset, .unset, .unset] [(.int (2 : Int32)), (.ref b108)])) _
          refine XS.iloadN X122.here hx rfl (hb hby at_60) rfl ?_
          show Steps p.tables e below (T122.setTop (mkF m 61 #[.val (.int p0), .val (.int p1), .val (.int p2), .val (.int (5 : Int32)), .val (.ref b108), .unset, .unset, .unset, .unset, .unset, .unset, .unset] [(.int p1), (.int (2 : Int32)), (.ref b108)])) _
          refine XS.iconst X122.here hx rfl (hb hby at_61) ?_
          show Steps p.tables e below (T122.setTop (mkF m 62 #[.val (.int p0), .val (.int p1), .val (.int p2), .val (.int (5 : Int32)), .val (.ref b108), .unset, .unset, .unset, .unset, .unset, .unset, .unset] [(.int (4 : Int32)), (.int p1), (.int (2 : Int32)), (.ref b108)])) _
          refine XS.iand X122.here hx rfl (hb hby at_62) rfl ?_
          exact k)
        by_cases hc126 : (p1 &&& (4 : Int32)) = (0 : Int32)
        · skip
          have ohc126 : (p1 &&& (4 : Int32)).toInt = 0 := own_eq.mp hc126
          refine ⟨(0 : Int32), ?_, fun t k => pre127 t ?_⟩
          · exact own_c0 (by omega)
          · skip
            show Steps p.tables e below (T122.setTop (mkF m 63 #[.val (.int p0), .val (.int p1), .val (.int p2), .val (.int (5 : Int32)), .val (.ref b108), .unset, .unset, .unset, .unset, .unset, .unset, .unset] [(.int (p1 &&& (4 : Int32))), (.int (2 : Int32)), (.ref b108)])) _
            refine XS.ifYes X122.here hx rfl (pc0 := 63) (pc' := 70) rfl (hb hby at_63) rfl ((if0 _ _).trans (teq hc126).1) (by decide) (by decide) ?_
            show Steps p.tables e below (T122.setTop (mkF m 70 #[.val (.int p0), .val (.int p1), .val (.int p2), .val (.int (5 : Int32)), .val (.ref b108), .unset, .unset, .unset, .unset, .unset, .unset, .unset] [(.int (2 : Int32)), (.ref b108)])) _
            refine XS.iconst X122.here hx rfl (hb hby at_70) ?_
            exact k
        · skip
          have ohc126 : ¬ ((p1 &&& (4 : Int32)).toInt = 0) := own_neq.mp hc126
          refine ⟨(1 : Int32), ?_, fun t k => pre127 t ?_⟩
          · exact own_c1 (by omega)
          · skip
            show Steps p.tables e below (T122.setTop (mkF m 63 #[.val (.int p0), .val (.int p1), .val (.int p2), .val (.int (5 : Int32)), .val (.ref b108), .unset, .unset, .unset, .unset, .unset, .unset, .unset] [(.int (p1 &&& (4 : Int32))), (.int (2 : Int32)), (.ref b108)])) _
            refine XS.ifNo X122.here hx rfl (hb hby at_63) rfl ((if0 _ _).trans (feq hc126).1) ?_
            show Steps p.tables e below (T122.setTop (mkF m 66 #[.val (.int p0), .val (.int p1), .val (.int p2), .val (.int (5 : Int32)), .val (.ref b108), .unset, .unset, .unset, .unset, .unset, .unset, .unset] [(.int (2 : Int32)), (.ref b108)])) _
            refine XS.iconst X122.here hx rfl (hb hby at_66) ?_
            show Steps p.tables e below (T122.setTop (mkF m 67 #[.val (.int p0), .val (.int p1), .val (.int p2), .val (.int (5 : Int32)), .val (.ref b108), .unset, .unset, .unset, .unset, .unset, .unset, .unset] [(.int (1 : Int32)), (.int (2 : Int32)), (.ref b108)])) _
            refine XS.goto X122.here hx rfl (pc0 := 67) (pc' := 71) rfl (hb hby at_67) (by decide) (by decide) ?_
            exact k
      obtain ⟨cl128, Ar128, q128, Sz128, Nn128, Hh128, Gg128⟩ := id V122
      have hin128 : ¬ ((2 : Int32) < 0 ∨ cl128.slots.size ≤ ((2 : Int32)).toNatClampNeg) := inb_of Sz128 ⟨by decide, by decide⟩
      obtain ⟨T129, h129, X129, e129, W129, st129⟩ := stZ X122 hx hZ e122 Ar128 (j := (2 : Int32)) hin128 (g := (mkF m 71 #[.val (.int p0), .val (.int p1), .val (.int p2), .val (.int (5 : Int32)), .val (.ref b108), .unset, .unset, .unset, .unset, .unset, .unset, .unset] [(.int (bI (¬ ((p1 &&& (4 : Int32)).toInt = 0)))), (.int (2 : Int32)), (.ref b108)])) rfl rfl (hb hby at_71)
      have V129 : Arv Z h129 b108 k108 .boolean (5 : Int32) [(.int (nar .boolean (bI (¬ ((p1 &&& (1 : Int32)).toInt = 0))))), (.int (nar .boolean (bI (¬ ((p1 &&& (2 : Int32)).toInt = 0))))), (.int (nar .boolean (bI (¬ ((p1 &&& (4 : Int32)).toInt = 0))))), (.int (0 : Int32)), (.int (0 : Int32))] (.int (0 : Int32)) := Arv.set Ar128 q128 Sz128 Nn128 Hh128 Gg128 (fits_nar_bool _) W129 2 rfl (Nat.le_of_ble_eq_true rfl)
      have N129 := Fr.snoc X129 N122 g_b108
      have Z129 : n0 ≤ h129.size := Nat.le_trans Z122 (Keep.of_wr W129).1
      have K129 : Keep h0 h129 [] := K122.wr W129 (Or.inr sz_b108)
      have hc130 : (3 : Int32) < (5 : Int32) := by decide
      have pre131 : ∀ t, Steps p.tables e below (T129.setTop (mkF m 80 #[.val (.int p0), .val (.int p1), .val (.int p2), .val (.int (5 : Int32)), .val (.ref b108), .unset, .unset, .unset, .unset, .unset, .unset, .unset] [(.int (3 : Int32)), (.ref b108)])) t → Steps p.tables e below (s₁.setTop (mkF m 0 #[.val (.int p0), .val (.int p1), .val (.int p2), .unset, .unset, .unset, .unset, .unset, .unset, .unset, .unset, .unset] [])) t := fun t k => pre125 t (by
        show Steps p.tables e below (T122.setTop (mkF m 71 #[.val (.int p0), .val (.int p1), .val (.int p2), .val (.int (5 : Int32)), .val (.ref b108), .unset, .unset, .unset, .unset, .unset, .unset, .unset] [(.int (bI (¬ ((p1 &&& (4 : Int32)).toInt = 0)))), (.int (2 : Int32)), (.ref b108)])) _
        refine st129 _ ?_
        show Steps p.tables e below (T129.setTop (mkF m 72 #[.val (.int p0), .val (.int p1), .val (.int p2), .val (.int (5 : Int32)), .val (.ref b108), .unset, .unset, .unset, .unset, .unset, .unset, .unset] [])) _
        refine XS.iloadN X129.here hx rfl (hb hby at_72) rfl ?_
        show Steps p.tables e below (T129.setTop (mkF m 73 #[.val (.int p0), .val (.int p1), .val (.int p2), .val (.int (5 : Int32)), .val (.ref b108), .unset, .unset, .unset, .unset, .unset, .unset, .unset] [(.int (5 : Int32))])) _
        refine XS.iconst X129.here hx rfl (hb hby at_73) ?_
        show Steps p.tables e below (T129.setTop (mkF m 74 #[.val (.int p0), .val (.int p1), .val (.int p2), .val (.int (5 : Int32)), .val (.ref b108), .unset, .unset, .unset, .unset, .unset, .unset, .unset] [(.int (3 : Int32)), (.int (5 : Int32))])) _
        refine XS.icmpNo X129.here hx rfl (hb hby at_74) rfl (tlt hc130).2.2.2 ?_
        show Steps p.tables e below (T129.setTop (mkF m 77 #[.val (.int p0), .val (.int p1), .val (.int p2), .val (.int (5 : Int32)), .val (.ref b108), .unset, .unset, .unset, .unset, .unset, .unset, .unset] [])) _
        refine XS.aload X129.here hx rfl (hb hby at_77) rfl rfl ?_
        show Steps p.tables e below (T129.setTop (mkF m 79 #[.val (.int p0), .val (.int p1), .val (.int p2), .val (.int (5 : Int32)), .val (.ref b108), .unset, .unset, .unset, .unset, .unset, .unset, .unset] [(.ref b108)])) _
        refine XS.iconst X129.here hx rfl (hb hby at_79) ?_
        exact k)
      obtain ⟨v3, rfl, pre132⟩ : ∃ (v3 : Int32), (v3 = bI (¬ ((p1 &&& (8 : Int32)).toInt = 0))) ∧ ∀ t, Steps p.tables e below (T129.setTop (mkF m 92 #[.val (.int p0), .val (.int p1), .val (.int p2), .val (.int (5 : Int32)), .val (.ref b108), .unset, .unset, .unset, .unset, .unset, .unset, .unset] [(.int v3), (.int (3 : Int32)), (.ref b108)])) t → Steps p.tables e below (s₁.setTop (mkF m 0 #[.val (.int p0), .val (.int p1), .val (.int p2), .unset, .unset, .unset, .unset, .unset, .unset, .unset, .unset, .unset] [])) t := by
        have pre134 : ∀ t, Steps p.tables e below (T129.setTop (mkF m 84 #[.val (.int p0), .val (.int p1), .val (.int p2), .val (.int (5 : Int32)), .val (.ref b108), .unset, .unset, .unset, .unset, .unset, .unset, .unset] [(.int (p1 &&& (8 : Int32))), (.int (3 : Int32)), (.ref b108)])) t → Steps p.tables e below (s₁.setTop (mkF m 0 #[.val (.int p0), .val (.int p1), .val (.int p2), .unset, .unset, .unset, .unset, .unset, .unset, .unset, .unset, .unset] [])) t := fun t k => pre131 t (by
          show Steps p.tables e below (T129.setTop (mkF m 80 #[.val (.int p0), .val (.int p1), .val (.int p2), .val (.int (5 : Int32)), .val (.ref b108), .unset, .unset, .unset, .unset, .unset, .unset, .unset] [(.int (3 : Int32)), (.ref b108)])) _
          refine XS.iloadN X129.here hx rfl (hb hby at_80) rfl ?_
          show Steps p.tables e below (T129.setTop (mkF m 81 #[.val (.int p0), .val (.int p1), .val (.int p2), .val (.int (5 : Int32)), .val (.ref b108), .unset, .unset, .unset, .unset, .unset, .unset, .unset] [(.int p1), (.int (3 : Int32)), (.ref b108)])) _
          refine XS.bipush X129.here hx rfl (hb hby at_81) ?_
          show Steps p.tables e below (T129.setTop (mkF m 83 #[.val (.int p0), .val (.int p1), .val (.int p2), .val (.int (5 : Int32)), .val (.ref b108), .unset, .unset, .unset, .unset, .unset, .unset, .unset] [(.int (8 : Int32)), (.int p1), (.int (3 : Int32)), (.ref b108)])) _
          refine XS.iand X129.here hx rfl (hb hby at_83) rfl ?_
          exact k)
        by_cases hc133 : (p1 &&& (8 : Int32)) = (0 : Int32)
        · skip
          have ohc133 : (p1 &&& (8 : Int32)).toInt = 0 := own_eq.mp hc133
          refine ⟨(0 : Int32), ?_, fun t k => pre134 t ?_⟩
          · exact own_c0 (by omega)
          · skip
            show Steps p.tables e below (T129.setTop (mkF m 84 #[.val (.int p0), .val (.int p1), .val (.int p2), .val (.int (5 : Int32)), .val (.ref b108), .unset, .unset, .unset, .unset, .unset, .unset, .unset] [(.int (p1 &&& (8 : Int32))), (.int (3 : Int32)), (.ref b108)])) _
            refine XS.ifYes X129.here hx rfl (pc0 := 84) (pc' := 91) rfl (hb hby at_84) rfl ((if0 _ _).trans (teq hc133).1) (by decide) (by decide) ?_
            show Steps p.tables e below (T129.setTop (mkF m 91 #[.val (.int p0), .val (.int p1), .val (.int p2), .val (.int (5 : Int32)), .val (.ref b108), .unset, .unset, .unset, .unset, .unset, .unset, .unset] [(.int (3 : Int32)), (.ref b108)])) _
            refine XS.iconst X129.here hx rfl (hb hby at_91) ?_
            exact k
        · skip
          have ohc133 : ¬ ((p1 &&& (8 : Int32)).toInt = 0) := own_neq.mp hc133
          refine ⟨(1 : Int32), ?_, fun t k => pre134 t ?_⟩
          · exact own_c1 (by omega)
          · skip
            show Steps p.tables e below (T129.setTop (mkF m 84 #[.val (.int p0), .val (.int p1), .val (.int p2), .val (.int (5 : Int32)), .val (.ref b108), .unset, .unset, .unset, .unset, .unset, .unset, .unset] [(.int (p1 &&& (8 : Int32))), (.int (3 : Int32)), (.ref b108)])) _
            refine XS.ifNo X129.here hx rfl (hb hby at_84) rfl ((if0 _ _).trans (feq hc133).1) ?_
            show Steps p.tables e below (T129.setTop (mkF m 87 #[.val (.int p0), .val (.int p1), .val (.int p2), .val (.int (5 : Int32)), .val (.ref b108), .unset, .unset, .unset, .unset, .unset, .unset, .unset] [(.int (3 : Int32)), (.ref b108)])) _
            refine XS.iconst X129.here hx rfl (hb hby at_87) ?_
            show Steps p.tables e below (T129.setTop (mkF m 88 #[.val (.int p0), .val (.int p1), .val (.int p2), .val (.int (5 : Int32)), .val (.ref b108), .unset, .unset, .unset, .unset, .unset, .unset, .unset] [(.int (1 : Int32)), (.int (3 : Int32)), (.ref b108)])) _
            refine XS.goto X129.here hx rfl (pc0 := 88) (pc' := 92) rfl (hb hby at_88) (by decide) (by decide) ?_
            exact k
      obtain ⟨cl135, Ar135, q135, Sz135, Nn135, Hh135, Gg135⟩ := id V129
      have hin135 : ¬ ((3 : Int32) < 0 ∨ cl135.slots.size ≤ ((3 : Int32)).toNatClampNeg) := inb_of Sz135 ⟨by decide, by decide⟩
      obtain ⟨T136, h136, X136, e136, W136, st136⟩ := stZ X129 hx hZ e129 Ar135 (j := (3 : Int32)) hin135 (g := (mkF m 92 #[.val (.int p0), .val (.int p1), .val (.int p2), .val (.int (5 : Int32)), .val (.ref b108), .unset, .unset, .unset, .unset, .unset, .unset, .unset] [(.int (bI (¬ ((p1 &&& (8 : Int32)).toInt = 0)))), (.int (3 : Int32)), (.ref b108)])) rfl rfl (hb hby at_92)
      have V136 : Arv Z h136 b108 k108 .boolean (5 : Int32) [(.int (nar .boolean (bI (¬ ((p1 &&& (1 : Int32)).toInt = 0))))), (.int (nar .boolean (bI (¬ ((p1 &&& (2 : Int32)).toInt = 0))))), (.int (nar .boolean (bI (¬ ((p1 &&& (4 : Int32)).toInt = 0))))), (.int (nar .boolean (bI (¬ ((p1 &&& (8 : Int32)).toInt = 0))))), (.int (0 : Int32))] (.int (0 : Int32)) := Arv.set Ar135 q135 Sz135 Nn135 Hh135 Gg135 (fits_nar_bool _) W136 3 rfl (Nat.le_of_ble_eq_true rfl)
      have N136 := Fr.snoc X136 N129 g_b108
      have Z136 : n0 ≤ h136.size := Nat.le_trans Z129 (Keep.of_wr W136).1
      have K136 : Keep h0 h136 [] := K129.wr W136 (Or.inr sz_b108)
      have hc137 : (4 : Int32) < (5 : Int32) := by decide
      have pre138 : ∀ t, Steps p.tables e below (T136.setTop (mkF m 101 #[.val (.int p0), .val (.int p1), .val (.int p2), .val (.int (5 : Int32)), .val (.ref b108), .unset, .unset, .unset, .unset, .unset, .unset, .unset] [(.int (4 : Int32)), (.ref b108)])) t → Steps p.tables e below (s₁.setTop (mkF m 0 #[.val (.int p0), .val (.int p1), .val (.int p2), .unset, .unset, .unset, .unset, .unset, .unset, .unset, .unset, .unset] [])) t := fun t k => pre132 t (by
        show Steps p.tables e below (T129.setTop (mkF m 92 #[.val (.int p0), .val (.int p1), .val (.int p2), .val (.int (5 : Int32)), .val (.ref b108), .unset, .unset, .unset, .unset, .unset, .unset, .unset] [(.int (bI (¬ ((p1 &&& (8 : Int32)).toInt = 0)))), (.int (3 : Int32)), (.ref b108)])) _
        refine st136 _ ?_
        show Steps p.tables e below (T136.setTop (mkF m 93 #[.val (.int p0), .val (.int p1), .val (.int p2), .val (.int (5 : Int32)), .val (.ref b108), .unset, .unset, .unset, .unset, .unset, .unset, .unset] [])) _
        refine XS.iloadN X136.here hx rfl (hb hby at_93) rfl ?_
        show Steps p.tables e below (T136.setTop (mkF m 94 #[.val (.int p0), .val (.int p1), .val (.int p2), .val (.int (5 : Int32)), .val (.ref b108), .unset, .unset, .unset, .unset, .unset, .unset, .unset] [(.int (5 : Int32))])) _
        refine XS.iconst X136.here hx rfl (hb hby at_94) ?_
        show Steps p.tables e below (T136.setTop (mkF m 95 #[.val (.int p0), .val (.int p1), .val (.int p2), .val (.int (5 : Int32)), .val (.ref b108), .unset, .unset, .unset, .unset, .unset, .unset, .unset] [(.int (4 : Int32)), (.int (5 : Int32))])) _
        refine XS.icmpNo X136.here hx rfl (hb hby at_95) rfl (tlt hc137).2.2.2 ?_
        show Steps p.tables e below (T136.setTop (mkF m 98 #[.val (.int p0), .val (.int p1), .val (.int p2), .val (.int (5 : Int32)), .val (.ref b108), .unset, .unset, .unset, .unset, .unset, .unset, .unset] [])) _
        refine XS.aload X136.here hx rfl (hb hby at_98) rfl rfl ?_
        show Steps p.tables e below (T136.setTop (mkF m 100 #[.val (.int p0), .val (.int p1), .val (.int p2), .val (.int (5 : Int32)), .val (.ref b108), .unset, .unset, .unset, .unset, .unset, .unset, .unset] [(.ref b108)])) _
        refine XS.iconst X136.here hx rfl (hb hby at_100) ?_
        exact k)
      obtain ⟨v4, rfl, pre139⟩ : ∃ (v4 : Int32), (v4 = bI (¬ ((p1 &&& (16 : Int32)).toInt = 0))) ∧ ∀ t, Steps p.tables e below (T136.setTop (mkF m 113 #[.val (.int p0), .val (.int p1), .val (.int p2), .val (.int (5 : Int32)), .val (.ref b108), .unset, .unset, .unset, .unset, .unset, .unset, .unset] [(.int v4), (.int (4 : Int32)), (.ref b108)])) t → Steps p.tables e below (s₁.setTop (mkF m 0 #[.val (.int p0), .val (.int p1), .val (.int p2), .unset, .unset, .unset, .unset, .unset, .unset, .unset, .unset, .unset] [])) t := by
        have pre141 : ∀ t, Steps p.tables e below (T136.setTop (mkF m 105 #[.val (.int p0), .val (.int p1), .val (.int p2), .val (.int (5 : Int32)), .val (.ref b108), .unset, .unset, .unset, .unset, .unset, .unset, .unset] [(.int (p1 &&& (16 : Int32))), (.int (4 : Int32)), (.ref b108)])) t → Steps p.tables e below (s₁.setTop (mkF m 0 #[.val (.int p0), .val (.int p1), .val (.int p2), .unset, .unset, .unset, .unset, .unset, .unset, .unset, .unset, .unset] [])) t := fun t k => pre138 t (by
          show Steps p.tables e below (T136.setTop (mkF m 101 #[.val (.int p0), .val (.int p1), .val (.int p2), .val (.int (5 : Int32)), .val (.ref b108), .unset, .unset, .unset, .unset, .unset, .unset, .unset] [(.int (4 : Int32)), (.ref b108)])) _
          refine XS.iloadN X136.here hx rfl (hb hby at_101) rfl ?_
          show Steps p.tables e below (T136.setTop (mkF m 102 #[.val (.int p0), .val (.int p1), .val (.int p2), .val (.int (5 : Int32)), .val (.ref b108), .unset, .unset, .unset, .unset, .unset, .unset, .unset] [(.int p1), (.int (4 : Int32)), (.ref b108)])) _
          refine XS.bipush X136.here hx rfl (hb hby at_102) ?_
          show Steps p.tables e below (T136.setTop (mkF m 104 #[.val (.int p0), .val (.int p1), .val (.int p2), .val (.int (5 : Int32)), .val (.ref b108), .unset, .unset, .unset, .unset, .unset, .unset, .unset] [(.int (16 : Int32)), (.int p1), (.int (4 : Int32)), (.ref b108)])) _
          refine XS.iand X136.here hx rfl (hb hby at_104) rfl ?_
          exact k)
        by_cases hc140 : (p1 &&& (16 : Int32)) = (0 : Int32)
        · skip
          have ohc140 : (p1 &&& (16 : Int32)).toInt = 0 := own_eq.mp hc140
          refine ⟨(0 : Int32), ?_, fun t k => pre141 t ?_⟩
          · exact own_c0 (by omega)
          · skip
            show Steps p.tables e below (T136.setTop (mkF m 105 #[.val (.int p0), .val (.int p1), .val (.int p2), .val (.int (5 : Int32)), .val (.ref b108), .unset, .unset, .unset, .unset, .unset, .unset, .unset] [(.int (p1 &&& (16 : Int32))), (.int (4 : Int32)), (.ref b108)])) _
            refine XS.ifYes X136.here hx rfl (pc0 := 105) (pc' := 112) rfl (hb hby at_105) rfl ((if0 _ _).trans (teq hc140).1) (by decide) (by decide) ?_
            show Steps p.tables e below (T136.setTop (mkF m 112 #[.val (.int p0), .val (.int p1), .val (.int p2), .val (.int (5 : Int32)), .val (.ref b108), .unset, .unset, .unset, .unset, .unset, .unset, .unset] [(.int (4 : Int32)), (.ref b108)])) _
            refine XS.iconst X136.here hx rfl (hb hby at_112) ?_
            exact k
        · skip
          have ohc140 : ¬ ((p1 &&& (16 : Int32)).toInt = 0) := own_neq.mp hc140
          refine ⟨(1 : Int32), ?_, fun t k => pre141 t ?_⟩
          · exact own_c1 (by omega)
          · skip
            show Steps p.tables e below (T136.setTop (mkF m 105 #[.val (.int p0), .val (.int p1), .val (.int p2), .val (.int (5 : Int32)), .val (.ref b108), .unset, .unset, .unset, .unset, .unset, .unset, .unset] [(.int (p1 &&& (16 : Int32))), (.int (4 : Int32)), (.ref b108)])) _
            refine XS.ifNo X136.here hx rfl (hb hby at_105) rfl ((if0 _ _).trans (feq hc140).1) ?_
            show Steps p.tables e below (T136.setTop (mkF m 108 #[.val (.int p0), .val (.int p1), .val (.int p2), .val (.int (5 : Int32)), .val (.ref b108), .unset, .unset, .unset, .unset, .unset, .unset, .unset] [(.int (4 : Int32)), (.ref b108)])) _
            refine XS.iconst X136.here hx rfl (hb hby at_108) ?_
            show Steps p.tables e below (T136.setTop (mkF m 109 #[.val (.int p0), .val (.int p1), .val (.int p2), .val (.int (5 : Int32)), .val (.ref b108), .unset, .unset, .unset, .unset, .unset, .unset, .unset] [(.int (1 : Int32)), (.int (4 : Int32)), (.ref b108)])) _
            refine XS.goto X136.here hx rfl (pc0 := 109) (pc' := 113) rfl (hb hby at_109) (by decide) (by decide) ?_
            exact k
      obtain ⟨cl142, Ar142, q142, Sz142, Nn142, Hh142, Gg142⟩ := id V136
      have hin142 : ¬ ((4 : Int32) < 0 ∨ cl142.slots.size ≤ ((4 : Int32)).toNatClampNeg) := inb_of Sz142 ⟨by decide, by decide⟩
      obtain ⟨T143, h143, X143, e143, W143, st143⟩ := stZ X136 hx hZ e136 Ar142 (j := (4 : Int32)) hin142 (g := (mkF m 113 #[.val (.int p0), .val (.int p1), .val (.int p2), .val (.int (5 : Int32)), .val (.ref b108), .unset, .unset, .unset, .unset, .unset, .unset, .unset] [(.int (bI (¬ ((p1 &&& (16 : Int32)).toInt = 0)))), (.int (4 : Int32)), (.ref b108)])) rfl rfl (hb hby at_113)
      have V143 : Arv Z h143 b108 k108 .boolean (5 : Int32) [(.int (nar .boolean (bI (¬ ((p1 &&& (1 : Int32)).toInt = 0))))), (.int (nar .boolean (bI (¬ ((p1 &&& (2 : Int32)).toInt = 0))))), (.int (nar .boolean (bI (¬ ((p1 &&& (4 : Int32)).toInt = 0))))), (.int (nar .boolean (bI (¬ ((p1 &&& (8 : Int32)).toInt = 0))))), (.int (nar .boolean (bI (¬ ((p1 &&& (16 : Int32)).toInt = 0)))))] (.int (0 : Int32)) := Arv.set Ar142 q142 Sz142 Nn142 Hh142 Gg142 (fits_nar_bool _) W143 4 rfl (Nat.le_of_ble_eq_true rfl)
      have N143 := Fr.snoc X143 N136 g_b108
      have Z143 : n0 ≤ h143.size := Nat.le_trans Z136 (Keep.of_wr W143).1
      have K143 : Keep h0 h143 [] := K136.wr W143 (Or.inr sz_b108)
      have hc144 : ¬ ((5 : Int32) < (5 : Int32)) := by decide
      have hc145 : ¬ ((6 : Int32) < (5 : Int32)) := by decide
      obtain ⟨cl146, Ar146, -, Sz146, -, Hh146, -⟩ := V143
      refine ⟨b108, cl146, T143, _, h143, X143.more (by decide) (by decide), e143, N143, Z143, K143, ⟨Ar146, Sz146, fun j hj => by
        have q := Hh146 j (by rw [Sz146]; exact hj)
        have hj' : j < 5 := hj
        rcases (show j = 0 ∨ j = 1 ∨ j = 2 ∨ j = 3 ∨ j = 4 by omega) with rfl | rfl | rfl | rfl | rfl
        · exact q.trans (congrArg (fun z => some (Value.int z)) (own_nar (P := ¬ ((p1 &&& (1 : Int32)).toInt = 0))))
        · exact q.trans (congrArg (fun z => some (Value.int z)) (own_nar (P := ¬ ((p1 &&& (2 : Int32)).toInt = 0))))
        · exact q.trans (congrArg (fun z => some (Value.int z)) (own_nar (P := ¬ ((p1 &&& (4 : Int32)).toInt = 0))))
        · exact q.trans (congrArg (fun z => some (Value.int z)) (own_nar (P := ¬ ((p1 &&& (8 : Int32)).toInt = 0))))
        · exact q.trans (congrArg (fun z => some (Value.int z)) (own_nar (P := ¬ ((p1 &&& (16 : Int32)).toInt = 0))))⟩, fun t k => pre139 t ?_⟩
      show Steps p.tables e below (T136.setTop (mkF m 113 #[.val (.int p0), .val (.int p1), .val (.int p2), .val (.int (5 : Int32)), .val (.ref b108), .unset, .unset, .unset, .unset, .unset, .unset, .unset] [(.int (bI (¬ ((p1 &&& (16 : Int32)).toInt = 0)))), (.int (4 : Int32)), (.ref b108)])) _
      refine st143 _ ?_
      show Steps p.tables e below (T143.setTop (mkF m 114 #[.val (.int p0), .val (.int p1), .val (.int p2), .val (.int (5 : Int32)), .val (.ref b108), .unset, .unset, .unset, .unset, .unset, .unset, .unset] [])) _
      refine XS.iloadN X143.here hx rfl (hb hby at_114) rfl ?_
      show Steps p.tables e below (T143.setTop (mkF m 115 #[.val (.int p0), .val (.int p1), .val (.int p2), .val (.int (5 : Int32)), .val (.ref b108), .unset, .unset, .unset, .unset, .unset, .unset, .unset] [(.int (5 : Int32))])) _
      refine XS.iconst X143.here hx rfl (hb hby at_115) ?_
      show Steps p.tables e below (T143.setTop (mkF m 116 #[.val (.int p0), .val (.int p1), .val (.int p2), .val (.int (5 : Int32)), .val (.ref b108), .unset, .unset, .unset, .unset, .unset, .unset, .unset] [(.int (5 : Int32)), (.int (5 : Int32))])) _
      refine XS.icmpYes X143.here hx rfl (pc0 := 116) (pc' := 135) rfl (hb hby at_116) rfl (flt hc144).2.2.2 (by decide) (by decide) ?_
      show Steps p.tables e below (T143.setTop (mkF m 135 #[.val (.int p0), .val (.int p1), .val (.int p2), .val (.int (5 : Int32)), .val (.ref b108), .unset, .unset, .unset, .unset, .unset, .unset, .unset] [])) _
      refine XS.iloadN X143.here hx rfl (hb hby at_135) rfl ?_
      show Steps p.tables e below (T143.setTop (mkF m 136 #[.val (.int p0), .val (.int p1), .val (.int p2), .val (.int (5 : Int32)), .val (.ref b108), .unset, .unset, .unset, .unset, .unset, .unset, .unset] [(.int (5 : Int32))])) _
      refine XS.bipush X143.here hx rfl (hb hby at_136) ?_
      show Steps p.tables e below (T143.setTop (mkF m 138 #[.val (.int p0), .val (.int p1), .val (.int p2), .val (.int (5 : Int32)), .val (.ref b108), .unset, .unset, .unset, .unset, .unset, .unset, .unset] [(.int (6 : Int32)), (.int (5 : Int32))])) _
      refine XS.icmpYes X143.here hx rfl (pc0 := 138) (pc' := 158) rfl (hb hby at_138) rfl (flt hc145).2.2.2 (by decide) (by decide) ?_
      exact k
    · skip
      obtain rfl : ln = (6 : Int32) := own_eq.mpr hk_ln
      obtain ⟨T147, h147, k147, X147, e147, E147, A147, st147⟩ := newP X0 hx hZ (hw _ (List.mem_of_getElem? (i := 1) rfl)) e0 (g := (mkF m 9 #[.val (.int p0), .val (.int p1), .val (.int p2), .val (.int (6 : Int32)), .unset, .unset, .unset, .unset, .unset, .unset, .unset, .unset] [(.int (6 : Int32))])) rfl (hb hby at_9) rfl (by decide) (cap := 6) (by decide) (by decide) (by decide) (by decide)
      obtain ⟨b147, g147⟩ : ∃ z, z = h0.size := ⟨_, rfl⟩
      rw [← g147] at A147 st147
      have g_b147 : n0 ≤ b147 := Nat.le_trans Z0 (Nat.le_of_eq g147.symm)
      skip
      have Z147 : n0 ≤ h147.size := Nat.le_trans Z0 E147.1
      have K147 : Keep h0 h147 [] := KR.ext E147
      have sz_b147 : h0.size ≤ b147 := Nat.le_trans KR.1 (Nat.le_of_eq g147.symm)
      have V147 : Arv Z h147 b147 k147 .boolean (6 : Int32) [(.int (0 : Int32)), (.int (0 : Int32)), (.int (0 : Int32)), (.int (0 : Int32)), (.int (0 : Int32)), (.int (0 : Int32))] (.int (0 : Int32)) := (Arv.new A147 (by decide)).pad (pad_rep [] (.int (0 : Int32)) 6)
      have hc148 : (0 : Int32) < (6 : Int32) := by decide
      have pre149 : ∀ t, Steps p.tables e below (T147.setTop (mkF m 20 #[.val (.int p0), .val (.int p1), .val (.int p2), .val (.int (6 : Int32)), .val (.ref b147), .unset, .unset, .unset, .unset, .unset, .unset, .unset] [(.int (0 : Int32)), (.ref b147)])) t → Steps p.tables e below (s₁.setTop (mkF m 0 #[.val (.int p0), .val (.int p1), .val (.int p2), .unset, .unset, .unset, .unset, .unset, .unset, .unset, .unset, .unset] [])) t := fun t k => pre1 t (by
        show Steps p.tables e below (s₁.setTop (mkF m 8 #[.val (.int p0), .val (.int p1), .val (.int p2), .val (.int (6 : Int32)), .unset, .unset, .unset, .unset, .unset, .unset, .unset, .unset] [])) _
        refine XS.iloadN X0.here hx rfl (hb hby at_8) rfl ?_
        show Steps p.tables e below (s₁.setTop (mkF m 9 #[.val (.int p0), .val (.int p1), .val (.int p2), .val (.int (6 : Int32)), .unset, .unset, .unset, .unset, .unset, .unset, .unset, .unset] [(.int (6 : Int32))])) _
        refine st147 _ ?_
        show Steps p.tables e below (T147.setTop (mkF m 11 #[.val (.int p0), .val (.int p1), .val (.int p2), .val (.int (6 : Int32)), .unset, .unset, .unset, .unset, .unset, .unset, .unset, .unset] [(.ref b147)])) _
        refine XS.astore X147.here hx rfl (hb hby at_11) rfl rfl (l' := #[.val (.int p0), .val (.int p1), .val (.int p2), .val (.int (6 : Int32)), .val (.ref b147), .unset, .unset, .unset, .unset, .unset, .unset, .unset]) rfl ?_
        show Steps p.tables e below (T147.setTop (mkF m 13 #[.val (.int p0), .val (.int p1), .val (.int p2), .val (.int (6 : Int32)), .val (.ref b147), .unset, .unset, .unset, .unset, .unset, .unset, .unset] [])) _
        refine XS.iloadN X147.here hx rfl (hb hby at_13) rfl ?_
        show Steps p.tables e below (T147.setTop (mkF m 14 #[.val (.int p0), .val (.int p1), .val (.int p2), .val (.int (6 : Int32)), .val (.ref b147), .unset, .unset, .unset, .unset, .unset, .unset, .unset] [(.int (6 : Int32))])) _
        refine XS.ifNo X147.here hx rfl (hb hby at_14) rfl ((if0 _ _).trans (tlt hc148).2.2.2) ?_
        show Steps p.tables e below (T147.setTop (mkF m 17 #[.val (.int p0), .val (.int p1), .val (.int p2), .val (.int (6 : Int32)), .val (.ref b147), .unset, .unset, .unset, .unset, .unset, .unset, .unset] [])) _
        refine XS.aload X147.here hx rfl (hb hby at_17) rfl rfl ?_
        show Steps p.tables e below (T147.setTop (mkF m 19 #[.val (.int p0), .val (.int p1), .val (.int p2), .val (.int (6 : Int32)), .val (.ref b147), .unset, .unset, .unset, .unset, .unset, .unset, .unset] [(.ref b147)])) _
        refine XS.iconst X147.here hx rfl (hb hby at_19) ?_
        exact k)
      obtain ⟨v0, rfl, pre150⟩ : ∃ (v0 : Int32), (v0 = bI (¬ ((p1 &&& (1 : Int32)).toInt = 0))) ∧ ∀ t, Steps p.tables e below (T147.setTop (mkF m 31 #[.val (.int p0), .val (.int p1), .val (.int p2), .val (.int (6 : Int32)), .val (.ref b147), .unset, .unset, .unset, .unset, .unset, .unset, .unset] [(.int v0), (.int (0 : Int32)), (.ref b147)])) t → Steps p.tables e below (s₁.setTop (mkF m 0 #[.val (.int p0), .val (.int p1), .val (.int p2), .unset, .unset, .unset, .unset, .unset, .unset, .unset, .unset, .unset] [])) t := by
        have pre152 : ∀ t, Steps p.tables e below (T147.setTop (mkF m 23 #[.val (.int p0), .val (.int p1), .val (.int p2), .val (.int (6 : Int32)), .val (.ref b147), .unset, .unset, .unset, .unset, .unset, .unset, .unset] [(.int (p1 &&& (1 : Int32))), (.int (0 : Int32)), (.ref b147)])) t → Steps p.tables e below (s₁.setTop (mkF m 0 #[.val (.int p0), .val (.int p1), .val (.int p2), .unset, .unset, .unset, .unset, .unset, .unset, .unset, .unset, .unset] [])) t := fun t k => pre149 t (by
          show Steps p.tables e below (T147.setTop (mkF m 20 #[.val (.int p0), .val (.int p1), .val (.int p2), .val (.int (6 : Int32)), .val (.ref b147), .unset, .unset, .unset, .unset, .unset, .unset, .unset] [(.int (0 : Int32)), (.ref b147)])) _
          refine XS.iloadN X147.here hx rfl (hb hby at_20) rfl ?_
          show Steps p.tables e below (T147.setTop (mkF m 21 #[.val (.int p0), .val (.int p1), .val (.int p2), .val (.int (6 : Int32)), .val (.ref b147), .unset, .unset, .unset, .unset, .unset, .unset, .unset] [(.int p1), (.int (0 : Int32)), (.ref b147)])) _
          refine XS.iconst X147.here hx rfl (hb hby at_21) ?_
          show Steps p.tables e below (T147.setTop (mkF m 22 #[.val (.int p0), .val (.int p1), .val (.int p2), .val (.int (6 : Int32)), .val (.ref b147), .unset, .unset, .unset, .unset, .unset, .unset, .unset] [(.int (1 : Int32)), (.int p1), (.int (0 : Int32)), (.ref b147)])) _
          refine XS.iand X147.here hx rfl (hb hby at_22) rfl ?_
          exact k)
        by_cases hc151 : (p1 &&& (1 : Int32)) = (0 : Int32)
        · skip
          have ohc151 : (p1 &&& (1 : Int32)).toInt = 0 := own_eq.mp hc151
          refine ⟨(0 : Int32), ?_, fun t k => pre152 t ?_⟩
          · exact own_c0 (by omega)
          · skip
            show Steps p.tables e below (T147.setTop (mkF m 23 #[.val (.int p0), .val (.int p1), .val (.int p2), .val (.int (6 : Int32)), .val (.ref b147), .unset, .unset, .unset, .unset, .unset, .unset, .unset] [(.int (p1 &&& (1 : Int32))), (.int (0 : Int32)), (.ref b147)])) _
            refine XS.ifYes X147.here hx rfl (pc0 := 23) (pc' := 30) rfl (hb hby at_23) rfl ((if0 _ _).trans (teq hc151).1) (by decide) (by decide) ?_
            show Steps p.tables e below (T147.setTop (mkF m 30 #[.val (.int p0), .val (.int p1), .val (.int p2), .val (.int (6 : Int32)), .val (.ref b147), .unset, .unset, .unset, .unset, .unset, .unset, .unset] [(.int (0 : Int32)), (.ref b147)])) _
            refine XS.iconst X147.here hx rfl (hb hby at_30) ?_
            exact k
        · skip
          have ohc151 : ¬ ((p1 &&& (1 : Int32)).toInt = 0) := own_neq.mp hc151
          refine ⟨(1 : Int32), ?_, fun t k => pre152 t ?_⟩
          · exact own_c1 (by omega)
          · skip
            show Steps p.tables e below (T147.setTop (mkF m 23 #[.val (.int p0), .val (.int p1), .val (.int p2), .val (.int (6 : Int32)), .val (.ref b147), .unset, .unset, .unset, .unset, .unset, .unset, .unset] [(.int (p1 &&& (1 : Int32))), (.int (0 : Int32)), (.ref b147)])) _
            refine XS.ifNo X147.here hx rfl (hb hby at_23) rfl ((if0 _ _).trans (feq hc151).1) ?_
            show Steps p.tables e below (T147.setTop (mkF m 26 #[.val (.int p0), .val (.int p1), .val (.int p2), .val (.int (6 : Int32)), .val (.ref b147), .unset, .unset, .unset, .unset, .unset, .unset, .unset] [(.int (0 : Int32)), (.ref b147)])) _
            refine XS.iconst X147.here hx rfl (hb hby at_26) ?_
            show Steps p.tables e below (T147.setTop (mkF m 27 #[.val (.int p0), .val (.int p1), .val (.int p2), .val (.int (6 : Int32)), .val (.ref b147), .unset, .unset, .unset, .unset, .unset, .unset, .unset] [(.int (1 : Int32)), (.int (0 : Int32)), (.ref b147)])) _
            refine XS.goto X147.here hx rfl (pc0 := 27) (pc' := 31) rfl (hb hby at_27) (by decide) (by decide) ?_
            exact k
      obtain ⟨cl153, Ar153, q153, Sz153, Nn153, Hh153, Gg153⟩ := id V147
      have hin153 : ¬ ((0 : Int32) < 0 ∨ cl153.slots.size ≤ ((0 : Int32)).toNatClampNeg) := inb_of Sz153 ⟨by decide, by decide⟩
      obtain ⟨T154, h154, X154, e154, W154, st154⟩ := stZ X147 hx hZ e147 Ar153 (j := (0 : Int32)) hin153 (g := (mkF m 31 #[.val (.int p0), .val (.int p1), .val (.int p2), .val (.int (6 : Int32)), .val (.ref b147), .unset, .unset, .unset, .unset, .unset, .unset, .unset] [(.int (bI (¬ ((p1 &&& (1 : Int32)).toInt = 0)))), (.int (0 : Int32)), (.ref b147)])) rfl rfl (hb hby at_31)
      have V154 : Arv Z h154 b147 k147 .boolean (6 : Int32) [(.int (nar .boolean (bI (¬ ((p1 &&& (1 : Int32)).toInt = 0))))), (.int (0 : Int32)), (.int (0 : Int32)), (.int (0 : Int32)), (.int (0 : Int32)), (.int (0 : Int32))] (.int (0 : Int32)) := Arv.set Ar153 q153 Sz153 Nn153 Hh153 Gg153 (fits_nar_bool _) W154 0 rfl (Nat.le_of_ble_eq_true rfl)
      have N154 := Fr.snoc X154 N0 g_b147
      have Z154 : n0 ≤ h154.size := Nat.le_trans Z147 (Keep.of_wr W154).1
      have K154 : Keep h0 h154 [] := K147.wr W154 (Or.inr sz_b147)
      have hc155 : (1 : Int32) < (6 : Int32) := by decide
      have pre156 : ∀ t, Steps p.tables e below (T154.setTop (mkF m 40 #[.val (.int p0), .val (.int p1), .val (.int p2), .val (.int (6 : Int32)), .val (.ref b147), .unset, .unset, .unset, .unset, .unset, .unset, .unset] [(.int (1 : Int32)), (.ref b147)])) t → Steps p.tables e below (s₁.setTop (mkF m 0 #[.val (.int p0), .val (.int p1), .val (.int p2), .unset, .unset, .unset, .unset, .unset, .unset, .unset, .unset, .unset] [])) t := fun t k => pre150 t (by
        show Steps p.tables e below (T147.setTop (mkF m 31 #[.val (.int p0), .val (.int p1), .val (.int p2), .val (.int (6 : Int32)), .val (.ref b147), .unset, .unset, .unset, .unset, .unset, .unset, .unset] [(.int (bI (¬ ((p1 &&& (1 : Int32)).toInt = 0)))), (.int (0 : Int32)), (.ref b147)])) _
        refine st154 _ ?_
        show Steps p.tables e below (T154.setTop (mkF m 32 #[.val (.int p0), .val (.int p1), .val (.int p2), .val (.int (6 : Int32)), .val (.ref b147), .unset, .unset, .unset, .unset, .unset, .unset, .unset] [])) _
        refine XS.iloadN X154.here hx rfl (hb hby at_32) rfl ?_
        show Steps p.tables e below (T154.setTop (mkF m 33 #[.val (.int p0), .val (.int p1), .val (.int p2), .val (.int (6 : Int32)), .val (.ref b147), .unset, .unset, .unset, .unset, .unset, .unset, .unset] [(.int (6 : Int32))])) _
        refine XS.iconst X154.here hx rfl (hb hby at_33) ?_
        show Steps p.tables e below (T154.setTop (mkF m 34 #[.val (.int p0), .val (.int p1), .val (.int p2), .val (.int (6 : Int32)), .val (.ref b147), .unset, .unset, .unset, .unset, .unset, .unset, .unset] [(.int (1 : Int32)), (.int (6 : Int32))])) _
        refine XS.icmpNo X154.here hx rfl (hb hby at_34) rfl (tlt hc155).2.2.2 ?_
        show Steps p.tables e below (T154.setTop (mkF m 37 #[.val (.int p0), .val (.int p1), .val (.int p2), .val (.int (6 : Int32)), .val (.ref b147), .unset, .unset, .unset, .unset, .unset, .unset, .unset] [])) _
        refine XS.aload X154.here hx rfl (hb hby at_37) rfl rfl ?_
        show Steps p.tables e below (T154.setTop (mkF m 39 #[.val (.int p0), .val (.int p1), .val (.int p2), .val (.int (6 : Int32)), .val (.ref b147), .unset, .unset, .unset, .unset, .unset, .unset, .unset] [(.ref b147)])) _
        refine XS.iconst X154.here hx rfl (hb hby at_39) ?_
        exact k)
      obtain ⟨v1, rfl, pre157⟩ : ∃ (v1 : Int32), (v1 = bI (¬ ((p1 &&& (2 : Int32)).toInt = 0))) ∧ ∀ t, Steps p.tables e below (T154.setTop (mkF m 51 #[.val (.int p0), .val (.int p1), .val (.int p2), .val (.int (6 : Int32)), .val (.ref b147), .unset, .unset, .unset, .unset, .unset, .unset, .unset] [(.int v1), (.int (1 : Int32)), (.ref b147)])) t → Steps p.tables e below (s₁.setTop (mkF m 0 #[.val (.int p0), .val (.int p1), .val (.int p2), .unset, .unset, .unset, .unset, .unset, .unset, .unset, .unset, .unset] [])) t := by
        have pre159 : ∀ t, Steps p.tables e below (T154.setTop (mkF m 43 #[.val (.int p0), .val (.int p1), .val (.int p2), .val (.int (6 : Int32)), .val (.ref b147), .unset, .unset, .unset, .unset, .unset, .unset, .unset] [(.int (p1 &&& (2 : Int32))), (.int (1 : Int32)), (.ref b147)])) t → Steps p.tables e below (s₁.setTop (mkF m 0 #[.val (.int p0), .val (.int p1), .val (.int p2), .unset, .unset, .unset, .unset, .unset, .unset, .unset, .unset, .unset] [])) t := fun t k => pre156 t (by
          show Steps p.tables e below (T154.setTop (mkF m 40 #[.val (.int p0), .val (.int p1), .val (.int p2), .val (.int (6 : Int32)), .val (.ref b147), .unset, .unset, .unset, .unset, .unset, .unset, .unset] [(.int (1 : Int32)), (.ref b147)])) _
          refine XS.iloadN X154.here hx rfl (hb hby at_40) rfl ?_
          show Steps p.tables e below (T154.setTop (mkF m 41 #[.val (.int p0), .val (.int p1), .val (.int p2), .val (.int (6 : Int32)), .val (.ref b147), .unset, .unset, .unset, .unset, .unset, .unset, .unset] [(.int p1), (.int (1 : Int32)), (.ref b147)])) _
          refine XS.iconst X154.here hx rfl (hb hby at_41) ?_
          show Steps p.tables e below (T154.setTop (mkF m 42 #[.val (.int p0), .val (.int p1), .val (.int p2), .val (.int (6 : Int32)), .val (.ref b147), .unset, .unset, .unset, .unset, .unset, .unset, .unset] [(.int (2 : Int32)), (.int p1), (.int (1 : Int32)), (.ref b147)])) _
          refine XS.iand X154.here hx rfl (hb hby at_42) rfl ?_
          exact k)
        by_cases hc158 : (p1 &&& (2 : Int32)) = (0 : Int32)
        · skip
          have ohc158 : (p1 &&& (2 : Int32)).toInt = 0 := own_eq.mp hc158
          refine ⟨(0 : Int32), ?_, fun t k => pre159 t ?_⟩
          · exact own_c0 (by omega)
          · skip
            show Steps p.tables e below (T154.setTop (mkF m 43 #[.val (.int p0), .val (.int p1), .val (.int p2), .val (.int (6 : Int32)), .val (.ref b147), .unset, .unset, .unset, .unset, .unset, .unset, .unset] [(.int (p1 &&& (2 : Int32))), (.int (1 : Int32)), (.ref b147)])) _
            refine XS.ifYes X154.here hx rfl (pc0 := 43) (pc' := 50) rfl (hb hby at_43) rfl ((if0 _ _).trans (teq hc158).1) (by decide) (by decide) ?_
            show Steps p.tables e below (T154.setTop (mkF m 50 #[.val (.int p0), .val (.int p1), .val (.int p2), .val (.int (6 : Int32)), .val (.ref b147), .unset, .unset, .unset, .unset, .unset, .unset, .unset] [(.int (1 : Int32)), (.ref b147)])) _
            refine XS.iconst X154.here hx rfl (hb hby at_50) ?_
            exact k
        · skip
          have ohc158 : ¬ ((p1 &&& (2 : Int32)).toInt = 0) := own_neq.mp hc158
          refine ⟨(1 : Int32), ?_, fun t k => pre159 t ?_⟩
          · exact own_c1 (by omega)
          · skip
            show Steps p.tables e below (T154.setTop (mkF m 43 #[.val (.int p0), .val (.int p1), .val (.int p2), .val (.int (6 : Int32)), .val (.ref b147), .unset, .unset, .unset, .unset, .unset, .unset, .unset] [(.int (p1 &&& (2 : Int32))), (.int (1 : Int32)), (.ref b147)])) _
            refine XS.ifNo X154.here hx rfl (hb hby at_43) rfl ((if0 _ _).trans (feq hc158).1) ?_
            show Steps p.tables e below (T154.setTop (mkF m 46 #[.val (.int p0), .val (.int p1), .val (.int p2), .val (.int (6 : Int32)), .val (.ref b147), .unset, .unset, .unset, .unset, .unset, .unset, .unset] [(.int (1 : Int32)), (.ref b147)])) _
            refine XS.iconst X154.here hx rfl (hb hby at_46) ?_
            show Steps p.tables e below (T154.setTop (mkF m 47 #[.val (.int p0), .val (.int p1), .val (.int p2), .val (.int (6 : Int32)), .val (.ref b147), .unset, .unset, .unset, .unset, .unset, .unset, .unset] [(.int (1 : Int32)), (.int (1 : Int32)), (.ref b147)])) _
            refine XS.goto X154.here hx rfl (pc0 := 47) (pc' := 51) rfl (hb hby at_47) (by decide) (by decide) ?_
            exact k
      obtain ⟨cl160, Ar160, q160, Sz160, Nn160, Hh160, Gg160⟩ := id V154
      have hin160 : ¬ ((1 : Int32) < 0 ∨ cl160.slots.size ≤ ((1 : Int32)).toNatClampNeg) := inb_of Sz160 ⟨by decide, by decide⟩
      obtain ⟨T161, h161, X161, e161, W161, st161⟩ := stZ X154 hx hZ e154 Ar160 (j := (1 : Int32)) hin160 (g := (mkF m 51 #[.val (.int p0), .val (.int p1), .val (.int p2), .val (.int (6 : Int32)), .val (.ref b147), .unset, .unset, .unset, .unset, .unset, .unset, .unset] [(.int (bI (¬ ((p1 &&& (2 : Int32)).toInt = 0)))), (.int (1 : Int32)), (.ref b147)])) rfl rfl (hb hby at_51)
      have V161 : Arv Z h161 b147 k147 .boolean (6 : Int32) [(.int (nar .boolean (bI (¬ ((p1 &&& (1 : Int32)).toInt = 0))))), (.int (nar .boolean (bI (¬ ((p1 &&& (2 : Int32)).toInt = 0))))), (.int (0 : Int32)), (.int (0 : Int32)), (.int (0 : Int32)), (.int (0 : Int32))] (.int (0 : Int32)) := Arv.set Ar160 q160 Sz160 Nn160 Hh160 Gg160 (fits_nar_bool _) W161 1 rfl (Nat.le_of_ble_eq_true rfl)
      have N161 := Fr.snoc X161 N154 g_b147
      have Z161 : n0 ≤ h161.size := Nat.le_trans Z154 (Keep.of_wr W161).1
      have K161 : Keep h0 h161 [] := K154.wr W161 (Or.inr sz_b147)
      have hc162 : (2 : Int32) < (6 : Int32) := by decide
      have pre163 : ∀ t, Steps p.tables e below (T161.setTop (mkF m 60 #[.val (.int p0), .val (.int p1), .val (.int p2), .val (.int (6 : Int32)), .val (.ref b147), .unset, .unset, .unset, .unset, .unset, .unset, .unset] [(.int (2 : Int32)), (.ref b147)])) t → Steps p.tables e below (s₁.setTop (mkF m 0 #[.val (.int p0), .val (.int p1), .val (.int p2), .unset, .unset, .unset, .unset, .unset, .unset, .unset, .unset, .unset] [])) t := fun t k => pre157 t (by
        show Steps p.tables e below (T154.setTop (mkF m 51 #[.val (.int p0), .val (.int p1), .val (.int p2), .val (.int (6 : Int32)), .val (.ref b147), .unset, .unset, .unset, .unset, .unset, .unset, .unset] [(.int (bI (¬ ((p1 &&& (2 : Int32)).toInt = 0)))), (.int (1 : Int32)), (.ref b147)])) _
        refine st161 _ ?_
        show Steps p.tables e below (T161.setTop (mkF m 52 #[.val (.int p0), .val (.int p1), .val (.int p2), .val (.int (6 : Int32)), .val (.ref b147), .unset, .unset, .unset, .unset, .unset, .unset, .unset] [])) _
        refine XS.iloadN X161.here hx rfl (hb hby at_52) rfl ?_
        show Steps p.tables e below (T161.setTop (mkF m 53 #[.val (.int p0), .val (.int p1), .val (.int p2), .val (.int (6 : Int32)), .val (.ref b147), .unset, .unset, .unset, .unset, .unset, .unset, .unset] [(.int (6 : Int32))])) _
        refine XS.iconst X161.here hx rfl (hb hby at_53) ?_
        show Steps p.tables e below (T161.setTop (mkF m 54 #[.val (.int p0), .val (.int p1), .val (.int p2), .val (.int (6 : Int32)), .val (.ref b147), .unset, .unset, .unset, .unset, .unset, .unset, .unset] [(.int (2 : Int32)), (.int (6 : Int32))])) _
        refine XS.icmpNo X161.here hx rfl (hb hby at_54) rfl (tlt hc162).2.2.2 ?_
        show Steps p.tables e below (T161.setTop (mkF m 57 #[.val (.int p0), .val (.int p1), .val (.int p2), .val (.int (6 : Int32)), .val (.ref b147), .unset, .unset, .unset, .unset, .unset, .unset, .unset] [])) _
        refine XS.aload X161.here hx rfl (hb hby at_57) rfl rfl ?_
        show Steps p.tables e below (T161.setTop (mkF m 59 #[.val (.int p0), .val (.int p1), .val (.int p2), .val (.int (6 : Int32)), .val (.ref b147), .unset, .unset, .unset, .unset, .unset, .unset, .unset] [(.ref b147)])) _
        refine XS.iconst X161.here hx rfl (hb hby at_59) ?_
        exact k)
      obtain ⟨v2, rfl, pre164⟩ : ∃ (v2 : Int32), (v2 = bI (¬ ((p1 &&& (4 : Int32)).toInt = 0))) ∧ ∀ t, Steps p.tables e below (T161.setTop (mkF m 71 #[.val (.int p0), .val (.int p1), .val (.int p2), .val (.int (6 : Int32)), .val (.ref b147), .unset, .unset, .unset, .unset, .unset, .unset, .unset] [(.int v2), (.int (2 : Int32)), (.ref b147)])) t → Steps p.tables e below (s₁.setTop (mkF m 0 #[.val (.int p0), .val (.int p1), .val (.int p2), .unset, .unset, .unset, .unset, .unset, .unset, .unset, .unset, .unset] [])) t := by
        have pre166 : ∀ t, Steps p.tables e below (T161.setTop (mkF m 63 #[.val (.int p0), .val (.int p1), .val (.int p2), .val (.int (6 : Int32)), .val (.ref b147), .unset, .unset, .unset, .unset, .unset, .unset, .unset] [(.int (p1 &&& (4 : Int32))), (.int (2 : Int32)), (.ref b147)])) t → Steps p.tables e below (s₁.setTop (mkF m 0 #[.val (.int p0), .val (.int p1), .val (.int p2), .unset, .unset, .unset, .unset, .unset, .unset, .unset, .unset, .unset] [])) t := fun t k => pre163 t (by
          show Steps p.tables e below (T161.setTop (mkF m 60 #[.val (.int p0), .val (.int p1), .val (.int p2), .val (.int (6 : Int32)), .val (.ref b147), .unset, .unset, .unset, .unset, .unset, .unset, .unset] [(.int (2 : Int32)), (.ref b147)])) _
          refine XS.iloadN X161.here hx rfl (hb hby at_60) rfl ?_
          show Steps p.tables e below (T161.setTop (mkF m 61 #[.val (.int p0), .val (.int p1), .val (.int p2), .val (.int (6 : Int32)), .val (.ref b147), .unset, .unset, .unset, .unset, .unset, .unset, .unset] [(.int p1), (.int (2 : Int32)), (.ref b147)])) _
          refine XS.iconst X161.here hx rfl (hb hby at_61) ?_
          show Steps p.tables e below (T161.setTop (mkF m 62 #[.val (.int p0), .val (.int p1), .val (.int p2), .val (.int (6 : Int32)), .val (.ref b147), .unset, .unset, .unset, .unset, .unset, .unset, .unset] [(.int (4 : Int32)), (.int p1), (.int (2 : Int32)), (.ref b147)])) _
          refine XS.iand X161.here hx rfl (hb hby at_62) rfl ?_
          exact k)
        by_cases hc165 : (p1 &&& (4 : Int32)) = (0 : Int32)
        · skip
          have ohc165 : (p1 &&& (4 : Int32)).toInt = 0 := own_eq.mp hc165
          refine ⟨(0 : Int32), ?_, fun t k => pre166 t ?_⟩
          · exact own_c0 (by omega)
          · skip
            show Steps p.tables e below (T161.setTop (mkF m 63 #[.val (.int p0), .val (.int p1), .val (.int p2), .val (.int (6 : Int32)), .val (.ref b147), .unset, .unset, .unset, .unset, .unset, .unset, .unset] [(.int (p1 &&& (4 : Int32))), (.int (2 : Int32)), (.ref b147)])) _
            refine XS.ifYes X161.here hx rfl (pc0 := 63) (pc' := 70) rfl (hb hby at_63) rfl ((if0 _ _).trans (teq hc165).1) (by decide) (by decide) ?_
            show Steps p.tables e below (T161.setTop (mkF m 70 #[.val (.int p0), .val (.int p1), .val (.int p2), .val (.int (6 : Int32)), .val (.ref b147), .unset, .unset, .unset, .unset, .unset, .unset, .unset] [(.int (2 : Int32)), (.ref b147)])) _
            refine XS.iconst X161.here hx rfl (hb hby at_70) ?_
            exact k
        · skip
          have ohc165 : ¬ ((p1 &&& (4 : Int32)).toInt = 0) := own_neq.mp hc165
          refine ⟨(1 : Int32), ?_, fun t k => pre166 t ?_⟩
          · exact own_c1 (by omega)
          · skip
            show Steps p.tables e below (T161.setTop (mkF m 63 #[.val (.int p0), .val (.int p1), .val (.int p2), .val (.int (6 : Int32)), .val (.ref b147), .unset, .unset, .unset, .unset, .unset, .unset, .unset] [(.int (p1 &&& (4 : Int32))), (.int (2 : Int32)), (.ref b147)])) _
            refine XS.ifNo X161.here hx rfl (hb hby at_63) rfl ((if0 _ _).trans (feq hc165).1) ?_
            show Steps p.tables e below (T161.setTop (mkF m 66 #[.val (.int p0), .val (.int p1), .val (.int p2), .val (.int (6 : Int32)), .val (.ref b147), .unset, .unset, .unset, .unset, .unset, .unset, .unset] [(.int (2 : Int32)), (.ref b147)])) _
            refine XS.iconst X161.here hx rfl (hb hby at_66) ?_
            show Steps p.tables e below (T161.setTop (mkF m 67 #[.val (.int p0), .val (.int p1), .val (.int p2), .val (.int (6 : Int32)), .val (.ref b147), .unset, .unset, .unset, .unset, .unset, .unset, .unset] [(.int (1 : Int32)), (.int (2 : Int32)), (.ref b147)])) _
            refine XS.goto X161.here hx rfl (pc0 := 67) (pc' := 71) rfl (hb hby at_67) (by decide) (by decide) ?_
            exact k
      obtain ⟨cl167, Ar167, q167, Sz167, Nn167, Hh167, Gg167⟩ := id V161
      have hin167 : ¬ ((2 : Int32) < 0 ∨ cl167.slots.size ≤ ((2 : Int32)).toNatClampNeg) := inb_of Sz167 ⟨by decide, by decide⟩
      obtain ⟨T168, h168, X168, e168, W168, st168⟩ := stZ X161 hx hZ e161 Ar167 (j := (2 : Int32)) hin167 (g := (mkF m 71 #[.val (.int p0), .val (.int p1), .val (.int p2), .val (.int (6 : Int32)), .val (.ref b147), .unset, .unset, .unset, .unset, .unset, .unset, .unset] [(.int (bI (¬ ((p1 &&& (4 : Int32)).toInt = 0)))), (.int (2 : Int32)), (.ref b147)])) rfl rfl (hb hby at_71)
      have V168 : Arv Z h168 b147 k147 .boolean (6 : Int32) [(.int (nar .boolean (bI (¬ ((p1 &&& (1 : Int32)).toInt = 0))))), (.int (nar .boolean (bI (¬ ((p1 &&& (2 : Int32)).toInt = 0))))), (.int (nar .boolean (bI (¬ ((p1 &&& (4 : Int32)).toInt = 0))))), (.int (0 : Int32)), (.int (0 : Int32)), (.int (0 : Int32))] (.int (0 : Int32)) := Arv.set Ar167 q167 Sz167 Nn167 Hh167 Gg167 (fits_nar_bool _) W168 2 rfl (Nat.le_of_ble_eq_true rfl)
      have N168 := Fr.snoc X168 N161 g_b147
      have Z168 : n0 ≤ h168.size := Nat.le_trans Z161 (Keep.of_wr W168).1
      have K168 : Keep h0 h168 [] := K161.wr W168 (Or.inr sz_b147)
      have hc169 : (3 : Int32) < (6 : Int32) := by decide
      have pre170 : ∀ t, Steps p.tables e below (T168.setTop (mkF m 80 #[.val (.int p0), .val (.int p1), .val (.int p2), .val (.int (6 : Int32)), .val (.ref b147), .unset, .unset, .unset, .unset, .unset, .unset, .unset] [(.int (3 : Int32)), (.ref b147)])) t → Steps p.tables e below (s₁.setTop (mkF m 0 #[.val (.int p0), .val (.int p1), .val (.int p2), .unset, .unset, .unset, .unset, .unset, .unset, .unset, .unset, .unset] [])) t := fun t k => pre164 t (by
        show Steps p.tables e below (T161.setTop (mkF m 71 #[.val (.int p0), .val (.int p1), .val (.int p2), .val (.int (6 : Int32)), .val (.ref b147), .unset, .unset, .unset, .unset, .unset, .unset, .unset] [(.int (bI (¬ ((p1 &&& (4 : Int32)).toInt = 0)))), (.int (2 : Int32)), (.ref b147)])) _
        refine st168 _ ?_
        show Steps p.tables e below (T168.setTop (mkF m 72 #[.val (.int p0), .val (.int p1), .val (.int p2), .val (.int (6 : Int32)), .val (.ref b147), .unset, .unset, .unset, .unset, .unset, .unset, .unset] [])) _
        refine XS.iloadN X168.here hx rfl (hb hby at_72) rfl ?_
        show Steps p.tables e below (T168.setTop (mkF m 73 #[.val (.int p0), .val (.int p1), .val (.int p2), .val (.int (6 : Int32)), .val (.ref b147), .unset, .unset, .unset, .unset, .unset, .unset, .unset] [(.int (6 : Int32))])) _
        refine XS.iconst X168.here hx rfl (hb hby at_73) ?_
        show Steps p.tables e below (T168.setTop (mkF m 74 #[.val (.int p0), .val (.int p1), .val (.int p2), .val (.int (6 : Int32)), .val (.ref b147), .unset, .unset, .unset, .unset, .unset, .unset, .unset] [(.int (3 : Int32)), (.int (6 : Int32))])) _
        refine XS.icmpNo X168.here hx rfl (hb hby at_74) rfl (tlt hc169).2.2.2 ?_
        show Steps p.tables e below (T168.setTop (mkF m 77 #[.val (.int p0), .val (.int p1), .val (.int p2), .val (.int (6 : Int32)), .val (.ref b147), .unset, .unset, .unset, .unset, .unset, .unset, .unset] [])) _
        refine XS.aload X168.here hx rfl (hb hby at_77) rfl rfl ?_
        show Steps p.tables e below (T168.setTop (mkF m 79 #[.val (.int p0), .val (.int p1), .val (.int p2), .val (.int (6 : Int32)), .val (.ref b147), .unset, .unset, .unset, .unset, .unset, .unset, .unset] [(.ref b147)])) _
        refine XS.iconst X168.here hx rfl (hb hby at_79) ?_
        exact k)
      obtain ⟨v3, rfl, pre171⟩ : ∃ (v3 : Int32), (v3 = bI (¬ ((p1 &&& (8 : Int32)).toInt = 0))) ∧ ∀ t, Steps p.tables e below (T168.setTop (mkF m 92 #[.val (.int p0), .val (.int p1), .val (.int p2), .val (.int (6 : Int32)), .val (.ref b147), .unset, .unset, .unset, .unset, .unset, .unset, .unset] [(.int v3), (.int (3 : Int32)), (.ref b147)])) t → Steps p.tables e below (s₁.setTop (mkF m 0 #[.val (.int p0), .val (.int p1), .val (.int p2), .unset, .unset, .unset, .unset, .unset, .unset, .unset, .unset, .unset] [])) t := by
        have pre173 : ∀ t, Steps p.tables e below (T168.setTop (mkF m 84 #[.val (.int p0), .val (.int p1), .val (.int p2), .val (.int (6 : Int32)), .val (.ref b147), .unset, .unset, .unset, .unset, .unset, .unset, .unset] [(.int (p1 &&& (8 : Int32))), (.int (3 : Int32)), (.ref b147)])) t → Steps p.tables e below (s₁.setTop (mkF m 0 #[.val (.int p0), .val (.int p1), .val (.int p2), .unset, .unset, .unset, .unset, .unset, .unset, .unset, .unset, .unset] [])) t := fun t k => pre170 t (by
          show Steps p.tables e below (T168.setTop (mkF m 80 #[.val (.int p0), .val (.int p1), .val (.int p2), .val (.int (6 : Int32)), .val (.ref b147), .unset, .unset, .unset, .unset, .unset, .unset, .unset] [(.int (3 : Int32)), (.ref b147)])) _
          refine XS.iloadN X168.here hx rfl (hb hby at_80) rfl ?_
          show Steps p.tables e below (T168.setTop (mkF m 81 #[.val (.int p0), .val (.int p1), .val (.int p2), .val (.int (6 : Int32)), .val (.ref b147), .unset, .unset, .unset, .unset, .unset, .unset, .unset] [(.int p1), (.int (3 : Int32)), (.ref b147)])) _
          refine XS.bipush X168.here hx rfl (hb hby at_81) ?_
          show Steps p.tables e below (T168.setTop (mkF m 83 #[.val (.int p0), .val (.int p1), .val (.int p2), .val (.int (6 : Int32)), .val (.ref b147), .unset, .unset, .unset, .unset, .unset, .unset, .unset] [(.int (8 : Int32)), (.int p1), (.int (3 : Int32)), (.ref b147)])) _
          refine XS.iand X168.here hx rfl (hb hby at_83) rfl ?_
          exact k)
        by_cases hc172 : (p1 &&& (8 : Int32)) = (0 : Int32)
        · skip
          have ohc172 : (p1 &&& (8 : Int32)).toInt = 0 := own_eq.mp hc172
          refine ⟨(0 : Int32), ?_, fun t k => pre173 t ?_⟩
          · exact own_c0 (by omega)
          · skip
            show Steps p.tables e below (T168.setTop (mkF m 84 #[.val (.int p0), .val (.int p1), .val (.int p2), .val (.int (6 : Int32)), .val (.ref b147), .unset, .unset, .unset, .unset, .unset, .unset, .unset] [(.int (p1 &&& (8 : Int32))), (.int (3 : Int32)), (.ref b147)])) _
            refine XS.ifYes X168.here hx rfl (pc0 := 84) (pc' := 91) rfl (hb hby at_84) rfl ((if0 _ _).trans (teq hc172).1) (by decide) (by decide) ?_
            show Steps p.tables e below (T168.setTop (mkF m 91 #[.val (.int p0), .val (.int p1), .val (.int p2), .val (.int (6 : Int32)), .val (.ref b147), .unset, .unset, .unset, .unset, .unset, .unset, .unset] [(.int (3 : Int32)), (.ref b147)])) _
            refine XS.iconst X168.here hx rfl (hb hby at_91) ?_
            exact k
        · skip
          have ohc172 : ¬ ((p1 &&& (8 : Int32)).toInt = 0) := own_neq.mp hc172
          refine ⟨(1 : Int32), ?_, fun t k => pre173 t ?_⟩
          · exact own_c1 (by omega)
          · skip
            show Steps p.tables e below (T168.setTop (mkF m 84 #[.val (.int p0), .val (.int p1), .val (.int p2), .val (.int (6 : Int32)), .val (.ref b147), .unset, .unset, .unset, .unset, .unset, .unset, .unset] [(.int (p1 &&& (8 : Int32))), (.int (3 : Int32)), (.ref b147)])) _
            refine XS.ifNo X168.here hx rfl (hb hby at_84) rfl ((if0 _ _).trans (feq hc172).1) ?_
            show Steps p.tables e below (T168.setTop (mkF m 87 #[.val (.int p0), .val (.int p1), .val (.int p2), .val (.int (6 : Int32)), .val (.ref b147), .unset, .unset, .unset, .unset, .unset, .unset, .unset] [(.int (3 : Int32)), (.ref b147)])) _
            refine XS.iconst X168.here hx rfl (hb hby at_87) ?_
            show Steps p.tables e below (T168.setTop (mkF m 88 #[.val (.int p0), .val (.int p1), .val (.int p2), .val (.int (6 : Int32)), .val (.ref b147), .unset, .unset, .unset, .unset, .unset, .unset, .unset] [(.int (1 : Int32)), (.int (3 : Int32)), (.ref b147)])) _
            refine XS.goto X168.here hx rfl (pc0 := 88) (pc' := 92) rfl (hb hby at_88) (by decide) (by decide) ?_
            exact k
      obtain ⟨cl174, Ar174, q174, Sz174, Nn174, Hh174, Gg174⟩ := id V168
      have hin174 : ¬ ((3 : Int32) < 0 ∨ cl174.slots.size ≤ ((3 : Int32)).toNatClampNeg) := inb_of Sz174 ⟨by decide, by decide⟩
      obtain ⟨T175, h175, X175, e175, W175, st175⟩ := stZ X168 hx hZ e168 Ar174 (j := (3 : Int32)) hin174 (g := (mkF m 92 #[.val (.int p0), .val (.int p1), .val (.int p2), .val (.int (6 : Int32)), .val (.ref b147), .unset, .unset, .unset, .unset, .unset, .unset, .unset] [(.int (bI (¬ ((p1 &&& (8 : Int32)).toInt = 0)))), (.int (3 : Int32)), (.ref b147)])) rfl rfl (hb hby at_92)
      have V175 : Arv Z h175 b147 k147 .boolean (6 : Int32) [(.int (nar .boolean (bI (¬ ((p1 &&& (1 : Int32)).toInt = 0))))), (.int (nar .boolean (bI (¬ ((p1 &&& (2 : Int32)).toInt = 0))))), (.int (nar .boolean (bI (¬ ((p1 &&& (4 : Int32)).toInt = 0))))), (.int (nar .boolean (bI (¬ ((p1 &&& (8 : Int32)).toInt = 0))))), (.int (0 : Int32)), (.int (0 : Int32))] (.int (0 : Int32)) := Arv.set Ar174 q174 Sz174 Nn174 Hh174 Gg174 (fits_nar_bool _) W175 3 rfl (Nat.le_of_ble_eq_true rfl)
      have N175 := Fr.snoc X175 N168 g_b147
      have Z175 : n0 ≤ h175.size := Nat.le_trans Z168 (Keep.of_wr W175).1
      have K175 : Keep h0 h175 [] := K168.wr W175 (Or.inr sz_b147)
      have hc176 : (4 : Int32) < (6 : Int32) := by decide
      have pre177 : ∀ t, Steps p.tables e below (T175.setTop (mkF m 101 #[.val (.int p0), .val (.int p1), .val (.int p2), .val (.int (6 : Int32)), .val (.ref b147), .unset, .unset, .unset, .unset, .unset, .unset, .unset] [(.int (4 : Int32)), (.ref b147)])) t → Steps p.tables e below (s₁.setTop (mkF m 0 #[.val (.int p0), .val (.int p1), .val (.int p2), .unset, .unset, .unset, .unset, .unset, .unset, .unset, .unset, .unset] [])) t := fun t k => pre171 t (by
        show Steps p.tables e below (T168.setTop (mkF m 92 #[.val (.int p0), .val (.int p1), .val (.int p2), .val (.int (6 : Int32)), .val (.ref b147), .unset, .unset, .unset, .unset, .unset, .unset, .unset] [(.int (bI (¬ ((p1 &&& (8 : Int32)).toInt = 0)))), (.int (3 : Int32)), (.ref b147)])) _
        refine st175 _ ?_
        show Steps p.tables e below (T175.setTop (mkF m 93 #[.val (.int p0), .val (.int p1), .val (.int p2), .val (.int (6 : Int32)), .val (.ref b147), .unset, .unset, .unset, .unset, .unset, .unset, .unset] [])) _
        refine XS.iloadN X175.here hx rfl (hb hby at_93) rfl ?_
        show Steps p.tables e below (T175.setTop (mkF m 94 #[.val (.int p0), .val (.int p1), .val (.int p2), .val (.int (6 : Int32)), .val (.ref b147), .unset, .unset, .unset, .unset, .unset, .unset, .unset] [(.int (6 : Int32))])) _
        refine XS.iconst X175.here hx rfl (hb hby at_94) ?_
        show Steps p.tables e below (T175.setTop (mkF m 95 #[.val (.int p0), .val (.int p1), .val (.int p2), .val (.int (6 : Int32)), .val (.ref b147), .unset, .unset, .unset, .unset, .unset, .unset, .unset] [(.int (4 : Int32)), (.int (6 : Int32))])) _
        refine XS.icmpNo X175.here hx rfl (hb hby at_95) rfl (tlt hc176).2.2.2 ?_
        show Steps p.tables e below (T175.setTop (mkF m 98 #[.val (.int p0), .val (.int p1), .val (.int p2), .val (.int (6 : Int32)), .val (.ref b147), .unset, .unset, .unset, .unset, .unset, .unset, .unset] [])) _
        refine XS.aload X175.here hx rfl (hb hby at_98) rfl rfl ?_
        show Steps p.tables e below (T175.setTop (mkF m 100 #[.val (.int p0), .val (.int p1), .val (.int p2), .val (.int (6 : Int32)), .val (.ref b147), .unset, .unset, .unset, .unset, .unset, .unset, .unset] [(.ref b147)])) _
        refine XS.iconst X175.here hx rfl (hb hby at_100) ?_
        exact k)
      obtain ⟨v4, rfl, pre178⟩ : ∃ (v4 : Int32), (v4 = bI (¬ ((p1 &&& (16 : Int32)).toInt = 0))) ∧ ∀ t, Steps p.tables e below (T175.setTop (mkF m 113 #[.val (.int p0), .val (.int p1), .val (.int p2), .val (.int (6 : Int32)), .val (.ref b147), .unset, .unset, .unset, .unset, .unset, .unset, .unset] [(.int v4), (.int (4 : Int32)), (.ref b147)])) t → Steps p.tables e below (s₁.setTop (mkF m 0 #[.val (.int p0), .val (.int p1), .val (.int p2), .unset, .unset, .unset, .unset, .unset, .unset, .unset, .unset, .unset] [])) t := by
        have pre180 : ∀ t, Steps p.tables e below (T175.setTop (mkF m 105 #[.val (.int p0), .val (.int p1), .val (.int p2), .val (.int (6 : Int32)), .val (.ref b147), .unset, .unset, .unset, .unset, .unset, .unset, .unset] [(.int (p1 &&& (16 : Int32))), (.int (4 : Int32)), (.ref b147)])) t → Steps p.tables e below (s₁.setTop (mkF m 0 #[.val (.int p0), .val (.int p1), .val (.int p2), .unset, .unset, .unset, .unset, .unset, .unset, .unset, .unset, .unset] [])) t := fun t k => pre177 t (by
          show Steps p.tables e below (T175.setTop (mkF m 101 #[.val (.int p0), .val (.int p1), .val (.int p2), .val (.int (6 : Int32)), .val (.ref b147), .unset, .unset, .unset, .unset, .unset, .unset, .unset] [(.int (4 : Int32)), (.ref b147)])) _
          refine XS.iloadN X175.here hx rfl (hb hby at_101) rfl ?_
          show Steps p.tables e below (T175.setTop (mkF m 102 #[.val (.int p0), .val (.int p1), .val (.int p2), .val (.int (6 : Int32)), .val (.ref b147), .unset, .unset, .unset, .unset, .unset, .unset, .unset] [(.int p1), (.int (4 : Int32)), (.ref b147)])) _
          refine XS.bipush X175.here hx rfl (hb hby at_102) ?_
          show Steps p.tables e below (T175.setTop (mkF m 104 #[.val (.int p0), .val (.int p1), .val (.int p2), .val (.int (6 : Int32)), .val (.ref b147), .unset, .unset, .unset, .unset, .unset, .unset, .unset] [(.int (16 : Int32)), (.int p1), (.int (4 : Int32)), (.ref b147)])) _
          refine XS.iand X175.here hx rfl (hb hby at_104) rfl ?_
          exact k)
        by_cases hc179 : (p1 &&& (16 : Int32)) = (0 : Int32)
        · skip
          have ohc179 : (p1 &&& (16 : Int32)).toInt = 0 := own_eq.mp hc179
          refine ⟨(0 : Int32), ?_, fun t k => pre180 t ?_⟩
          · exact own_c0 (by omega)
          · skip
            show Steps p.tables e below (T175.setTop (mkF m 105 #[.val (.int p0), .val (.int p1), .val (.int p2), .val (.int (6 : Int32)), .val (.ref b147), .unset, .unset, .unset, .unset, .unset, .unset, .unset] [(.int (p1 &&& (16 : Int32))), (.int (4 : Int32)), (.ref b147)])) _
            refine XS.ifYes X175.here hx rfl (pc0 := 105) (pc' := 112) rfl (hb hby at_105) rfl ((if0 _ _).trans (teq hc179).1) (by decide) (by decide) ?_
            show Steps p.tables e below (T175.setTop (mkF m 112 #[.val (.int p0), .val (.int p1), .val (.int p2), .val (.int (6 : Int32)), .val (.ref b147), .unset, .unset, .unset, .unset, .unset, .unset, .unset] [(.int (4 : Int32)), (.ref b147)])) _
            refine XS.iconst X175.here hx rfl (hb hby at_112) ?_
            exact k
        · skip
          have ohc179 : ¬ ((p1 &&& (16 : Int32)).toInt = 0) := own_neq.mp hc179
          refine ⟨(1 : Int32), ?_, fun t k => pre180 t ?_⟩
          · exact own_c1 (by omega)
          · skip
            show Steps p.tables e below (T175.setTop (mkF m 105 #[.val (.int p0), .val (.int p1), .val (.int p2), .val (.int (6 : Int32)), .val (.ref b147), .unset, .unset, .unset, .unset, .unset, .unset, .unset] [(.int (p1 &&& (16 : Int32))), (.int (4 : Int32)), (.ref b147)])) _
            refine XS.ifNo X175.here hx rfl (hb hby at_105) rfl ((if0 _ _).trans (feq hc179).1) ?_
            show Steps p.tables e below (T175.setTop (mkF m 108 #[.val (.int p0), .val (.int p1), .val (.int p2), .val (.int (6 : Int32)), .val (.ref b147), .unset, .unset, .unset, .unset, .unset, .unset, .unset] [(.int (4 : Int32)), (.ref b147)])) _
            refine XS.iconst X175.here hx rfl (hb hby at_108) ?_
            show Steps p.tables e below (T175.setTop (mkF m 109 #[.val (.int p0), .val (.int p1), .val (.int p2), .val (.int (6 : Int32)), .val (.ref b147), .unset, .unset, .unset, .unset, .unset, .unset, .unset] [(.int (1 : Int32)), (.int (4 : Int32)), (.ref b147)])) _
            refine XS.goto X175.here hx rfl (pc0 := 109) (pc' := 113) rfl (hb hby at_109) (by decide) (by decide) ?_
            exact k
      obtain ⟨cl181, Ar181, q181, Sz181, Nn181, Hh181, Gg181⟩ := id V175
      have hin181 : ¬ ((4 : Int32) < 0 ∨ cl181.slots.size ≤ ((4 : Int32)).toNatClampNeg) := inb_of Sz181 ⟨by decide, by decide⟩
      obtain ⟨T182, h182, X182, e182, W182, st182⟩ := stZ X175 hx hZ e175 Ar181 (j := (4 : Int32)) hin181 (g := (mkF m 113 #[.val (.int p0), .val (.int p1), .val (.int p2), .val (.int (6 : Int32)), .val (.ref b147), .unset, .unset, .unset, .unset, .unset, .unset, .unset] [(.int (bI (¬ ((p1 &&& (16 : Int32)).toInt = 0)))), (.int (4 : Int32)), (.ref b147)])) rfl rfl (hb hby at_113)
      have V182 : Arv Z h182 b147 k147 .boolean (6 : Int32) [(.int (nar .boolean (bI (¬ ((p1 &&& (1 : Int32)).toInt = 0))))), (.int (nar .boolean (bI (¬ ((p1 &&& (2 : Int32)).toInt = 0))))), (.int (nar .boolean (bI (¬ ((p1 &&& (4 : Int32)).toInt = 0))))), (.int (nar .boolean (bI (¬ ((p1 &&& (8 : Int32)).toInt = 0))))), (.int (nar .boolean (bI (¬ ((p1 &&& (16 : Int32)).toInt = 0))))), (.int (0 : Int32))] (.int (0 : Int32)) := Arv.set Ar181 q181 Sz181 Nn181 Hh181 Gg181 (fits_nar_bool _) W182 4 rfl (Nat.le_of_ble_eq_true rfl)
      have N182 := Fr.snoc X182 N175 g_b147
      have Z182 : n0 ≤ h182.size := Nat.le_trans Z175 (Keep.of_wr W182).1
      have K182 : Keep h0 h182 [] := K175.wr W182 (Or.inr sz_b147)
      have hc183 : (5 : Int32) < (6 : Int32) := by decide
      have pre184 : ∀ t, Steps p.tables e below (T182.setTop (mkF m 122 #[.val (.int p0), .val (.int p1), .val (.int p2), .val (.int (6 : Int32)), .val (.ref b147), .unset, .unset, .unset, .unset, .unset, .unset, .unset] [(.int (5 : Int32)), (.ref b147)])) t → Steps p.tables e below (s₁.setTop (mkF m 0 #[.val (.int p0), .val (.int p1), .val (.int p2), .unset, .unset, .unset, .unset, .unset, .unset, .unset, .unset, .unset] [])) t := fun t k => pre178 t (by
        show Steps p.tables e below (T175.setTop (mkF m 113 #[.val (.int p0), .val (.int p1), .val (.int p2), .val (.int (6 : Int32)), .val (.ref b147), .unset, .unset, .unset, .unset, .unset, .unset, .unset] [(.int (bI (¬ ((p1 &&& (16 : Int32)).toInt = 0)))), (.int (4 : Int32)), (.ref b147)])) _
        refine st182 _ ?_
        show Steps p.tables e below (T182.setTop (mkF m 114 #[.val (.int p0), .val (.int p1), .val (.int p2), .val (.int (6 : Int32)), .val (.ref b147), .unset, .unset, .unset, .unset, .unset, .unset, .unset] [])) _
        refine XS.iloadN X182.here hx rfl (hb hby at_114) rfl ?_
        show Steps p.tables e below (T182.setTop (mkF m 115 #[.val (.int p0), .val (.int p1), .val (.int p2), .val (.int (6 : Int32)), .val (.ref b147), .unset, .unset, .unset, .unset, .unset, .unset, .unset] [(.int (6 : Int32))])) _
        refine XS.iconst X182.here hx rfl (hb hby at_115) ?_
        show Steps p.tables e below (T182.setTop (mkF m 116 #[.val (.int p0), .val (.int p1), .val (.int p2), .val (.int (6 : Int32)), .val (.ref b147), .unset, .unset, .unset, .unset, .unset, .unset, .unset] [(.int (5 : Int32)), (.int (6 : Int32))])) _
        refine XS.icmpNo X182.here hx rfl (hb hby at_116) rfl (tlt hc183).2.2.2 ?_
        show Steps p.tables e below (T182.setTop (mkF m 119 #[.val (.int p0), .val (.int p1), .val (.int p2), .val (.int (6 : Int32)), .val (.ref b147), .unset, .unset, .unset, .unset, .unset, .unset, .unset] [])) _
        refine XS.aload X182.here hx rfl (hb hby at_119) rfl rfl ?_
        show Steps p.tables e below (T182.setTop (mkF m 121 #[.val (.int p0), .val (.int p1), .val (.int p2), .val (.int (6 : Int32)), .val (.ref b147), .unset, .unset, .unset, .unset, .unset, .unset, .unset] [(.ref b147)])) _
        refine XS.iconst X182.here hx rfl (hb hby at_121) ?_
        exact k)
      obtain ⟨v5, rfl, pre185⟩ : ∃ (v5 : Int32), (v5 = bI (¬ ((p1 &&& (32 : Int32)).toInt = 0))) ∧ ∀ t, Steps p.tables e below (T182.setTop (mkF m 134 #[.val (.int p0), .val (.int p1), .val (.int p2), .val (.int (6 : Int32)), .val (.ref b147), .unset, .unset, .unset, .unset, .unset, .unset, .unset] [(.int v5), (.int (5 : Int32)), (.ref b147)])) t → Steps p.tables e below (s₁.setTop (mkF m 0 #[.val (.int p0), .val (.int p1), .val (.int p2), .unset, .unset, .unset, .unset, .unset, .unset, .unset, .unset, .unset] [])) t := by
        have pre187 : ∀ t, Steps p.tables e below (T182.setTop (mkF m 126 #[.val (.int p0), .val (.int p1), .val (.int p2), .val (.int (6 : Int32)), .val (.ref b147), .unset, .unset, .unset, .unset, .unset, .unset, .unset] [(.int (p1 &&& (32 : Int32))), (.int (5 : Int32)), (.ref b147)])) t → Steps p.tables e below (s₁.setTop (mkF m 0 #[.val (.int p0), .val (.int p1), .val (.int p2), .unset, .unset, .unset, .unset, .unset, .unset, .unset, .unset, .unset] [])) t := fun t k => pre184 t (by
          show Steps p.tables e below (T182.setTop (mkF m 122 #[.val (.int p0), .val (.int p1), .val (.int p2), .val (.int (6 : Int32)), .val (.ref b147), .unset, .unset, .unset, .unset, .unset, .unset, .unset] [(.int (5 : Int32)), (.ref b147)])) _
          refine XS.iloadN X182.here hx rfl (hb hby at_122) rfl ?_
          show Steps p.tables e below (T182.setTop (mkF m 123 #[.val (.int p0), .val (.int p1), .val (.int p2), .val (.int (6 : Int32)), .val (.ref b147), .unset, .unset, .unset, .unset, .unset, .unset, .unset] [(.int p1), (.int (5 : Int32)), (.ref b147)])) _
          refine XS.bipush X182.here hx rfl (hb hby at_123) ?_
          show Steps p.tables e below (T182.setTop (mkF m 125 #[.val (.int p0), .val (.int p1), .val (.int p2), .val (.int (6 : Int32)), .val (.ref b147), .unset, .unset, .unset, .unset, .unset, .unset, .unset] [(.int (32 : Int32)), (.int p1), (.int (5 : Int32)), (.ref b147)])) _
          refine XS.iand X182.here hx rfl (hb hby at_125) rfl ?_
          exact k)
        by_cases hc186 : (p1 &&& (32 : Int32)) = (0 : Int32)
        · skip
          have ohc186 : (p1 &&& (32 : Int32)).toInt = 0 := own_eq.mp hc186
          refine ⟨(0 : Int32), ?_, fun t k => pre187 t ?_⟩
          · exact own_c0 (by omega)
          · skip
            show Steps p.tables e below (T182.setTop (mkF m 126 #[.val (.int p0), .val (.int p1), .val (.int p2), .val (.int (6 : Int32)), .val (.ref b147), .unset, .unset, .unset, .unset, .unset, .unset, .unset] [(.int (p1 &&& (32 : Int32))), (.int (5 : Int32)), (.ref b147)])) _
            refine XS.ifYes X182.here hx rfl (pc0 := 126) (pc' := 133) rfl (hb hby at_126) rfl ((if0 _ _).trans (teq hc186).1) (by decide) (by decide) ?_
            show Steps p.tables e below (T182.setTop (mkF m 133 #[.val (.int p0), .val (.int p1), .val (.int p2), .val (.int (6 : Int32)), .val (.ref b147), .unset, .unset, .unset, .unset, .unset, .unset, .unset] [(.int (5 : Int32)), (.ref b147)])) _
            refine XS.iconst X182.here hx rfl (hb hby at_133) ?_
            exact k
        · skip
          have ohc186 : ¬ ((p1 &&& (32 : Int32)).toInt = 0) := own_neq.mp hc186
          refine ⟨(1 : Int32), ?_, fun t k => pre187 t ?_⟩
          · exact own_c1 (by omega)
          · skip
            show Steps p.tables e below (T182.setTop (mkF m 126 #[.val (.int p0), .val (.int p1), .val (.int p2), .val (.int (6 : Int32)), .val (.ref b147), .unset, .unset, .unset, .unset, .unset, .unset, .unset] [(.int (p1 &&& (32 : Int32))), (.int (5 : Int32)), (.ref b147)])) _
            refine XS.ifNo X182.here hx rfl (hb hby at_126) rfl ((if0 _ _).trans (feq hc186).1) ?_
            show Steps p.tables e below (T182.setTop (mkF m 129 #[.val (.int p0), .val (.int p1), .val (.int p2), .val (.int (6 : Int32)), .val (.ref b147), .unset, .unset, .unset, .unset, .unset, .unset, .unset] [(.int (5 : Int32)), (.ref b147)])) _
            refine XS.iconst X182.here hx rfl (hb hby at_129) ?_
            show Steps p.tables e below (T182.setTop (mkF m 130 #[.val (.int p0), .val (.int p1), .val (.int p2), .val (.int (6 : Int32)), .val (.ref b147), .unset, .unset, .unset, .unset, .unset, .unset, .unset] [(.int (1 : Int32)), (.int (5 : Int32)), (.ref b147)])) _
            refine XS.goto X182.here hx rfl (pc0 := 130) (pc' := 134) rfl (hb hby at_130) (by decide) (by decide) ?_
            exact k
      obtain ⟨cl188, Ar188, q188, Sz188, Nn188, Hh188, Gg188⟩ := id V182
      have hin188 : ¬ ((5 : Int32) < 0 ∨ cl188.slots.size ≤ ((5 : Int32)).toNatClampNeg) := inb_of Sz188 ⟨by decide, by decide⟩
      obtain ⟨T189, h189, X189, e189, W189, st189⟩ := stZ X182 hx hZ e182 Ar188 (j := (5 : Int32)) hin188 (g := (mkF m 134 #[.val (.int p0), .val (.int p1), .val (.int p2), .val (.int (6 : Int32)), .val (.ref b147), .unset, .unset, .unset, .unset, .unset, .unset, .unset] [(.int (bI (¬ ((p1 &&& (32 : Int32)).toInt = 0)))), (.int (5 : Int32)), (.ref b147)])) rfl rfl (hb hby at_134)
      have V189 : Arv Z h189 b147 k147 .boolean (6 : Int32) [(.int (nar .boolean (bI (¬ ((p1 &&& (1 : Int32)).toInt = 0))))), (.int (nar .boolean (bI (¬ ((p1 &&& (2 : Int32)).toInt = 0))))), (.int (nar .boolean (bI (¬ ((p1 &&& (4 : Int32)).toInt = 0))))), (.int (nar .boolean (bI (¬ ((p1 &&& (8 : Int32)).toInt = 0))))), (.int (nar .boolean (bI (¬ ((p1 &&& (16 : Int32)).toInt = 0))))), (.int (nar .boolean (bI (¬ ((p1 &&& (32 : Int32)).toInt = 0)))))] (.int (0 : Int32)) := Arv.set Ar188 q188 Sz188 Nn188 Hh188 Gg188 (fits_nar_bool _) W189 5 rfl (Nat.le_of_ble_eq_true rfl)
      have N189 := Fr.snoc X189 N182 g_b147
      have Z189 : n0 ≤ h189.size := Nat.le_trans Z182 (Keep.of_wr W189).1
      have K189 : Keep h0 h189 [] := K182.wr W189 (Or.inr sz_b147)
      have hc190 : ¬ ((6 : Int32) < (6 : Int32)) := by decide
      obtain ⟨cl191, Ar191, -, Sz191, -, Hh191, -⟩ := V189
      refine ⟨b147, cl191, T189, _, h189, X189.more (by decide) (by decide), e189, N189, Z189, K189, ⟨Ar191, Sz191, fun j hj => by
        have q := Hh191 j (by rw [Sz191]; exact hj)
        have hj' : j < 6 := hj
        rcases (show j = 0 ∨ j = 1 ∨ j = 2 ∨ j = 3 ∨ j = 4 ∨ j = 5 by omega) with rfl | rfl | rfl | rfl | rfl | rfl
        · exact q.trans (congrArg (fun z => some (Value.int z)) (own_nar (P := ¬ ((p1 &&& (1 : Int32)).toInt = 0))))
        · exact q.trans (congrArg (fun z => some (Value.int z)) (own_nar (P := ¬ ((p1 &&& (2 : Int32)).toInt = 0))))
        · exact q.trans (congrArg (fun z => some (Value.int z)) (own_nar (P := ¬ ((p1 &&& (4 : Int32)).toInt = 0))))
        · exact q.trans (congrArg (fun z => some (Value.int z)) (own_nar (P := ¬ ((p1 &&& (8 : Int32)).toInt = 0))))
        · exact q.trans (congrArg (fun z => some (Value.int z)) (own_nar (P := ¬ ((p1 &&& (16 : Int32)).toInt = 0))))
        · exact q.trans (congrArg (fun z => some (Value.int z)) (own_nar (P := ¬ ((p1 &&& (32 : Int32)).toInt = 0))))⟩, fun t k => pre185 t ?_⟩
      show Steps p.tables e below (T182.setTop (mkF m 134 #[.val (.int p0), .val (.int p1), .val (.int p2), .val (.int (6 : Int32)), .val (.ref b147), .unset, .unset, .unset, .unset, .unset, .unset, .unset] [(.int (bI (¬ ((p1 &&& (32 : Int32)).toInt = 0)))), (.int (5 : Int32)), (.ref b147)])) _
      refine st189 _ ?_
      show Steps p.tables e below (T189.setTop (mkF m 135 #[.val (.int p0), .val (.int p1), .val (.int p2), .val (.int (6 : Int32)), .val (.ref b147), .unset, .unset, .unset, .unset, .unset, .unset, .unset] [])) _
      refine XS.iloadN X189.here hx rfl (hb hby at_135) rfl ?_
      show Steps p.tables e below (T189.setTop (mkF m 136 #[.val (.int p0), .val (.int p1), .val (.int p2), .val (.int (6 : Int32)), .val (.ref b147), .unset, .unset, .unset, .unset, .unset, .unset, .unset] [(.int (6 : Int32))])) _
      refine XS.bipush X189.here hx rfl (hb hby at_136) ?_
      show Steps p.tables e below (T189.setTop (mkF m 138 #[.val (.int p0), .val (.int p1), .val (.int p2), .val (.int (6 : Int32)), .val (.ref b147), .unset, .unset, .unset, .unset, .unset, .unset, .unset] [(.int (6 : Int32)), (.int (6 : Int32))])) _
      refine XS.icmpYes X189.here hx rfl (pc0 := 138) (pc' := 158) rfl (hb hby at_138) rfl (flt hc190).2.2.2 (by decide) (by decide) ?_
      exact k
    · skip
      obtain rfl : ln = (7 : Int32) := own_eq.mpr hk_ln
      obtain ⟨T192, h192, k192, X192, e192, E192, A192, st192⟩ := newP X0 hx hZ (hw _ (List.mem_of_getElem? (i := 1) rfl)) e0 (g := (mkF m 9 #[.val (.int p0), .val (.int p1), .val (.int p2), .val (.int (7 : Int32)), .unset, .unset, .unset, .unset, .unset, .unset, .unset, .unset] [(.int (7 : Int32))])) rfl (hb hby at_9) rfl (by decide) (cap := 7) (by decide) (by decide) (by decide) (by decide)
      obtain ⟨b192, g192⟩ : ∃ z, z = h0.size := ⟨_, rfl⟩
      rw [← g192] at A192 st192
      have g_b192 : n0 ≤ b192 := Nat.le_trans Z0 (Nat.le_of_eq g192.symm)
      skip
      have Z192 : n0 ≤ h192.size := Nat.le_trans Z0 E192.1
      have K192 : Keep h0 h192 [] := KR.ext E192
      have sz_b192 : h0.size ≤ b192 := Nat.le_trans KR.1 (Nat.le_of_eq g192.symm)
      have V192 : Arv Z h192 b192 k192 .boolean (7 : Int32) [(.int (0 : Int32)), (.int (0 : Int32)), (.int (0 : Int32)), (.int (0 : Int32)), (.int (0 : Int32)), (.int (0 : Int32)), (.int (0 : Int32))] (.int (0 : Int32)) := (Arv.new A192 (by decide)).pad (pad_rep [] (.int (0 : Int32)) 7)
      have hc193 : (0 : Int32) < (7 : Int32) := by decide
      have pre194 : ∀ t, Steps p.tables e below (T192.setTop (mkF m 20 #[.val (.int p0), .val (.int p1), .val (.int p2), .val (.int (7 : Int32)), .val (.ref b192), .unset, .unset, .unset, .unset, .unset, .unset, .unset] [(.int (0 : Int32)), (.ref b192)])) t → Steps p.tables e below (s₁.setTop (mkF m 0 #[.val (.int p0), .val (.int p1), .val (.int p2), .unset, .unset, .unset, .unset, .unset, .unset, .unset, .unset, .unset] [])) t := fun t k => pre1 t (by
        show Steps p.tables e below (s₁.setTop (mkF m 8 #[.val (.int p0), .val (.int p1), .val (.int p2), .val (.int (7 : Int32)), .unset, .unset, .unset, .unset, .unset, .unset, .unset, .unset] [])) _
        refine XS.iloadN X0.here hx rfl (hb hby at_8) rfl ?_
        show Steps p.tables e below (s₁.setTop (mkF m 9 #[.val (.int p0), .val (.int p1), .val (.int p2), .val (.int (7 : Int32)), .unset, .unset, .unset, .unset, .unset, .unset, .unset, .unset] [(.int (7 : Int32))])) _
        refine st192 _ ?_
        show Steps p.tables e below (T192.setTop (mkF m 11 #[.val (.int p0), .val (.int p1), .val (.int p2), .val (.int (7 : Int32)), .unset, .unset, .unset, .unset, .unset, .unset, .unset, .unset] [(.ref b192)])) _
        refine XS.astore X192.here hx rfl (hb hby at_11) rfl rfl (l' := #[.val (.int p0), .val (.int p1), .val (.int p2), .val (.int (7 : Int32)), .val (.ref b192), .unset, .unset, .unset, .unset, .unset, .unset, .unset]) rfl ?_
        show Steps p.tables e below (T192.setTop (mkF m 13 #[.val (.int p0), .val (.int p1), .val (.int p2), .val (.int (7 : Int32)), .val (.ref b192), .unset, .unset, .unset, .unset, .unset, .unset, .unset] [])) _
        refine XS.iloadN X192.here hx rfl (hb hby at_13) rfl ?_
        show Steps p.tables e below (T192.setTop (mkF m 14 #[.val (.int p0), .val (.int p1), .val (.int p2), .val (.int (7 : Int32)), .val (.ref b192), .unset, .unset, .unset, .unset, .unset, .unset, .unset] [(.int (7 : Int32))])) _
        refine XS.ifNo X192.here hx rfl (hb hby at_14) rfl ((if0 _ _).trans (tlt hc193).2.2.2) ?_
        show Steps p.tables e below (T192.setTop (mkF m 17 #[.val (.int p0), .val (.int p1), .val (.int p2), .val (.int (7 : Int32)), .val (.ref b192), .unset, .unset, .unset, .unset, .unset, .unset, .unset] [])) _
        refine XS.aload X192.here hx rfl (hb hby at_17) rfl rfl ?_
        show Steps p.tables e below (T192.setTop (mkF m 19 #[.val (.int p0), .val (.int p1), .val (.int p2), .val (.int (7 : Int32)), .val (.ref b192), .unset, .unset, .unset, .unset, .unset, .unset, .unset] [(.ref b192)])) _
        refine XS.iconst X192.here hx rfl (hb hby at_19) ?_
        exact k)
      obtain ⟨v0, rfl, pre195⟩ : ∃ (v0 : Int32), (v0 = bI (¬ ((p1 &&& (1 : Int32)).toInt = 0))) ∧ ∀ t, Steps p.tables e below (T192.setTop (mkF m 31 #[.val (.int p0), .val (.int p1), .val (.int p2), .val (.int (7 : Int32)), .val (.ref b192), .unset, .unset, .unset, .unset, .unset, .unset, .unset] [(.int v0), (.int (0 : Int32)), (.ref b192)])) t → Steps p.tables e below (s₁.setTop (mkF m 0 #[.val (.int p0), .val (.int p1), .val (.int p2), .unset, .unset, .unset, .unset, .unset, .unset, .unset, .unset, .unset] [])) t := by
        have pre197 : ∀ t, Steps p.tables e below (T192.setTop (mkF m 23 #[.val (.int p0), .val (.int p1), .val (.int p2), .val (.int (7 : Int32)), .val (.ref b192), .unset, .unset, .unset, .unset, .unset, .unset, .unset] [(.int (p1 &&& (1 : Int32))), (.int (0 : Int32)), (.ref b192)])) t → Steps p.tables e below (s₁.setTop (mkF m 0 #[.val (.int p0), .val (.int p1), .val (.int p2), .unset, .unset, .unset, .unset, .unset, .unset, .unset, .unset, .unset] [])) t := fun t k => pre194 t (by
          show Steps p.tables e below (T192.setTop (mkF m 20 #[.val (.int p0), .val (.int p1), .val (.int p2), .val (.int (7 : Int32)), .val (.ref b192), .unset, .unset, .unset, .unset, .unset, .unset, .unset] [(.int (0 : Int32)), (.ref b192)])) _
          refine XS.iloadN X192.here hx rfl (hb hby at_20) rfl ?_
          show Steps p.tables e below (T192.setTop (mkF m 21 #[.val (.int p0), .val (.int p1), .val (.int p2), .val (.int (7 : Int32)), .val (.ref b192), .unset, .unset, .unset, .unset, .unset, .unset, .unset] [(.int p1), (.int (0 : Int32)), (.ref b192)])) _
          refine XS.iconst X192.here hx rfl (hb hby at_21) ?_
          show Steps p.tables e below (T192.setTop (mkF m 22 #[.val (.int p0), .val (.int p1), .val (.int p2), .val (.int (7 : Int32)), .val (.ref b192), .unset, .unset, .unset, .unset, .unset, .unset, .unset] [(.int (1 : Int32)), (.int p1), (.int (0 : Int32)), (.ref b192)])) _
          refine XS.iand X192.here hx rfl (hb hby at_22) rfl ?_
          exact k)
        by_cases hc196 : (p1 &&& (1 : Int32)) = (0 : Int32)
        · skip
          have ohc196 : (p1 &&& (1 : Int32)).toInt = 0 := own_eq.mp hc196
          refine ⟨(0 : Int32), ?_, fun t k => pre197 t ?_⟩
          · exact own_c0 (by omega)
          · skip
            show Steps p.tables e below (T192.setTop (mkF m 23 #[.val (.int p0), .val (.int p1), .val (.int p2), .val (.int (7 : Int32)), .val (.ref b192), .unset, .unset, .unset, .unset, .unset, .unset, .unset] [(.int (p1 &&& (1 : Int32))), (.int (0 : Int32)), (.ref b192)])) _
            refine XS.ifYes X192.here hx rfl (pc0 := 23) (pc' := 30) rfl (hb hby at_23) rfl ((if0 _ _).trans (teq hc196).1) (by decide) (by decide) ?_
            show Steps p.tables e below (T192.setTop (mkF m 30 #[.val (.int p0), .val (.int p1), .val (.int p2), .val (.int (7 : Int32)), .val (.ref b192), .unset, .unset, .unset, .unset, .unset, .unset, .unset] [(.int (0 : Int32)), (.ref b192)])) _
            refine XS.iconst X192.here hx rfl (hb hby at_30) ?_
            exact k
        · skip
          have ohc196 : ¬ ((p1 &&& (1 : Int32)).toInt = 0) := own_neq.mp hc196
          refine ⟨(1 : Int32), ?_, fun t k => pre197 t ?_⟩
          · exact own_c1 (by omega)
          · skip
            show Steps p.tables e below (T192.setTop (mkF m 23 #[.val (.int p0), .val (.int p1), .val (.int p2), .val (.int (7 : Int32)), .val (.ref b192), .unset, .unset, .unset, .unset, .unset, .unset, .unset] [(.int (p1 &&& (1 : Int32))), (.int (0 : Int32)), (.ref b192)])) _
            refine XS.ifNo X192.here hx rfl (hb hby at_23) rfl ((if0 _ _).trans (feq hc196).1) ?_
            show Steps p.tables e below (T192.setTop (mkF m 26 #[.val (.int p0), .val (.int p1), .val (.int p2), .val (.int (7 : Int32)), .val (.ref b192), .unset, .unset, .unset, .unset, .unset, .unset, .unset] [(.int (0 : Int32)), (.ref b192)])) _
            refine XS.iconst X192.here hx rfl (hb hby at_26) ?_
            show Steps p.tables e below (T192.setTop (mkF m 27 #[.val (.int p0), .val (.int p1), .val (.int p2), .val (.int (7 : Int32)), .val (.ref b192), .unset, .unset, .unset, .unset, .unset, .unset, .unset] [(.int (1 : Int32)), (.int (0 : Int32)), (.ref b192)])) _
            refine XS.goto X192.here hx rfl (pc0 := 27) (pc' := 31) rfl (hb hby at_27) (by decide) (by decide) ?_
            exact k
      obtain ⟨cl198, Ar198, q198, Sz198, Nn198, Hh198, Gg198⟩ := id V192
      have hin198 : ¬ ((0 : Int32) < 0 ∨ cl198.slots.size ≤ ((0 : Int32)).toNatClampNeg) := inb_of Sz198 ⟨by decide, by decide⟩
      obtain ⟨T199, h199, X199, e199, W199, st199⟩ := stZ X192 hx hZ e192 Ar198 (j := (0 : Int32)) hin198 (g := (mkF m 31 #[.val (.int p0), .val (.int p1), .val (.int p2), .val (.int (7 : Int32)), .val (.ref b192), .unset, .unset, .unset, .unset, .unset, .unset, .unset] [(.int (bI (¬ ((p1 &&& (1 : Int32)).toInt = 0)))), (.int (0 : Int32)), (.ref b192)])) rfl rfl (hb hby at_31)
      have V199 : Arv Z h199 b192 k192 .boolean (7 : Int32) [(.int (nar .boolean (bI (¬ ((p1 &&& (1 : Int32)).toInt = 0))))), (.int (0 : Int32)), (.int (0 : Int32)), (.int (0 : Int32)), (.int (0 : Int32)), (.int (0 : Int32)), (.int (0 : Int32))] (.int (0 : Int32)) := Arv.set Ar198 q198 Sz198 Nn198 Hh198 Gg198 (fits_nar_bool _) W199 0 rfl (Nat.le_of_ble_eq_true rfl)
      have N199 := Fr.snoc X199 N0 g_b192
      have Z199 : n0 ≤ h199.size := Nat.le_trans Z192 (Keep.of_wr W199).1
      have K199 : Keep h0 h199 [] := K192.wr W199 (Or.inr sz_b192)
      have hc200 : (1 : Int32) < (7 : Int32) := by decide
      have pre201 : ∀ t, Steps p.tables e below (T199.setTop (mkF m 40 #[.val (.int p0), .val (.int p1), .val (.int p2), .val (.int (7 : Int32)), .val (.ref b192), .unset, .unset, .unset, .unset, .unset, .unset, .unset] [(.int (1 : Int32)), (.ref b192)])) t → Steps p.tables e below (s₁.setTop (mkF m 0 #[.val (.int p0), .val (.int p1), .val (.int p2), .unset, .unset, .unset, .unset, .unset, .unset, .unset, .unset, .unset] [])) t := fun t k => pre195 t (by
        show Steps p.tables e below (T192.setTop (mkF m 31 #[.val (.int p0), .val (.int p1), .val (.int p2), .val (.int (7 : Int32)), .val (.ref b192), .unset, .unset, .unset, .unset, .unset, .unset, .unset] [(.int (bI (¬ ((p1 &&& (1 : Int32)).toInt = 0)))), (.int (0 : Int32)), (.ref b192)])) _
        refine st199 _ ?_
        show Steps p.tables e below (T199.setTop (mkF m 32 #[.val (.int p0), .val (.int p1), .val (.int p2), .val (.int (7 : Int32)), .val (.ref b192), .unset, .unset, .unset, .unset, .unset, .unset, .unset] [])) _
        refine XS.iloadN X199.here hx rfl (hb hby at_32) rfl ?_
        show Steps p.tables e below (T199.setTop (mkF m 33 #[.val (.int p0), .val (.int p1), .val (.int p2), .val (.int (7 : Int32)), .val (.ref b192), .unset, .unset, .unset, .unset, .unset, .unset, .unset] [(.int (7 : Int32))])) _
        refine XS.iconst X199.here hx rfl (hb hby at_33) ?_
        show Steps p.tables e below (T199.setTop (mkF m 34 #[.val (.int p0), .val (.int p1), .val (.int p2), .val (.int (7 : Int32)), .val (.ref b192), .unset, .unset, .unset, .unset, .unset, .unset, .unset] [(.int (1 : Int32)), (.int (7 : Int32))])) _
        refine XS.icmpNo X199.here hx rfl (hb hby at_34) rfl (tlt hc200).2.2.2 ?_
        show Steps p.tables e below (T199.setTop (mkF m 37 #[.val (.int p0), .val (.int p1), .val (.int p2), .val (.int (7 : Int32)), .val (.ref b192), .unset, .unset, .unset, .unset, .unset, .unset, .unset] [])) _
        refine XS.aload X199.here hx rfl (hb hby at_37) rfl rfl ?_
        show Steps p.tables e below (T199.setTop (mkF m 39 #[.val (.int p0), .val (.int p1), .val (.int p2), .val (.int (7 : Int32)), .val (.ref b192), .unset, .unset, .unset, .unset, .unset, .unset, .unset] [(.ref b192)])) _
        refine XS.iconst X199.here hx rfl (hb hby at_39) ?_
        exact k)
      obtain ⟨v1, rfl, pre202⟩ : ∃ (v1 : Int32), (v1 = bI (¬ ((p1 &&& (2 : Int32)).toInt = 0))) ∧ ∀ t, Steps p.tables e below (T199.setTop (mkF m 51 #[.val (.int p0), .val (.int p1), .val (.int p2), .val (.int (7 : Int32)), .val (.ref b192), .unset, .unset, .unset, .unset, .unset, .unset, .unset] [(.int v1), (.int (1 : Int32)), (.ref b192)])) t → Steps p.tables e below (s₁.setTop (mkF m 0 #[.val (.int p0), .val (.int p1), .val (.int p2), .unset, .unset, .unset, .unset, .unset, .unset, .unset, .unset, .unset] [])) t := by
        have pre204 : ∀ t, Steps p.tables e below (T199.setTop (mkF m 43 #[.val (.int p0), .val (.int p1), .val (.int p2), .val (.int (7 : Int32)), .val (.ref b192), .unset, .unset, .unset, .unset, .unset, .unset, .unset] [(.int (p1 &&& (2 : Int32))), (.int (1 : Int32)), (.ref b192)])) t → Steps p.tables e below (s₁.setTop (mkF m 0 #[.val (.int p0), .val (.int p1), .val (.int p2), .unset, .unset, .unset, .unset, .unset, .unset, .unset, .unset, .unset] [])) t := fun t k => pre201 t (by
          show Steps p.tables e below (T199.setTop (mkF m 40 #[.val (.int p0), .val (.int p1), .val (.int p2), .val (.int (7 : Int32)), .val (.ref b192), .unset, .unset, .unset, .unset, .unset, .unset, .unset] [(.int (1 : Int32)), (.ref b192)])) _
          refine XS.iloadN X199.here hx rfl (hb hby at_40) rfl ?_
          show Steps p.tables e below (T199.setTop (mkF m 41 #[.val (.int p0), .val (.int p1), .val (.int p2), .val (.int (7 : Int32)), .val (.ref b192), .unset, .unset, .unset, .unset, .unset, .unset, .unset] [(.int p1), (.int (1 : Int32)), (.ref b192)])) _
          refine XS.iconst X199.here hx rfl (hb hby at_41) ?_
          show Steps p.tables e below (T199.setTop (mkF m 42 #[.val (.int p0), .val (.int p1), .val (.int p2), .val (.int (7 : Int32)), .val (.ref b192), .unset, .unset, .unset, .unset, .unset, .unset, .unset] [(.int (2 : Int32)), (.int p1), (.int (1 : Int32)), (.ref b192)])) _
          refine XS.iand X199.here hx rfl (hb hby at_42) rfl ?_
          exact k)
        by_cases hc203 : (p1 &&& (2 : Int32)) = (0 : Int32)
        · skip
          have ohc203 : (p1 &&& (2 : Int32)).toInt = 0 := own_eq.mp hc203
          refine ⟨(0 : Int32), ?_, fun t k => pre204 t ?_⟩
          · exact own_c0 (by omega)
          · skip
            show Steps p.tables e below (T199.setTop (mkF m 43 #[.val (.int p0), .val (.int p1), .val (.int p2), .val (.int (7 : Int32)), .val (.ref b192), .unset, .unset, .unset, .unset, .unset, .unset, .unset] [(.int (p1 &&& (2 : Int32))), (.int (1 : Int32)), (.ref b192)])) _
            refine XS.ifYes X199.here hx rfl (pc0 := 43) (pc' := 50) rfl (hb hby at_43) rfl ((if0 _ _).trans (teq hc203).1) (by decide) (by decide) ?_
            show Steps p.tables e below (T199.setTop (mkF m 50 #[.val (.int p0), .val (.int p1), .val (.int p2), .val (.int (7 : Int32)), .val (.ref b192), .unset, .unset, .unset, .unset, .unset, .unset, .unset] [(.int (1 : Int32)), (.ref b192)])) _
            refine XS.iconst X199.here hx rfl (hb hby at_50) ?_
            exact k
        · skip
          have ohc203 : ¬ ((p1 &&& (2 : Int32)).toInt = 0) := own_neq.mp hc203
          refine ⟨(1 : Int32), ?_, fun t k => pre204 t ?_⟩
          · exact own_c1 (by omega)
          · skip
            show Steps p.tables e below (T199.setTop (mkF m 43 #[.val (.int p0), .val (.int p1), .val (.int p2), .val (.int (7 : Int32)), .val (.ref b192), .unset, .unset, .unset, .unset, .unset, .unset, .unset] [(.int (p1 &&& (2 : Int32))), (.int (1 : Int32)), (.ref b192)])) _
            refine XS.ifNo X199.here hx rfl (hb hby at_43) rfl ((if0 _ _).trans (feq hc203).1) ?_
            show Steps p.tables e below (T199.setTop (mkF m 46 #[.val (.int p0), .val (.int p1), .val (.int p2), .val (.int (7 : Int32)), .val (.ref b192), .unset, .unset, .unset, .unset, .unset, .unset, .unset] [(.int (1 : Int32)), (.ref b192)])) _
            refine XS.iconst X199.here hx rfl (hb hby at_46) ?_
            show Steps p.tables e below (T199.setTop (mkF m 47 #[.val (.int p0), .val (.int p1), .val (.int p2), .val (.int (7 : Int32)), .val (.ref b192), .unset, .unset, .unset, .unset, .unset, .unset, .unset] [(.int (1 : Int32)), (.int (1 : Int32)), (.ref b192)])) _
            refine XS.goto X199.here hx rfl (pc0 := 47) (pc' := 51) rfl (hb hby at_47) (by decide) (by decide) ?_
            exact k
      obtain ⟨cl205, Ar205, q205, Sz205, Nn205, Hh205, Gg205⟩ := id V199
      have hin205 : ¬ ((1 : Int32) < 0 ∨ cl205.slots.size ≤ ((1 : Int32)).toNatClampNeg) := inb_of Sz205 ⟨by decide, by decide⟩
      obtain ⟨T206, h206, X206, e206, W206, st206⟩ := stZ X199 hx hZ e199 Ar205 (j := (1 : Int32)) hin205 (g := (mkF m 51 #[.val (.int p0), .val (.int p1), .val (.int p2), .val (.int (7 : Int32)), .val (.ref b192), .unset, .unset, .unset, .unset, .unset, .unset, .unset] [(.int (bI (¬ ((p1 &&& (2 : Int32)).toInt = 0)))), (.int (1 : Int32)), (.ref b192)])) rfl rfl (hb hby at_51)
      have V206 : Arv Z h206 b192 k192 .boolean (7 : Int32) [(.int (nar .boolean (bI (¬ ((p1 &&& (1 : Int32)).toInt = 0))))), (.int (nar .boolean (bI (¬ ((p1 &&& (2 : Int32)).toInt = 0))))), (.int (0 : Int32)), (.int (0 : Int32)), (.int (0 : Int32)), (.int (0 : Int32)), (.int (0 : Int32))] (.int (0 : Int32)) := Arv.set Ar205 q205 Sz205 Nn205 Hh205 Gg205 (fits_nar_bool _) W206 1 rfl (Nat.le_of_ble_eq_true rfl)
      have N206 := Fr.snoc X206 N199 g_b192
      have Z206 : n0 ≤ h206.size := Nat.le_trans Z199 (Keep.of_wr W206).1
      have K206 : Keep h0 h206 [] := K199.wr W206 (Or.inr sz_b192)
      have hc207 : (2 : Int32) < (7 : Int32) := by decide
      have pre208 : ∀ t, Steps p.tables e below (T206.setTop (mkF m 60 #[.val (.int p0), .val (.int p1), .val (.int p2), .val (.int (7 : Int32)), .val (.ref b192), .unset, .unset, .unset, .unset, .unset, .unset, .unset] [(.int (2 : Int32)), (.ref b192)])) t → Steps p.tables e below (s₁.setTop (mkF m 0 #[.val (.int p0), .val (.int p1), .val (.int p2), .unset, .unset, .unset, .unset, .unset, .unset, .unset, .unset, .unset] [])) t := fun t k => pre202 t (by
        show Steps p.tables e below (T199.setTop (mkF m 51 #[.val (.int p0), .val (.int p1), .val (.int p2), .val (.int (7 : Int32)), .val (.ref b192), .unset, .unset, .unset, .unset, .unset, .unset, .unset] [(.int (bI (¬ ((p1 &&& (2 : Int32)).toInt = 0)))), (.int (1 : Int32)), (.ref b192)])) _
        refine st206 _ ?_
        show Steps p.tables e below (T206.setTop (mkF m 52 #[.val (.int p0), .val (.int p1), .val (.int p2), .val (.int (7 : Int32)), .val (.ref b192), .unset, .unset, .unset, .unset, .unset, .unset, .unset] [])) _
        refine XS.iloadN X206.here hx rfl (hb hby at_52) rfl ?_
        show Steps p.tables e below (T206.setTop (mkF m 53 #[.val (.int p0), .val (.int p1), .val (.int p2), .val (.int (7 : Int32)), .val (.ref b192), .unset, .unset, .unset, .unset, .unset, .unset, .unset] [(.int (7 : Int32))])) _
        refine XS.iconst X206.here hx rfl (hb hby at_53) ?_
        show Steps p.tables e below (T206.setTop (mkF m 54 #[.val (.int p0), .val (.int p1), .val (.int p2), .val (.int (7 : Int32)), .val (.ref b192), .unset, .unset, .unset, .unset, .unset, .unset, .unset] [(.int (2 : Int32)), (.int (7 : Int32))])) _
        refine XS.icmpNo X206.here hx rfl (hb hby at_54) rfl (tlt hc207).2.2.2 ?_
        show Steps p.tables e below (T206.setTop (mkF m 57 #[.val (.int p0), .val (.int p1), .val (.int p2), .val (.int (7 : Int32)), .val (.ref b192), .unset, .unset, .unset, .unset, .unset, .unset, .unset] [])) _
        refine XS.aload X206.here hx rfl (hb hby at_57) rfl rfl ?_
        show Steps p.tables e below (T206.setTop (mkF m 59 #[.val (.int p0), .val (.int p1), .val (.int p2), .val (.int (7 : Int32)), .val (.ref b192), .unset, .unset, .unset, .unset, .unset, .unset, .unset] [(.ref b192)])) _
        refine XS.iconst X206.here hx rfl (hb hby at_59) ?_
        exact k)
      obtain ⟨v2, rfl, pre209⟩ : ∃ (v2 : Int32), (v2 = bI (¬ ((p1 &&& (4 : Int32)).toInt = 0))) ∧ ∀ t, Steps p.tables e below (T206.setTop (mkF m 71 #[.val (.int p0), .val (.int p1), .val (.int p2), .val (.int (7 : Int32)), .val (.ref b192), .unset, .unset, .unset, .unset, .unset, .unset, .unset] [(.int v2), (.int (2 : Int32)), (.ref b192)])) t → Steps p.tables e below (s₁.setTop (mkF m 0 #[.val (.int p0), .val (.int p1), .val (.int p2), .unset, .unset, .unset, .unset, .unset, .unset, .unset, .unset, .unset] [])) t := by
        have pre211 : ∀ t, Steps p.tables e below (T206.setTop (mkF m 63 #[.val (.int p0), .val (.int p1), .val (.int p2), .val (.int (7 : Int32)), .val (.ref b192), .unset, .unset, .unset, .unset, .unset, .unset, .unset] [(.int (p1 &&& (4 : Int32))), (.int (2 : Int32)), (.ref b192)])) t → Steps p.tables e below (s₁.setTop (mkF m 0 #[.val (.int p0), .val (.int p1), .val (.int p2), .unset, .unset, .unset, .unset, .unset, .unset, .unset, .unset, .unset] [])) t := fun t k => pre208 t (by
          show Steps p.tables e below (T206.setTop (mkF m 60 #[.val (.int p0), .val (.int p1), .val (.int p2), .val (.int (7 : Int32)), .val (.ref b192), .unset, .unset, .unset, .unset, .unset, .unset, .unset] [(.int (2 : Int32)), (.ref b192)])) _
          refine XS.iloadN X206.here hx rfl (hb hby at_60) rfl ?_
          show Steps p.tables e below (T206.setTop (mkF m 61 #[.val (.int p0), .val (.int p1), .val (.int p2), .val (.int (7 : Int32)), .val (.ref b192), .unset, .unset, .unset, .unset, .unset, .unset, .unset] [(.int p1), (.int (2 : Int32)), (.ref b192)])) _
          refine XS.iconst X206.here hx rfl (hb hby at_61) ?_
          show Steps p.tables e below (T206.setTop (mkF m 62 #[.val (.int p0), .val (.int p1), .val (.int p2), .val (.int (7 : Int32)), .val (.ref b192), .unset, .unset, .unset, .unset, .unset, .unset, .unset] [(.int (4 : Int32)), (.int p1), (.int (2 : Int32)), (.ref b192)])) _
          refine XS.iand X206.here hx rfl (hb hby at_62) rfl ?_
          exact k)
        by_cases hc210 : (p1 &&& (4 : Int32)) = (0 : Int32)
        · skip
          have ohc210 : (p1 &&& (4 : Int32)).toInt = 0 := own_eq.mp hc210
          refine ⟨(0 : Int32), ?_, fun t k => pre211 t ?_⟩
          · exact own_c0 (by omega)
          · skip
            show Steps p.tables e below (T206.setTop (mkF m 63 #[.val (.int p0), .val (.int p1), .val (.int p2), .val (.int (7 : Int32)), .val (.ref b192), .unset, .unset, .unset, .unset, .unset, .unset, .unset] [(.int (p1 &&& (4 : Int32))), (.int (2 : Int32)), (.ref b192)])) _
            refine XS.ifYes X206.here hx rfl (pc0 := 63) (pc' := 70) rfl (hb hby at_63) rfl ((if0 _ _).trans (teq hc210).1) (by decide) (by decide) ?_
            show Steps p.tables e below (T206.setTop (mkF m 70 #[.val (.int p0), .val (.int p1), .val (.int p2), .val (.int (7 : Int32)), .val (.ref b192), .unset, .unset, .unset, .unset, .unset, .unset, .unset] [(.int (2 : Int32)), (.ref b192)])) _
            refine XS.iconst X206.here hx rfl (hb hby at_70) ?_
            exact k
        · skip
          have ohc210 : ¬ ((p1 &&& (4 : Int32)).toInt = 0) := own_neq.mp hc210
          refine ⟨(1 : Int32), ?_, fun t k => pre211 t ?_⟩
          · exact own_c1 (by omega)
          · skip
            show Steps p.tables e below (T206.setTop (mkF m 63 #[.val (.int p0), .val (.int p1), .val (.int p2), .val (.int (7 : Int32)), .val (.ref b192), .unset, .unset, .unset, .unset, .unset, .unset, .unset] [(.int (p1 &&& (4 : Int32))), (.int (2 : Int32)), (.ref b192)])) _
            refine XS.ifNo X206.here hx rfl (hb hby at_63) rfl ((if0 _ _).trans (feq hc210).1) ?_
            show Steps p.tables e below (T206.setTop (mkF m 66 #[.val (.int p0), .val (.int p1), .val (.int p2), .val (.int (7 : Int32)), .val (.ref b192), .unset, .unset, .unset, .unset, .unset, .unset, .unset] [(.int (2 : Int32)), (.ref b192)])) _
            refine XS.iconst X206.here hx rfl (hb hby at_66) ?_
            show Steps p.tables e below (T206.setTop (mkF m 67 #[.val (.int p0), .val (.int p1), .val (.int p2), .val (.int (7 : Int32)), .val (.ref b192), .unset, .unset, .unset, .unset, .unset, .unset, .unset] [(.int (1 : Int32)), (.int (2 : Int32)), (.ref b192)])) _
            refine XS.goto X206.here hx rfl (pc0 := 67) (pc' := 71) rfl (hb hby at_67) (by decide) (by decide) ?_
            exact k
      obtain ⟨cl212, Ar212, q212, Sz212, Nn212, Hh212, Gg212⟩ := id V206
      have hin212 : ¬ ((2 : Int32) < 0 ∨ cl212.slots.size ≤ ((2 : Int32)).toNatClampNeg) := inb_of Sz212 ⟨by decide, by decide⟩
      obtain ⟨T213, h213, X213, e213, W213, st213⟩ := stZ X206 hx hZ e206 Ar212 (j := (2 : Int32)) hin212 (g := (mkF m 71 #[.val (.int p0), .val (.int p1), .val (.int p2), .val (.int (7 : Int32)), .val (.ref b192), .unset, .unset, .unset, .unset, .unset, .unset, .unset] [(.int (bI (¬ ((p1 &&& (4 : Int32)).toInt = 0)))), (.int (2 : Int32)), (.ref b192)])) rfl rfl (hb hby at_71)
      have V213 : Arv Z h213 b192 k192 .boolean (7 : Int32) [(.int (nar .boolean (bI (¬ ((p1 &&& (1 : Int32)).toInt = 0))))), (.int (nar .boolean (bI (¬ ((p1 &&& (2 : Int32)).toInt = 0))))), (.int (nar .boolean (bI (¬ ((p1 &&& (4 : Int32)).toInt = 0))))), (.int (0 : Int32)), (.int (0 : Int32)), (.int (0 : Int32)), (.int (0 : Int32))] (.int (0 : Int32)) := Arv.set Ar212 q212 Sz212 Nn212 Hh212 Gg212 (fits_nar_bool _) W213 2 rfl (Nat.le_of_ble_eq_true rfl)
      have N213 := Fr.snoc X213 N206 g_b192
      have Z213 : n0 ≤ h213.size := Nat.le_trans Z206 (Keep.of_wr W213).1
      have K213 : Keep h0 h213 [] := K206.wr W213 (Or.inr sz_b192)
      have hc214 : (3 : Int32) < (7 : Int32) := by decide
      have pre215 : ∀ t, Steps p.tables e below (T213.setTop (mkF m 80 #[.val (.int p0), .val (.int p1), .val (.int p2), .val (.int (7 : Int32)), .val (.ref b192), .unset, .unset, .unset, .unset, .unset, .unset, .unset] [(.int (3 : Int32)), (.ref b192)])) t → Steps p.tables e below (s₁.setTop (mkF m 0 #[.val (.int p0), .val (.int p1), .val (.int p2), .unset, .unset, .unset, .unset, .unset, .unset, .unset, .unset, .unset] [])) t := fun t k => pre209 t (by
        show Steps p.tables e below (T206.setTop (mkF m 71 #[.val (.int p0), .val (.int p1), .val (.int p2), .val (.int (7 : Int32)), .val (.ref b192), .unset, .unset, .unset, .unset, .unset, .unset, .unset] [(.int (bI (¬ ((p1 &&& (4 : Int32)).toInt = 0)))), (.int (2 : Int32)), (.ref b192)])) _
        refine st213 _ ?_
        show Steps p.tables e below (T213.setTop (mkF m 72 #[.val (.int p0), .val (.int p1), .val (.int p2), .val (.int (7 : Int32)), .val (.ref b192), .unset, .unset, .unset, .unset, .unset, .unset, .unset] [])) _
        refine XS.iloadN X213.here hx rfl (hb hby at_72) rfl ?_
        show Steps p.tables e below (T213.setTop (mkF m 73 #[.val (.int p0), .val (.int p1), .val (.int p2), .val (.int (7 : Int32)), .val (.ref b192), .unset, .unset, .unset, .unset, .unset, .unset, .unset] [(.int (7 : Int32))])) _
        refine XS.iconst X213.here hx rfl (hb hby at_73) ?_
        show Steps p.tables e below (T213.setTop (mkF m 74 #[.val (.int p0), .val (.int p1), .val (.int p2), .val (.int (7 : Int32)), .val (.ref b192), .unset, .unset, .unset, .unset, .unset, .unset, .unset] [(.int (3 : Int32)), (.int (7 : Int32))])) _
        refine XS.icmpNo X213.here hx rfl (hb hby at_74) rfl (tlt hc214).2.2.2 ?_
        show Steps p.tables e below (T213.setTop (mkF m 77 #[.val (.int p0), .val (.int p1), .val (.int p2), .val (.int (7 : Int32)), .val (.ref b192), .unset, .unset, .unset, .unset, .unset, .unset, .unset] [])) _
        refine XS.aload X213.here hx rfl (hb hby at_77) rfl rfl ?_
        show Steps p.tables e below (T213.setTop (mkF m 79 #[.val (.int p0), .val (.int p1), .val (.int p2), .val (.int (7 : Int32)), .val (.ref b192), .unset, .unset, .unset, .unset, .unset, .unset, .unset] [(.ref b192)])) _
        refine XS.iconst X213.here hx rfl (hb hby at_79) ?_
        exact k)
      obtain ⟨v3, rfl, pre216⟩ : ∃ (v3 : Int32), (v3 = bI (¬ ((p1 &&& (8 : Int32)).toInt = 0))) ∧ ∀ t, Steps p.tables e below (T213.setTop (mkF m 92 #[.val (.int p0), .val (.int p1), .val (.int p2), .val (.int (7 : Int32)), .val (.ref b192), .unset, .unset, .unset, .unset, .unset, .unset, .unset] [(.int v3), (.int (3 : Int32)), (.ref b192)])) t → Steps p.tables e below (s₁.setTop (mkF m 0 #[.val (.int p0), .val (.int p1), .val (.int p2), .unset, .unset, .unset, .unset, .unset, .unset, .unset, .unset, .unset] [])) t := by
        have pre218 : ∀ t, Steps p.tables e below (T213.setTop (mkF m 84 #[.val (.int p0), .val (.int p1), .val (.int p2), .val (.int (7 : Int32)), .val (.ref b192), .unset, .unset, .unset, .unset, .unset, .unset, .unset] [(.int (p1 &&& (8 : Int32))), (.int (3 : Int32)), (.ref b192)])) t → Steps p.tables e below (s₁.setTop (mkF m 0 #[.val (.int p0), .val (.int p1), .val (.int p2), .unset, .unset, .unset, .unset, .unset, .unset, .unset, .unset, .unset] [])) t := fun t k => pre215 t (by
          show Steps p.tables e below (T213.setTop (mkF m 80 #[.val (.int p0), .val (.int p1), .val (.int p2), .val (.int (7 : Int32)), .val (.ref b192), .unset, .unset, .unset, .unset, .unset, .unset, .unset] [(.int (3 : Int32)), (.ref b192)])) _
          refine XS.iloadN X213.here hx rfl (hb hby at_80) rfl ?_
          show Steps p.tables e below (T213.setTop (mkF m 81 #[.val (.int p0), .val (.int p1), .val (.int p2), .val (.int (7 : Int32)), .val (.ref b192), .unset, .unset, .unset, .unset, .unset, .unset, .unset] [(.int p1), (.int (3 : Int32)), (.ref b192)])) _
          refine XS.bipush X213.here hx rfl (hb hby at_81) ?_
          show Steps p.tables e below (T213.setTop (mkF m 83 #[.val (.int p0), .val (.int p1), .val (.int p2), .val (.int (7 : Int32)), .val (.ref b192), .unset, .unset, .unset, .unset, .unset, .unset, .unset] [(.int (8 : Int32)), (.int p1), (.int (3 : Int32)), (.ref b192)])) _
          refine XS.iand X213.here hx rfl (hb hby at_83) rfl ?_
          exact k)
        by_cases hc217 : (p1 &&& (8 : Int32)) = (0 : Int32)
        · skip
          have ohc217 : (p1 &&& (8 : Int32)).toInt = 0 := own_eq.mp hc217
          refine ⟨(0 : Int32), ?_, fun t k => pre218 t ?_⟩
          · exact own_c0 (by omega)
          · skip
            show Steps p.tables e below (T213.setTop (mkF m 84 #[.val (.int p0), .val (.int p1), .val (.int p2), .val (.int (7 : Int32)), .val (.ref b192), .unset, .unset, .unset, .unset, .unset, .unset, .unset] [(.int (p1 &&& (8 : Int32))), (.int (3 : Int32)), (.ref b192)])) _
            refine XS.ifYes X213.here hx rfl (pc0 := 84) (pc' := 91) rfl (hb hby at_84) rfl ((if0 _ _).trans (teq hc217).1) (by decide) (by decide) ?_
            show Steps p.tables e below (T213.setTop (mkF m 91 #[.val (.int p0), .val (.int p1), .val (.int p2), .val (.int (7 : Int32)), .val (.ref b192), .unset, .unset, .unset, .unset, .unset, .unset, .unset] [(.int (3 : Int32)), (.ref b192)])) _
            refine XS.iconst X213.here hx rfl (hb hby at_91) ?_
            exact k
        · skip
          have ohc217 : ¬ ((p1 &&& (8 : Int32)).toInt = 0) := own_neq.mp hc217
          refine ⟨(1 : Int32), ?_, fun t k => pre218 t ?_⟩
          · exact own_c1 (by omega)
          · skip
            show Steps p.tables e below (T213.setTop (mkF m 84 #[.val (.int p0), .val (.int p1), .val (.int p2), .val (.int (7 : Int32)), .val (.ref b192), .unset, .unset, .unset, .unset, .unset, .unset, .unset] [(.int (p1 &&& (8 : Int32))), (.int (3 : Int32)), (.ref b192)])) _
            refine XS.ifNo X213.here hx rfl (hb hby at_84) rfl ((if0 _ _).trans (feq hc217).1) ?_
            show Steps p.tables e below (T213.setTop (mkF m 87 #[.val (.int p0), .val (.int p1), .val (.int p2), .val (.int (7 : Int32)), .val (.ref b192), .unset, .unset, .unset, .unset, .unset, .unset, .unset] [(.int (3 : Int32)), (.ref b192)])) _
            refine XS.iconst X213.here hx rfl (hb hby at_87) ?_
            show Steps p.tables e below (T213.setTop (mkF m 88 #[.val (.int p0), .val (.int p1), .val (.int p2), .val (.int (7 : Int32)), .val (.ref b192), .unset, .unset, .unset, .unset, .unset, .unset, .unset] [(.int (1 : Int32)), (.int (3 : Int32)), (.ref b192)])) _
            refine XS.goto X213.here hx rfl (pc0 := 88) (pc' := 92) rfl (hb hby at_88) (by decide) (by decide) ?_
            exact k
      obtain ⟨cl219, Ar219, q219, Sz219, Nn219, Hh219, Gg219⟩ := id V213
      have hin219 : ¬ ((3 : Int32) < 0 ∨ cl219.slots.size ≤ ((3 : Int32)).toNatClampNeg) := inb_of Sz219 ⟨by decide, by decide⟩
      obtain ⟨T220, h220, X220, e220, W220, st220⟩ := stZ X213 hx hZ e213 Ar219 (j := (3 : Int32)) hin219 (g := (mkF m 92 #[.val (.int p0), .val (.int p1), .val (.int p2), .val (.int (7 : Int32)), .val (.ref b192), .unset, .unset, .unset, .unset, .unset, .unset, .unset] [(.int (bI (¬ ((p1 &&& (8 : Int32)).toInt = 0)))), (.int (3 : Int32)), (.ref b192)])) rfl rfl (hb hby at_92)
      have V220 : Arv Z h220 b192 k192 .boolean (7 : Int32) [(.int (nar .boolean (bI (¬ ((p1 &&& (1 : Int32)).toInt = 0))))), (.int (nar .boolean (bI (¬ ((p1 &&& (2 : Int32)).toInt = 0))))), (.int (nar .boolean (bI (¬ ((p1 &&& (4 : Int32)).toInt = 0))))), (.int (nar .boolean (bI (¬ ((p1 &&& (8 : Int32)).toInt = 0))))), (.int (0 : Int32)), (.int (0 : Int32)), (.int (0 : Int32))] (.int (0 : Int32)) := Arv.set Ar219 q219 Sz219 Nn219 Hh219 Gg219 (fits_nar_bool _) W220 3 rfl (Nat.le_of_ble_eq_true rfl)
      have N220 := Fr.snoc X220 N213 g_b192
      have Z220 : n0 ≤ h220.size := Nat.le_trans Z213 (Keep.of_wr W220).1
      have K220 : Keep h0 h220 [] := K213.wr W220 (Or.inr sz_b192)
      have hc221 : (4 : Int32) < (7 : Int32) := by decide
      have pre222 : ∀ t, Steps p.tables e below (T220.setTop (mkF m 101 #[.val (.int p0), .val (.int p1), .val (.int p2), .val (.int (7 : Int32)), .val (.ref b192), .unset, .unset, .unset, .unset, .unset, .unset, .unset] [(.int (4 : Int32)), (.ref b192)])) t → Steps p.tables e below (s₁.setTop (mkF m 0 #[.val (.int p0), .val (.int p1), .val (.int p2), .unset, .unset, .unset, .unset, .unset, .unset, .unset, .unset, .unset] [])) t := fun t k => pre216 t (by
        show Steps p.tables e below (T213.setTop (mkF m 92 #[.val (.int p0), .val (.int p1), .val (.int p2), .val (.int (7 : Int32)), .val (.ref b192), .unset, .unset, .unset, .unset, .unset, .unset, .unset] [(.int (bI (¬ ((p1 &&& (8 : Int32)).toInt = 0)))), (.int (3 : Int32)), (.ref b192)])) _
        refine st220 _ ?_
        show Steps p.tables e below (T220.setTop (mkF m 93 #[.val (.int p0), .val (.int p1), .val (.int p2), .val (.int (7 : Int32)), .val (.ref b192), .unset, .unset, .unset, .unset, .unset, .unset, .unset] [])) _
        refine XS.iloadN X220.here hx rfl (hb hby at_93) rfl ?_
        show Steps p.tables e below (T220.setTop (mkF m 94 #[.val (.int p0), .val (.int p1), .val (.int p2), .val (.int (7 : Int32)), .val (.ref b192), .unset, .unset, .unset, .unset, .unset, .unset, .unset] [(.int (7 : Int32))])) _
        refine XS.iconst X220.here hx rfl (hb hby at_94) ?_
        show Steps p.tables e below (T220.setTop (mkF m 95 #[.val (.int p0), .val (.int p1), .val (.int p2), .val (.int (7 : Int32)), .val (.ref b192), .unset, .unset, .unset, .unset, .unset, .unset, .unset] [(.int (4 : Int32)), (.int (7 : Int32))])) _
        refine XS.icmpNo X220.here hx rfl (hb hby at_95) rfl (tlt hc221).2.2.2 ?_
        show Steps p.tables e below (T220.setTop (mkF m 98 #[.val (.int p0), .val (.int p1), .val (.int p2), .val (.int (7 : Int32)), .val (.ref b192), .unset, .unset, .unset, .unset, .unset, .unset, .unset] [])) _
        refine XS.aload X220.here hx rfl (hb hby at_98) rfl rfl ?_
        show Steps p.tables e below (T220.setTop (mkF m 100 #[.val (.int p0), .val (.int p1), .val (.int p2), .val (.int (7 : Int32)), .val (.ref b192), .unset, .unset, .unset, .unset, .unset, .unset, .unset] [(.ref b192)])) _
        refine XS.iconst X220.here hx rfl (hb hby at_100) ?_
        exact k)
      obtain ⟨v4, rfl, pre223⟩ : ∃ (v4 : Int32), (v4 = bI (¬ ((p1 &&& (16 : Int32)).toInt = 0))) ∧ ∀ t, Steps p.tables e below (T220.setTop (mkF m 113 #[.val (.int p0), .val (.int p1), .val (.int p2), .val (.int (7 : Int32)), .val (.ref b192), .unset, .unset, .unset, .unset, .unset, .unset, .unset] [(.int v4), (.int (4 : Int32)), (.ref b192)])) t → Steps p.tables e below (s₁.setTop (mkF m 0 #[.val (.int p0), .val (.int p1), .val (.int p2), .unset, .unset, .unset, .unset, .unset, .unset, .unset, .unset, .unset] [])) t := by
        have pre225 : ∀ t, Steps p.tables e below (T220.setTop (mkF m 105 #[.val (.int p0), .val (.int p1), .val (.int p2), .val (.int (7 : Int32)), .val (.ref b192), .unset, .unset, .unset, .unset, .unset, .unset, .unset] [(.int (p1 &&& (16 : Int32))), (.int (4 : Int32)), (.ref b192)])) t → Steps p.tables e below (s₁.setTop (mkF m 0 #[.val (.int p0), .val (.int p1), .val (.int p2), .unset, .unset, .unset, .unset, .unset, .unset, .unset, .unset, .unset] [])) t := fun t k => pre222 t (by
          show Steps p.tables e below (T220.setTop (mkF m 101 #[.val (.int p0), .val (.int p1), .val (.int p2), .val (.int (7 : Int32)), .val (.ref b192), .unset, .unset, .unset, .unset, .unset, .unset, .unset] [(.int (4 : Int32)), (.ref b192)])) _
          refine XS.iloadN X220.here hx rfl (hb hby at_101) rfl ?_
          show Steps p.tables e below (T220.setTop (mkF m 102 #[.val (.int p0), .val (.int p1), .val (.int p2), .val (.int (7 : Int32)), .val (.ref b192), .unset, .unset, .unset, .unset, .unset, .unset, .unset] [(.int p1), (.int (4 : Int32)), (.ref b192)])) _
          refine XS.bipush X220.here hx rfl (hb hby at_102) ?_
          show Steps p.tables e below (T220.setTop (mkF m 104 #[.val (.int p0), .val (.int p1), .val (.int p2), .val (.int (7 : Int32)), .val (.ref b192), .unset, .unset, .unset, .unset, .unset, .unset, .unset] [(.int (16 : Int32)), (.int p1), (.int (4 : Int32)), (.ref b192)])) _
          refine XS.iand X220.here hx rfl (hb hby at_104) rfl ?_
          exact k)
        by_cases hc224 : (p1 &&& (16 : Int32)) = (0 : Int32)
        · skip
          have ohc224 : (p1 &&& (16 : Int32)).toInt = 0 := own_eq.mp hc224
          refine ⟨(0 : Int32), ?_, fun t k => pre225 t ?_⟩
          · exact own_c0 (by omega)
          · skip
            show Steps p.tables e below (T220.setTop (mkF m 105 #[.val (.int p0), .val (.int p1), .val (.int p2), .val (.int (7 : Int32)), .val (.ref b192), .unset, .unset, .unset, .unset, .unset, .unset, .unset] [(.int (p1 &&& (16 : Int32))), (.int (4 : Int32)), (.ref b192)])) _
            refine XS.ifYes X220.here hx rfl (pc0 := 105) (pc' := 112) rfl (hb hby at_105) rfl ((if0 _ _).trans (teq hc224).1) (by decide) (by decide) ?_
            show Steps p.tables e below (T220.setTop (mkF m 112 #[.val (.int p0), .val (.int p1), .val (.int p2), .val (.int (7 : Int32)), .val (.ref b192), .unset, .unset, .unset, .unset, .unset, .unset, .unset] [(.int (4 : Int32)), (.ref b192)])) _
            refine XS.iconst X220.here hx rfl (hb hby at_112) ?_
            exact k
        · skip
          have ohc224 : ¬ ((p1 &&& (16 : Int32)).toInt = 0) := own_neq.mp hc224
          refine ⟨(1 : Int32), ?_, fun t k => pre225 t ?_⟩
          · exact own_c1 (by omega)
          · skip
            show Steps p.tables e below (T220.setTop (mkF m 105 #[.val (.int p0), .val (.int p1), .val (.int p2), .val (.int (7 : Int32)), .val (.ref b192), .unset, .unset, .unset, .unset, .unset, .unset, .unset] [(.int (p1 &&& (16 : Int32))), (.int (4 : Int32)), (.ref b192)])) _
            refine XS.ifNo X220.here hx rfl (hb hby at_105) rfl ((if0 _ _).trans (feq hc224).1) ?_
            show Steps p.tables e below (T220.setTop (mkF m 108 #[.val (.int p0), .val (.int p1), .val (.int p2), .val (.int (7 : Int32)), .val (.ref b192), .unset, .unset, .unset, .unset, .unset, .unset, .unset] [(.int (4 : Int32)), (.ref b192)])) _
            refine XS.iconst X220.here hx rfl (hb hby at_108) ?_
            show Steps p.tables e below (T220.setTop (mkF m 109 #[.val (.int p0), .val (.int p1), .val (.int p2), .val (.int (7 : Int32)), .val (.ref b192), .unset, .unset, .unset, .unset, .unset, .unset, .unset] [(.int (1 : Int32)), (.int (4 : Int32)), (.ref b192)])) _
            refine XS.goto X220.here hx rfl (pc0 := 109) (pc' := 113) rfl (hb hby at_109) (by decide) (by decide) ?_
            exact k
      obtain ⟨cl226, Ar226, q226, Sz226, Nn226, Hh226, Gg226⟩ := id V220
      have hin226 : ¬ ((4 : Int32) < 0 ∨ cl226.slots.size ≤ ((4 : Int32)).toNatClampNeg) := inb_of Sz226 ⟨by decide, by decide⟩
      obtain ⟨T227, h227, X227, e227, W227, st227⟩ := stZ X220 hx hZ e220 Ar226 (j := (4 : Int32)) hin226 (g := (mkF m 113 #[.val (.int p0), .val (.int p1), .val (.int p2), .val (.int (7 : Int32)), .val (.ref b192), .unset, .unset, .unset, .unset, .unset, .unset, .unset] [(.int (bI (¬ ((p1 &&& (16 : Int32)).toInt = 0)))), (.int (4 : Int32)), (.ref b192)])) rfl rfl (hb hby at_113)
      have V227 : Arv Z h227 b192 k192 .boolean (7 : Int32) [(.int (nar .boolean (bI (¬ ((p1 &&& (1 : Int32)).toInt = 0))))), (.int (nar .boolean (bI (¬ ((p1 &&& (2 : Int32)).toInt = 0))))), (.int (nar .boolean (bI (¬ ((p1 &&& (4 : Int32)).toInt = 0))))), (.int (nar .boolean (bI (¬ ((p1 &&& (8 : Int32)).toInt = 0))))), (.int (nar .boolean (bI (¬ ((p1 &&& (16 : Int32)).toInt = 0))))), (.int (0 : Int32)), (.int (0 : Int32))] (.int (0 : Int32)) := Arv.set Ar226 q226 Sz226 Nn226 Hh226 Gg226 (fits_nar_bool _) W227 4 rfl (Nat.le_of_ble_eq_true rfl)
      have N227 := Fr.snoc X227 N220 g_b192
      have Z227 : n0 ≤ h227.size := Nat.le_trans Z220 (Keep.of_wr W227).1
      have K227 : Keep h0 h227 [] := K220.wr W227 (Or.inr sz_b192)
      have hc228 : (5 : Int32) < (7 : Int32) := by decide
      have pre229 : ∀ t, Steps p.tables e below (T227.setTop (mkF m 122 #[.val (.int p0), .val (.int p1), .val (.int p2), .val (.int (7 : Int32)), .val (.ref b192), .unset, .unset, .unset, .unset, .unset, .unset, .unset] [(.int (5 : Int32)), (.ref b192)])) t → Steps p.tables e below (s₁.setTop (mkF m 0 #[.val (.int p0), .val (.int p1), .val (.int p2), .unset, .unset, .unset, .unset, .unset, .unset, .unset, .unset, .unset] [])) t := fun t k => pre223 t (by
        show Steps p.tables e below (T220.setTop (mkF m 113 #[.val (.int p0), .val (.int p1), .val (.int p2), .val (.int (7 : Int32)), .val (.ref b192), .unset, .unset, .unset, .unset, .unset, .unset, .unset] [(.int (bI (¬ ((p1 &&& (16 : Int32)).toInt = 0)))), (.int (4 : Int32)), (.ref b192)])) _
        refine st227 _ ?_
        show Steps p.tables e below (T227.setTop (mkF m 114 #[.val (.int p0), .val (.int p1), .val (.int p2), .val (.int (7 : Int32)), .val (.ref b192), .unset, .unset, .unset, .unset, .unset, .unset, .unset] [])) _
        refine XS.iloadN X227.here hx rfl (hb hby at_114) rfl ?_
        show Steps p.tables e below (T227.setTop (mkF m 115 #[.val (.int p0), .val (.int p1), .val (.int p2), .val (.int (7 : Int32)), .val (.ref b192), .unset, .unset, .unset, .unset, .unset, .unset, .unset] [(.int (7 : Int32))])) _
        refine XS.iconst X227.here hx rfl (hb hby at_115) ?_
        show Steps p.tables e below (T227.setTop (mkF m 116 #[.val (.int p0), .val (.int p1), .val (.int p2), .val (.int (7 : Int32)), .val (.ref b192), .unset, .unset, .unset, .unset, .unset, .unset, .unset] [(.int (5 : Int32)), (.int (7 : Int32))])) _
        refine XS.icmpNo X227.here hx rfl (hb hby at_116) rfl (tlt hc228).2.2.2 ?_
        show Steps p.tables e below (T227.setTop (mkF m 119 #[.val (.int p0), .val (.int p1), .val (.int p2), .val (.int (7 : Int32)), .val (.ref b192), .unset, .unset, .unset, .unset, .unset, .unset, .unset] [])) _
        refine XS.aload X227.here hx rfl (hb hby at_119) rfl rfl ?_
        show Steps p.tables e below (T227.setTop (mkF m 121 #[.val (.int p0), .val (.int p1), .val (.int p2), .val (.int (7 : Int32)), .val (.ref b192), .unset, .unset, .unset, .unset, .unset, .unset, .unset] [(.ref b192)])) _
        refine XS.iconst X227.here hx rfl (hb hby at_121) ?_
        exact k)
      obtain ⟨v5, rfl, pre230⟩ : ∃ (v5 : Int32), (v5 = bI (¬ ((p1 &&& (32 : Int32)).toInt = 0))) ∧ ∀ t, Steps p.tables e below (T227.setTop (mkF m 134 #[.val (.int p0), .val (.int p1), .val (.int p2), .val (.int (7 : Int32)), .val (.ref b192), .unset, .unset, .unset, .unset, .unset, .unset, .unset] [(.int v5), (.int (5 : Int32)), (.ref b192)])) t → Steps p.tables e below (s₁.setTop (mkF m 0 #[.val (.int p0), .val (.int p1), .val (.int p2), .unset, .unset, .unset, .unset, .unset, .unset, .unset, .unset, .unset] [])) t := by
        have pre232 : ∀ t, Steps p.tables e below (T227.setTop (mkF m 126 #[.val (.int p0), .val (.int p1), .val (.int p2), .val (.int (7 : Int32)), .val (.ref b192), .unset, .unset, .unset, .unset, .unset, .unset, .unset] [(.int (p1 &&& (32 : Int32))), (.int (5 : Int32)), (.ref b192)])) t → Steps p.tables e below (s₁.setTop (mkF m 0 #[.val (.int p0), .val (.int p1), .val (.int p2), .unset, .unset, .unset, .unset, .unset, .unset, .unset, .unset, .unset] [])) t := fun t k => pre229 t (by
          show Steps p.tables e below (T227.setTop (mkF m 122 #[.val (.int p0), .val (.int p1), .val (.int p2), .val (.int (7 : Int32)), .val (.ref b192), .unset, .unset, .unset, .unset, .unset, .unset, .unset] [(.int (5 : Int32)), (.ref b192)])) _
          refine XS.iloadN X227.here hx rfl (hb hby at_122) rfl ?_
          show Steps p.tables e below (T227.setTop (mkF m 123 #[.val (.int p0), .val (.int p1), .val (.int p2), .val (.int (7 : Int32)), .val (.ref b192), .unset, .unset, .unset, .unset, .unset, .unset, .unset] [(.int p1), (.int (5 : Int32)), (.ref b192)])) _
          refine XS.bipush X227.here hx rfl (hb hby at_123) ?_
          show Steps p.tables e below (T227.setTop (mkF m 125 #[.val (.int p0), .val (.int p1), .val (.int p2), .val (.int (7 : Int32)), .val (.ref b192), .unset, .unset, .unset, .unset, .unset, .unset, .unset] [(.int (32 : Int32)), (.int p1), (.int (5 : Int32)), (.ref b192)])) _
          refine XS.iand X227.here hx rfl (hb hby at_125) rfl ?_
          exact k)
        by_cases hc231 : (p1 &&& (32 : Int32)) = (0 : Int32)
        · skip
          have ohc231 : (p1 &&& (32 : Int32)).toInt = 0 := own_eq.mp hc231
          refine ⟨(0 : Int32), ?_, fun t k => pre232 t ?_⟩
          · exact own_c0 (by omega)
          · skip
            show Steps p.tables e below (T227.setTop (mkF m 126 #[.val (.int p0), .val (.int p1), .val (.int p2), .val (.int (7 : Int32)), .val (.ref b192), .unset, .unset, .unset, .unset, .unset, .unset, .unset] [(.int (p1 &&& (32 : Int32))), (.int (5 : Int32)), (.ref b192)])) _
            refine XS.ifYes X227.here hx rfl (pc0 := 126) (pc' := 133) rfl (hb hby at_126) rfl ((if0 _ _).trans (teq hc231).1) (by decide) (by decide) ?_
            show Steps p.tables e below (T227.setTop (mkF m 133 #[.val (.int p0), .val (.int p1), .val (.int p2), .val (.int (7 : Int32)), .val (.ref b192), .unset, .unset, .unset, .unset, .unset, .unset, .unset] [(.int (5 : Int32)), (.ref b192)])) _
            refine XS.iconst X227.here hx rfl (hb hby at_133) ?_
            exact k
        · skip
          have ohc231 : ¬ ((p1 &&& (32 : Int32)).toInt = 0) := own_neq.mp hc231
          refine ⟨(1 : Int32), ?_, fun t k => pre232 t ?_⟩
          · exact own_c1 (by omega)
          · skip
            show Steps p.tables e below (T227.setTop (mkF m 126 #[.val (.int p0), .val (.int p1), .val (.int p2), .val (.int (7 : Int32)), .val (.ref b192), .unset, .unset, .unset, .unset, .unset, .unset, .unset] [(.int (p1 &&& (32 : Int32))), (.int (5 : Int32)), (.ref b192)])) _
            refine XS.ifNo X227.here hx rfl (hb hby at_126) rfl ((if0 _ _).trans (feq hc231).1) ?_
            show Steps p.tables e below (T227.setTop (mkF m 129 #[.val (.int p0), .val (.int p1), .val (.int p2), .val (.int (7 : Int32)), .val (.ref b192), .unset, .unset, .unset, .unset, .unset, .unset, .unset] [(.int (5 : Int32)), (.ref b192)])) _
            refine XS.iconst X227.here hx rfl (hb hby at_129) ?_
            show Steps p.tables e below (T227.setTop (mkF m 130 #[.val (.int p0), .val (.int p1), .val (.int p2), .val (.int (7 : Int32)), .val (.ref b192), .unset, .unset, .unset, .unset, .unset, .unset, .unset] [(.int (1 : Int32)), (.int (5 : Int32)), (.ref b192)])) _
            refine XS.goto X227.here hx rfl (pc0 := 130) (pc' := 134) rfl (hb hby at_130) (by decide) (by decide) ?_
            exact k
      obtain ⟨cl233, Ar233, q233, Sz233, Nn233, Hh233, Gg233⟩ := id V227
      have hin233 : ¬ ((5 : Int32) < 0 ∨ cl233.slots.size ≤ ((5 : Int32)).toNatClampNeg) := inb_of Sz233 ⟨by decide, by decide⟩
      obtain ⟨T234, h234, X234, e234, W234, st234⟩ := stZ X227 hx hZ e227 Ar233 (j := (5 : Int32)) hin233 (g := (mkF m 134 #[.val (.int p0), .val (.int p1), .val (.int p2), .val (.int (7 : Int32)), .val (.ref b192), .unset, .unset, .unset, .unset, .unset, .unset, .unset] [(.int (bI (¬ ((p1 &&& (32 : Int32)).toInt = 0)))), (.int (5 : Int32)), (.ref b192)])) rfl rfl (hb hby at_134)
      have V234 : Arv Z h234 b192 k192 .boolean (7 : Int32) [(.int (nar .boolean (bI (¬ ((p1 &&& (1 : Int32)).toInt = 0))))), (.int (nar .boolean (bI (¬ ((p1 &&& (2 : Int32)).toInt = 0))))), (.int (nar .boolean (bI (¬ ((p1 &&& (4 : Int32)).toInt = 0))))), (.int (nar .boolean (bI (¬ ((p1 &&& (8 : Int32)).toInt = 0))))), (.int (nar .boolean (bI (¬ ((p1 &&& (16 : Int32)).toInt = 0))))), (.int (nar .boolean (bI (¬ ((p1 &&& (32 : Int32)).toInt = 0))))), (.int (0 : Int32))] (.int (0 : Int32)) := Arv.set Ar233 q233 Sz233 Nn233 Hh233 Gg233 (fits_nar_bool _) W234 5 rfl (Nat.le_of_ble_eq_true rfl)
      have N234 := Fr.snoc X234 N227 g_b192
      have Z234 : n0 ≤ h234.size := Nat.le_trans Z227 (Keep.of_wr W234).1
      have K234 : Keep h0 h234 [] := K227.wr W234 (Or.inr sz_b192)
      have hc235 : (6 : Int32) < (7 : Int32) := by decide
      have pre236 : ∀ t, Steps p.tables e below (T234.setTop (mkF m 145 #[.val (.int p0), .val (.int p1), .val (.int p2), .val (.int (7 : Int32)), .val (.ref b192), .unset, .unset, .unset, .unset, .unset, .unset, .unset] [(.int (6 : Int32)), (.ref b192)])) t → Steps p.tables e below (s₁.setTop (mkF m 0 #[.val (.int p0), .val (.int p1), .val (.int p2), .unset, .unset, .unset, .unset, .unset, .unset, .unset, .unset, .unset] [])) t := fun t k => pre230 t (by
        show Steps p.tables e below (T227.setTop (mkF m 134 #[.val (.int p0), .val (.int p1), .val (.int p2), .val (.int (7 : Int32)), .val (.ref b192), .unset, .unset, .unset, .unset, .unset, .unset, .unset] [(.int (bI (¬ ((p1 &&& (32 : Int32)).toInt = 0)))), (.int (5 : Int32)), (.ref b192)])) _
        refine st234 _ ?_
        show Steps p.tables e below (T234.setTop (mkF m 135 #[.val (.int p0), .val (.int p1), .val (.int p2), .val (.int (7 : Int32)), .val (.ref b192), .unset, .unset, .unset, .unset, .unset, .unset, .unset] [])) _
        refine XS.iloadN X234.here hx rfl (hb hby at_135) rfl ?_
        show Steps p.tables e below (T234.setTop (mkF m 136 #[.val (.int p0), .val (.int p1), .val (.int p2), .val (.int (7 : Int32)), .val (.ref b192), .unset, .unset, .unset, .unset, .unset, .unset, .unset] [(.int (7 : Int32))])) _
        refine XS.bipush X234.here hx rfl (hb hby at_136) ?_
        show Steps p.tables e below (T234.setTop (mkF m 138 #[.val (.int p0), .val (.int p1), .val (.int p2), .val (.int (7 : Int32)), .val (.ref b192), .unset, .unset, .unset, .unset, .unset, .unset, .unset] [(.int (6 : Int32)), (.int (7 : Int32))])) _
        refine XS.icmpNo X234.here hx rfl (hb hby at_138) rfl (tlt hc235).2.2.2 ?_
        show Steps p.tables e below (T234.setTop (mkF m 141 #[.val (.int p0), .val (.int p1), .val (.int p2), .val (.int (7 : Int32)), .val (.ref b192), .unset, .unset, .unset, .unset, .unset, .unset, .unset] [])) _
        refine XS.aload X234.here hx rfl (hb hby at_141) rfl rfl ?_
        show Steps p.tables e below (T234.setTop (mkF m 143 #[.val (.int p0), .val (.int p1), .val (.int p2), .val (.int (7 : Int32)), .val (.ref b192), .unset, .unset, .unset, .unset, .unset, .unset, .unset] [(.ref b192)])) _
        refine XS.bipush X234.here hx rfl (hb hby at_143) ?_
        exact k)
      obtain ⟨v6, rfl, pre237⟩ : ∃ (v6 : Int32), (v6 = bI (¬ ((p1 &&& (64 : Int32)).toInt = 0))) ∧ ∀ t, Steps p.tables e below (T234.setTop (mkF m 157 #[.val (.int p0), .val (.int p1), .val (.int p2), .val (.int (7 : Int32)), .val (.ref b192), .unset, .unset, .unset, .unset, .unset, .unset, .unset] [(.int v6), (.int (6 : Int32)), (.ref b192)])) t → Steps p.tables e below (s₁.setTop (mkF m 0 #[.val (.int p0), .val (.int p1), .val (.int p2), .unset, .unset, .unset, .unset, .unset, .unset, .unset, .unset, .unset] [])) t := by
        have pre239 : ∀ t, Steps p.tables e below (T234.setTop (mkF m 149 #[.val (.int p0), .val (.int p1), .val (.int p2), .val (.int (7 : Int32)), .val (.ref b192), .unset, .unset, .unset, .unset, .unset, .unset, .unset] [(.int (p1 &&& (64 : Int32))), (.int (6 : Int32)), (.ref b192)])) t → Steps p.tables e below (s₁.setTop (mkF m 0 #[.val (.int p0), .val (.int p1), .val (.int p2), .unset, .unset, .unset, .unset, .unset, .unset, .unset, .unset, .unset] [])) t := fun t k => pre236 t (by
          show Steps p.tables e below (T234.setTop (mkF m 145 #[.val (.int p0), .val (.int p1), .val (.int p2), .val (.int (7 : Int32)), .val (.ref b192), .unset, .unset, .unset, .unset, .unset, .unset, .unset] [(.int (6 : Int32)), (.ref b192)])) _
          refine XS.iloadN X234.here hx rfl (hb hby at_145) rfl ?_
          show Steps p.tables e below (T234.setTop (mkF m 146 #[.val (.int p0), .val (.int p1), .val (.int p2), .val (.int (7 : Int32)), .val (.ref b192), .unset, .unset, .unset, .unset, .unset, .unset, .unset] [(.int p1), (.int (6 : Int32)), (.ref b192)])) _
          refine XS.bipush X234.here hx rfl (hb hby at_146) ?_
          show Steps p.tables e below (T234.setTop (mkF m 148 #[.val (.int p0), .val (.int p1), .val (.int p2), .val (.int (7 : Int32)), .val (.ref b192), .unset, .unset, .unset, .unset, .unset, .unset, .unset] [(.int (64 : Int32)), (.int p1), (.int (6 : Int32)), (.ref b192)])) _
          refine XS.iand X234.here hx rfl (hb hby at_148) rfl ?_
          exact k)
        by_cases hc238 : (p1 &&& (64 : Int32)) = (0 : Int32)
        · skip
          have ohc238 : (p1 &&& (64 : Int32)).toInt = 0 := own_eq.mp hc238
          refine ⟨(0 : Int32), ?_, fun t k => pre239 t ?_⟩
          · exact own_c0 (by omega)
          · skip
            show Steps p.tables e below (T234.setTop (mkF m 149 #[.val (.int p0), .val (.int p1), .val (.int p2), .val (.int (7 : Int32)), .val (.ref b192), .unset, .unset, .unset, .unset, .unset, .unset, .unset] [(.int (p1 &&& (64 : Int32))), (.int (6 : Int32)), (.ref b192)])) _
            refine XS.ifYes X234.here hx rfl (pc0 := 149) (pc' := 156) rfl (hb hby at_149) rfl ((if0 _ _).trans (teq hc238).1) (by decide) (by decide) ?_
            show Steps p.tables e below (T234.setTop (mkF m 156 #[.val (.int p0), .val (.int p1), .val (.int p2), .val (.int (7 : Int32)), .val (.ref b192), .unset, .unset, .unset, .unset, .unset, .unset, .unset] [(.int (6 : Int32)), (.ref b192)])) _
            refine XS.iconst X234.here hx rfl (hb hby at_156) ?_
            exact k
        · skip
          have ohc238 : ¬ ((p1 &&& (64 : Int32)).toInt = 0) := own_neq.mp hc238
          refine ⟨(1 : Int32), ?_, fun t k => pre239 t ?_⟩
          · exact own_c1 (by omega)
          · skip
            show Steps p.tables e below (T234.setTop (mkF m 149 #[.val (.int p0), .val (.int p1), .val (.int p2), .val (.int (7 : Int32)), .val (.ref b192), .unset, .unset, .unset, .unset, .unset, .unset, .unset] [(.int (p1 &&& (64 : Int32))), (.int (6 : Int32)), (.ref b192)])) _
            refine XS.ifNo X234.here hx rfl (hb hby at_149) rfl ((if0 _ _).trans (feq hc238).1) ?_
            show Steps p.tables e below (T234.setTop (mkF m 152 #[.val (.int p0), .val (.int p1), .val (.int p2), .val (.int (7 : Int32)), .val (.ref b192), .unset, .unset, .unset, .unset, .unset, .unset, .unset] [(.int (6 : Int32)), (.ref b192)])) _
            refine XS.iconst X234.here hx rfl (hb hby at_152) ?_
            show Steps p.tables e below (T234.setTop (mkF m 153 #[.val (.int p0), .val (.int p1), .val (.int p2), .val (.int (7 : Int32)), .val (.ref b192), .unset, .unset, .unset, .unset, .unset, .unset, .unset] [(.int (1 : Int32)), (.int (6 : Int32)), (.ref b192)])) _
            refine XS.goto X234.here hx rfl (pc0 := 153) (pc' := 157) rfl (hb hby at_153) (by decide) (by decide) ?_
            exact k
      obtain ⟨cl240, Ar240, q240, Sz240, Nn240, Hh240, Gg240⟩ := id V234
      have hin240 : ¬ ((6 : Int32) < 0 ∨ cl240.slots.size ≤ ((6 : Int32)).toNatClampNeg) := inb_of Sz240 ⟨by decide, by decide⟩
      obtain ⟨T241, h241, X241, e241, W241, st241⟩ := stZ X234 hx hZ e234 Ar240 (j := (6 : Int32)) hin240 (g := (mkF m 157 #[.val (.int p0), .val (.int p1), .val (.int p2), .val (.int (7 : Int32)), .val (.ref b192), .unset, .unset, .unset, .unset, .unset, .unset, .unset] [(.int (bI (¬ ((p1 &&& (64 : Int32)).toInt = 0)))), (.int (6 : Int32)), (.ref b192)])) rfl rfl (hb hby at_157)
      have V241 : Arv Z h241 b192 k192 .boolean (7 : Int32) [(.int (nar .boolean (bI (¬ ((p1 &&& (1 : Int32)).toInt = 0))))), (.int (nar .boolean (bI (¬ ((p1 &&& (2 : Int32)).toInt = 0))))), (.int (nar .boolean (bI (¬ ((p1 &&& (4 : Int32)).toInt = 0))))), (.int (nar .boolean (bI (¬ ((p1 &&& (8 : Int32)).toInt = 0))))), (.int (nar .boolean (bI (¬ ((p1 &&& (16 : Int32)).toInt = 0))))), (.int (nar .boolean (bI (¬ ((p1 &&& (32 : Int32)).toInt = 0))))), (.int (nar .boolean (bI (¬ ((p1 &&& (64 : Int32)).toInt = 0)))))] (.int (0 : Int32)) := Arv.set Ar240 q240 Sz240 Nn240 Hh240 Gg240 (fits_nar_bool _) W241 6 rfl (Nat.le_of_ble_eq_true rfl)
      have N241 := Fr.snoc X241 N234 g_b192
      have Z241 : n0 ≤ h241.size := Nat.le_trans Z234 (Keep.of_wr W241).1
      have K241 : Keep h0 h241 [] := K234.wr W241 (Or.inr sz_b192)
      obtain ⟨cl242, Ar242, -, Sz242, -, Hh242, -⟩ := V241
      refine ⟨b192, cl242, T241, _, h241, X241.more (by decide) (by decide), e241, N241, Z241, K241, ⟨Ar242, Sz242, fun j hj => by
        have q := Hh242 j (by rw [Sz242]; exact hj)
        have hj' : j < 7 := hj
        rcases (show j = 0 ∨ j = 1 ∨ j = 2 ∨ j = 3 ∨ j = 4 ∨ j = 5 ∨ j = 6 by omega) with rfl | rfl | rfl | rfl | rfl | rfl | rfl
        · exact q.trans (congrArg (fun z => some (Value.int z)) (own_nar (P := ¬ ((p1 &&& (1 : Int32)).toInt = 0))))
        · exact q.trans (congrArg (fun z => some (Value.int z)) (own_nar (P := ¬ ((p1 &&& (2 : Int32)).toInt = 0))))
        · exact q.trans (congrArg (fun z => some (Value.int z)) (own_nar (P := ¬ ((p1 &&& (4 : Int32)).toInt = 0))))
        · exact q.trans (congrArg (fun z => some (Value.int z)) (own_nar (P := ¬ ((p1 &&& (8 : Int32)).toInt = 0))))
        · exact q.trans (congrArg (fun z => some (Value.int z)) (own_nar (P := ¬ ((p1 &&& (16 : Int32)).toInt = 0))))
        · exact q.trans (congrArg (fun z => some (Value.int z)) (own_nar (P := ¬ ((p1 &&& (32 : Int32)).toInt = 0))))
        · exact q.trans (congrArg (fun z => some (Value.int z)) (own_nar (P := ¬ ((p1 &&& (64 : Int32)).toInt = 0))))⟩, fun t k => pre237 t ?_⟩
      show Steps p.tables e below (T234.setTop (mkF m 157 #[.val (.int p0), .val (.int p1), .val (.int p2), .val (.int (7 : Int32)), .val (.ref b192), .unset, .unset, .unset, .unset, .unset, .unset, .unset] [(.int (bI (¬ ((p1 &&& (64 : Int32)).toInt = 0)))), (.int (6 : Int32)), (.ref b192)])) _
      refine st241 _ ?_
      exact k
  have MB : ¬ ln < 0 := own_nlt.mpr (show 0 ≤ ln.toInt by omega)
  have pre243 : ∀ t, Steps p.tables e below (T2.setTop (mkF m 167 #[.val (.int p0), .val (.int p1), .val (.int p2), .val (.int ln), .val (.ref bb), .val (.int (p1 &&& (((1 : Int32) <<< (ln &&& 31)) - (1 : Int32)))), .unset, .unset, .unset, .unset, .unset, .unset] [])) t → Steps p.tables e below (s₁.setTop (mkF m 0 #[.val (.int p0), .val (.int p1), .val (.int p2), .unset, .unset, .unset, .unset, .unset, .unset, .unset, .unset, .unset] [])) t := fun t k => pre2 t (by
    show Steps p.tables e below (T2.setTop (mkF m 158 #[.val (.int p0), .val (.int p1), .val (.int p2), .val (.int ln), .val (.ref bb), .unset, .unset, .unset, .unset, .unset, .unset, .unset] [])) _
    refine XS.iloadN X2.here hx rfl (hb hby at_158) rfl ?_
    show Steps p.tables e below (T2.setTop (mkF m 159 #[.val (.int p0), .val (.int p1), .val (.int p2), .val (.int ln), .val (.ref bb), .unset, .unset, .unset, .unset, .unset, .unset, .unset] [(.int p1)])) _
    refine XS.iconst X2.here hx rfl (hb hby at_159) ?_
    show Steps p.tables e below (T2.setTop (mkF m 160 #[.val (.int p0), .val (.int p1), .val (.int p2), .val (.int ln), .val (.ref bb), .unset, .unset, .unset, .unset, .unset, .unset, .unset] [(.int (1 : Int32)), (.int p1)])) _
    refine XS.iloadN X2.here hx rfl (hb hby at_160) rfl ?_
    show Steps p.tables e below (T2.setTop (mkF m 161 #[.val (.int p0), .val (.int p1), .val (.int p2), .val (.int ln), .val (.ref bb), .unset, .unset, .unset, .unset, .unset, .unset, .unset] [(.int ln), (.int (1 : Int32)), (.int p1)])) _
    refine XS.ishl X2.here hx rfl (hb hby at_161) rfl ?_
    show Steps p.tables e below (T2.setTop (mkF m 162 #[.val (.int p0), .val (.int p1), .val (.int p2), .val (.int ln), .val (.ref bb), .unset, .unset, .unset, .unset, .unset, .unset, .unset] [(.int ((1 : Int32) <<< (ln &&& 31))), (.int p1)])) _
    refine XS.iconst X2.here hx rfl (hb hby at_162) ?_
    show Steps p.tables e below (T2.setTop (mkF m 163 #[.val (.int p0), .val (.int p1), .val (.int p2), .val (.int ln), .val (.ref bb), .unset, .unset, .unset, .unset, .unset, .unset, .unset] [(.int (1 : Int32)), (.int ((1 : Int32) <<< (ln &&& 31))), (.int p1)])) _
    refine XS.isub X2.here hx rfl (hb hby at_163) rfl ?_
    show Steps p.tables e below (T2.setTop (mkF m 164 #[.val (.int p0), .val (.int p1), .val (.int p2), .val (.int ln), .val (.ref bb), .unset, .unset, .unset, .unset, .unset, .unset, .unset] [(.int (((1 : Int32) <<< (ln &&& 31)) - (1 : Int32))), (.int p1)])) _
    refine XS.iand X2.here hx rfl (hb hby at_164) rfl ?_
    show Steps p.tables e below (T2.setTop (mkF m 165 #[.val (.int p0), .val (.int p1), .val (.int p2), .val (.int ln), .val (.ref bb), .unset, .unset, .unset, .unset, .unset, .unset, .unset] [(.int (p1 &&& (((1 : Int32) <<< (ln &&& 31)) - (1 : Int32))))])) _
    refine XS.istore X2.here hx rfl (hb hby at_165) rfl (l' := #[.val (.int p0), .val (.int p1), .val (.int p2), .val (.int ln), .val (.ref bb), .val (.int (p1 &&& (((1 : Int32) <<< (ln &&& 31)) - (1 : Int32)))), .unset, .unset, .unset, .unset, .unset, .unset]) rfl ?_
    exact k)
  obtain ⟨rv, hrv, pre244⟩ : ∃ (rv : Int32), (((rv = 0 ∧ ∀ j : Nat, j < ln.toNatClampNeg → (own_B p1 j).toInt = 0) ∨ (1 ≤ rv.toInt ∧ rv.toInt ≤ ln.toInt ∧ (∀ j : Nat, (j : Int) < rv.toInt - 1 → (own_B p1 j).toInt = 0) ∧ ¬ (own_B p1 (rv.toInt - 1).toNat).toInt = 0))) ∧ ∀ t, Steps p.tables e below (T2.setTop (mkF m 267 #[.val (.int p0), .val (.int p1), .val (.int p2), .val (.int ln), .val (.ref bb), .val (.int (p1 &&& (((1 : Int32) <<< (ln &&& 31)) - (1 : Int32)))), .val (.int rv), .unset, .unset, .unset, .unset, .unset] [])) t → Steps p.tables e below (s₁.setTop (mkF m 0 #[.val (.int p0), .val (.int p1), .val (.int p2), .unset, .unset, .unset, .unset, .unset, .unset, .unset, .unset, .unset] [])) t := by
    have pre246 : ∀ t, Steps p.tables e below (T2.setTop (mkF m 171 #[.val (.int p0), .val (.int p1), .val (.int p2), .val (.int ln), .val (.ref bb), .val (.int (p1 &&& (((1 : Int32) <<< (ln &&& 31)) - (1 : Int32)))), .unset, .unset, .unset, .unset, .unset, .unset] [(.int ((p1 &&& (((1 : Int32) <<< (ln &&& 31)) - (1 : Int32))) &&& (1 : Int32)))])) t → Steps p.tables e below (s₁.setTop (mkF m 0 #[.val (.int p0), .val (.int p1), .val (.int p2), .unset, .unset, .unset, .unset, .unset, .unset, .unset, .unset, .unset] [])) t := fun t k => pre243 t (by
      show Steps p.tables e below (T2.setTop (mkF m 167 #[.val (.int p0), .val (.int p1), .val (.int p2), .val (.int ln), .val (.ref bb), .val (.int (p1 &&& (((1 : Int32) <<< (ln &&& 31)) - (1 : Int32)))), .unset, .unset, .unset, .unset, .unset, .unset] [])) _
      refine XS.iload X2.here hx rfl (hb hby at_167) rfl ?_
      show Steps p.tables e below (T2.setTop (mkF m 169 #[.val (.int p0), .val (.int p1), .val (.int p2), .val (.int ln), .val (.ref bb), .val (.int (p1 &&& (((1 : Int32) <<< (ln &&& 31)) - (1 : Int32)))), .unset, .unset, .unset, .unset, .unset, .unset] [(.int (p1 &&& (((1 : Int32) <<< (ln &&& 31)) - (1 : Int32))))])) _
      refine XS.iconst X2.here hx rfl (hb hby at_169) ?_
      show Steps p.tables e below (T2.setTop (mkF m 170 #[.val (.int p0), .val (.int p1), .val (.int p2), .val (.int ln), .val (.ref bb), .val (.int (p1 &&& (((1 : Int32) <<< (ln &&& 31)) - (1 : Int32)))), .unset, .unset, .unset, .unset, .unset, .unset] [(.int (1 : Int32)), (.int (p1 &&& (((1 : Int32) <<< (ln &&& 31)) - (1 : Int32))))])) _
      refine XS.iand X2.here hx rfl (hb hby at_170) rfl ?_
      exact k)
    by_cases hc245 : ((p1 &&& (((1 : Int32) <<< (ln &&& 31)) - (1 : Int32))) &&& (1 : Int32)) = (0 : Int32)
    · skip
      have ohc245 : ((p1 &&& (((1 : Int32) <<< (ln &&& 31)) - (1 : Int32))) &&& (1 : Int32)).toInt = 0 := own_eq.mp hc245
      have pre248 : ∀ t, Steps p.tables e below (T2.setTop (mkF m 184 #[.val (.int p0), .val (.int p1), .val (.int p2), .val (.int ln), .val (.ref bb), .val (.int (p1 &&& (((1 : Int32) <<< (ln &&& 31)) - (1 : Int32)))), .unset, .unset, .unset, .unset, .unset, .unset] [(.int ((p1 &&& (((1 : Int32) <<< (ln &&& 31)) - (1 : Int32))) &&& (2 : Int32)))])) t → Steps p.tables e below (s₁.setTop (mkF m 0 #[.val (.int p0), .val (.int p1), .val (.int p2), .unset, .unset, .unset, .unset, .unset, .unset, .unset, .unset, .unset] [])) t := fun t k => pre246 t (by
        show Steps p.tables e below (T2.setTop (mkF m 171 #[.val (.int p0), .val (.int p1), .val (.int p2), .val (.int ln), .val (.ref bb), .val (.int (p1 &&& (((1 : Int32) <<< (ln &&& 31)) - (1 : Int32)))), .unset, .unset, .unset, .unset, .unset, .unset] [(.int ((p1 &&& (((1 : Int32) <<< (ln &&& 31)) - (1 : Int32))) &&& (1 : Int32)))])) _
        refine XS.ifYes X2.here hx rfl (pc0 := 171) (pc' := 180) rfl (hb hby at_171) rfl ((if0 _ _).trans (teq hc245).1) (by decide) (by decide) ?_
        show Steps p.tables e below (T2.setTop (mkF m 180 #[.val (.int p0), .val (.int p1), .val (.int p2), .val (.int ln), .val (.ref bb), .val (.int (p1 &&& (((1 : Int32) <<< (ln &&& 31)) - (1 : Int32)))), .unset, .unset, .unset, .unset, .unset, .unset] [])) _
        refine XS.iload X2.here hx rfl (hb hby at_180) rfl ?_
        show Steps p.tables e below (T2.setTop (mkF m 182 #[.val (.int p0), .val (.int p1), .val (.int p2), .val (.int ln), .val (.ref bb), .val (.int (p1 &&& (((1 : Int32) <<< (ln &&& 31)) - (1 : Int32)))), .unset, .unset, .unset, .unset, .unset, .unset] [(.int (p1 &&& (((1 : Int32) <<< (ln &&& 31)) - (1 : Int32))))])) _
        refine XS.iconst X2.here hx rfl (hb hby at_182) ?_
        show Steps p.tables e below (T2.setTop (mkF m 183 #[.val (.int p0), .val (.int p1), .val (.int p2), .val (.int ln), .val (.ref bb), .val (.int (p1 &&& (((1 : Int32) <<< (ln &&& 31)) - (1 : Int32)))), .unset, .unset, .unset, .unset, .unset, .unset] [(.int (2 : Int32)), (.int (p1 &&& (((1 : Int32) <<< (ln &&& 31)) - (1 : Int32))))])) _
        refine XS.iand X2.here hx rfl (hb hby at_183) rfl ?_
        exact k)
      by_cases hc247 : ((p1 &&& (((1 : Int32) <<< (ln &&& 31)) - (1 : Int32))) &&& (2 : Int32)) = (0 : Int32)
      · skip
        have ohc247 : ((p1 &&& (((1 : Int32) <<< (ln &&& 31)) - (1 : Int32))) &&& (2 : Int32)).toInt = 0 := own_eq.mp hc247
        have pre250 : ∀ t, Steps p.tables e below (T2.setTop (mkF m 197 #[.val (.int p0), .val (.int p1), .val (.int p2), .val (.int ln), .val (.ref bb), .val (.int (p1 &&& (((1 : Int32) <<< (ln &&& 31)) - (1 : Int32)))), .unset, .unset, .unset, .unset, .unset, .unset] [(.int ((p1 &&& (((1 : Int32) <<< (ln &&& 31)) - (1 : Int32))) &&& (4 : Int32)))])) t → Steps p.tables e below (s₁.setTop (mkF m 0 #[.val (.int p0), .val (.int p1), .val (.int p2), .unset, .unset, .unset, .unset, .unset, .unset, .unset, .unset, .unset] [])) t := fun t k => pre248 t (by
          show Steps p.tables e below (T2.setTop (mkF m 184 #[.val (.int p0), .val (.int p1), .val (.int p2), .val (.int ln), .val (.ref bb), .val (.int (p1 &&& (((1 : Int32) <<< (ln &&& 31)) - (1 : Int32)))), .unset, .unset, .unset, .unset, .unset, .unset] [(.int ((p1 &&& (((1 : Int32) <<< (ln &&& 31)) - (1 : Int32))) &&& (2 : Int32)))])) _
          refine XS.ifYes X2.here hx rfl (pc0 := 184) (pc' := 193) rfl (hb hby at_184) rfl ((if0 _ _).trans (teq hc247).1) (by decide) (by decide) ?_
          show Steps p.tables e below (T2.setTop (mkF m 193 #[.val (.int p0), .val (.int p1), .val (.int p2), .val (.int ln), .val (.ref bb), .val (.int (p1 &&& (((1 : Int32) <<< (ln &&& 31)) - (1 : Int32)))), .unset, .unset, .unset, .unset, .unset, .unset] [])) _
          refine XS.iload X2.here hx rfl (hb hby at_193) rfl ?_
          show Steps p.tables e below (T2.setTop (mkF m 195 #[.val (.int p0), .val (.int p1), .val (.int p2), .val (.int ln), .val (.ref bb), .val (.int (p1 &&& (((1 : Int32) <<< (ln &&& 31)) - (1 : Int32)))), .unset, .unset, .unset, .unset, .unset, .unset] [(.int (p1 &&& (((1 : Int32) <<< (ln &&& 31)) - (1 : Int32))))])) _
          refine XS.iconst X2.here hx rfl (hb hby at_195) ?_
          show Steps p.tables e below (T2.setTop (mkF m 196 #[.val (.int p0), .val (.int p1), .val (.int p2), .val (.int ln), .val (.ref bb), .val (.int (p1 &&& (((1 : Int32) <<< (ln &&& 31)) - (1 : Int32)))), .unset, .unset, .unset, .unset, .unset, .unset] [(.int (4 : Int32)), (.int (p1 &&& (((1 : Int32) <<< (ln &&& 31)) - (1 : Int32))))])) _
          refine XS.iand X2.here hx rfl (hb hby at_196) rfl ?_
          exact k)
        by_cases hc249 : ((p1 &&& (((1 : Int32) <<< (ln &&& 31)) - (1 : Int32))) &&& (4 : Int32)) = (0 : Int32)
        · skip
          have ohc249 : ((p1 &&& (((1 : Int32) <<< (ln &&& 31)) - (1 : Int32))) &&& (4 : Int32)).toInt = 0 := own_eq.mp hc249
          have pre252 : ∀ t, Steps p.tables e below (T2.setTop (mkF m 211 #[.val (.int p0), .val (.int p1), .val (.int p2), .val (.int ln), .val (.ref bb), .val (.int (p1 &&& (((1 : Int32) <<< (ln &&& 31)) - (1 : Int32)))), .unset, .unset, .unset, .unset, .unset, .unset] [(.int ((p1 &&& (((1 : Int32) <<< (ln &&& 31)) - (1 : Int32))) &&& (8 : Int32)))])) t → Steps p.tables e below (s₁.setTop (mkF m 0 #[.val (.int p0), .val (.int p1), .val (.int p2), .unset, .unset, .unset, .unset, .unset, .unset, .unset, .unset, .unset] [])) t := fun t k => pre250 t (by
            show Steps p.tables e below (T2.setTop (mkF m 197 #[.val (.int p0), .val (.int p1), .val (.int p2), .val (.int ln), .val (.ref bb), .val (.int (p1 &&& (((1 : Int32) <<< (ln &&& 31)) - (1 : Int32)))), .unset, .unset, .unset, .unset, .unset, .unset] [(.int ((p1 &&& (((1 : Int32) <<< (ln &&& 31)) - (1 : Int32))) &&& (4 : Int32)))])) _
            refine XS.ifYes X2.here hx rfl (pc0 := 197) (pc' := 206) rfl (hb hby at_197) rfl ((if0 _ _).trans (teq hc249).1) (by decide) (by decide) ?_
            show Steps p.tables e below (T2.setTop (mkF m 206 #[.val (.int p0), .val (.int p1), .val (.int p2), .val (.int ln), .val (.ref bb), .val (.int (p1 &&& (((1 : Int32) <<< (ln &&& 31)) - (1 : Int32)))), .unset, .unset, .unset, .unset, .unset, .unset] [])) _
            refine XS.iload X2.here hx rfl (hb hby at_206) rfl ?_
            show Steps p.tables e below (T2.setTop (mkF m 208 #[.val (.int p0), .val (.int p1), .val (.int p2), .val (.int ln), .val (.ref bb), .val (.int (p1 &&& (((1 : Int32) <<< (ln &&& 31)) - (1 : Int32)))), .unset, .unset, .unset, .unset, .unset, .unset] [(.int (p1 &&& (((1 : Int32) <<< (ln &&& 31)) - (1 : Int32))))])) _
            refine XS.bipush X2.here hx rfl (hb hby at_208) ?_
            show Steps p.tables e below (T2.setTop (mkF m 210 #[.val (.int p0), .val (.int p1), .val (.int p2), .val (.int ln), .val (.ref bb), .val (.int (p1 &&& (((1 : Int32) <<< (ln &&& 31)) - (1 : Int32)))), .unset, .unset, .unset, .unset, .unset, .unset] [(.int (8 : Int32)), (.int (p1 &&& (((1 : Int32) <<< (ln &&& 31)) - (1 : Int32))))])) _
            refine XS.iand X2.here hx rfl (hb hby at_210) rfl ?_
            exact k)
          by_cases hc251 : ((p1 &&& (((1 : Int32) <<< (ln &&& 31)) - (1 : Int32))) &&& (8 : Int32)) = (0 : Int32)
          · skip
            have ohc251 : ((p1 &&& (((1 : Int32) <<< (ln &&& 31)) - (1 : Int32))) &&& (8 : Int32)).toInt = 0 := own_eq.mp hc251
            have pre254 : ∀ t, Steps p.tables e below (T2.setTop (mkF m 225 #[.val (.int p0), .val (.int p1), .val (.int p2), .val (.int ln), .val (.ref bb), .val (.int (p1 &&& (((1 : Int32) <<< (ln &&& 31)) - (1 : Int32)))), .unset, .unset, .unset, .unset, .unset, .unset] [(.int ((p1 &&& (((1 : Int32) <<< (ln &&& 31)) - (1 : Int32))) &&& (16 : Int32)))])) t → Steps p.tables e below (s₁.setTop (mkF m 0 #[.val (.int p0), .val (.int p1), .val (.int p2), .unset, .unset, .unset, .unset, .unset, .unset, .unset, .unset, .unset] [])) t := fun t k => pre252 t (by
              show Steps p.tables e below (T2.setTop (mkF m 211 #[.val (.int p0), .val (.int p1), .val (.int p2), .val (.int ln), .val (.ref bb), .val (.int (p1 &&& (((1 : Int32) <<< (ln &&& 31)) - (1 : Int32)))), .unset, .unset, .unset, .unset, .unset, .unset] [(.int ((p1 &&& (((1 : Int32) <<< (ln &&& 31)) - (1 : Int32))) &&& (8 : Int32)))])) _
              refine XS.ifYes X2.here hx rfl (pc0 := 211) (pc' := 220) rfl (hb hby at_211) rfl ((if0 _ _).trans (teq hc251).1) (by decide) (by decide) ?_
              show Steps p.tables e below (T2.setTop (mkF m 220 #[.val (.int p0), .val (.int p1), .val (.int p2), .val (.int ln), .val (.ref bb), .val (.int (p1 &&& (((1 : Int32) <<< (ln &&& 31)) - (1 : Int32)))), .unset, .unset, .unset, .unset, .unset, .unset] [])) _
              refine XS.iload X2.here hx rfl (hb hby at_220) rfl ?_
              show Steps p.tables e below (T2.setTop (mkF m 222 #[.val (.int p0), .val (.int p1), .val (.int p2), .val (.int ln), .val (.ref bb), .val (.int (p1 &&& (((1 : Int32) <<< (ln &&& 31)) - (1 : Int32)))), .unset, .unset, .unset, .unset, .unset, .unset] [(.int (p1 &&& (((1 : Int32) <<< (ln &&& 31)) - (1 : Int32))))])) _
              refine XS.bipush X2.here hx rfl (hb hby at_222) ?_
              show Steps p.tables e below (T2.setTop (mkF m 224 #[.val (.int p0), .val (.int p1), .val (.int p2), .val (.int ln), .val (.ref bb), .val (.int (p1 &&& (((1 : Int32) <<< (ln &&& 31)) - (1 : Int32)))), .unset, .unset, .unset, .unset, .unset, .unset] [(.int (16 : Int32)), (.int (p1 &&& (((1 : Int32) <<< (ln &&& 31)) - (1 : Int32))))])) _
              refine XS.iand X2.here hx rfl (hb hby at_224) rfl ?_
              exact k)
            by_cases hc253 : ((p1 &&& (((1 : Int32) <<< (ln &&& 31)) - (1 : Int32))) &&& (16 : Int32)) = (0 : Int32)
            · skip
              have ohc253 : ((p1 &&& (((1 : Int32) <<< (ln &&& 31)) - (1 : Int32))) &&& (16 : Int32)).toInt = 0 := own_eq.mp hc253
              have pre256 : ∀ t, Steps p.tables e below (T2.setTop (mkF m 239 #[.val (.int p0), .val (.int p1), .val (.int p2), .val (.int ln), .val (.ref bb), .val (.int (p1 &&& (((1 : Int32) <<< (ln &&& 31)) - (1 : Int32)))), .unset, .unset, .unset, .unset, .unset, .unset] [(.int ((p1 &&& (((1 : Int32) <<< (ln &&& 31)) - (1 : Int32))) &&& (32 : Int32)))])) t → Steps p.tables e below (s₁.setTop (mkF m 0 #[.val (.int p0), .val (.int p1), .val (.int p2), .unset, .unset, .unset, .unset, .unset, .unset, .unset, .unset, .unset] [])) t := fun t k => pre254 t (by
                show Steps p.tables e below (T2.setTop (mkF m 225 #[.val (.int p0), .val (.int p1), .val (.int p2), .val (.int ln), .val (.ref bb), .val (.int (p1 &&& (((1 : Int32) <<< (ln &&& 31)) - (1 : Int32)))), .unset, .unset, .unset, .unset, .unset, .unset] [(.int ((p1 &&& (((1 : Int32) <<< (ln &&& 31)) - (1 : Int32))) &&& (16 : Int32)))])) _
                refine XS.ifYes X2.here hx rfl (pc0 := 225) (pc' := 234) rfl (hb hby at_225) rfl ((if0 _ _).trans (teq hc253).1) (by decide) (by decide) ?_
                show Steps p.tables e below (T2.setTop (mkF m 234 #[.val (.int p0), .val (.int p1), .val (.int p2), .val (.int ln), .val (.ref bb), .val (.int (p1 &&& (((1 : Int32) <<< (ln &&& 31)) - (1 : Int32)))), .unset, .unset, .unset, .unset, .unset, .unset] [])) _
                refine XS.iload X2.here hx rfl (hb hby at_234) rfl ?_
                show Steps p.tables e below (T2.setTop (mkF m 236 #[.val (.int p0), .val (.int p1), .val (.int p2), .val (.int ln), .val (.ref bb), .val (.int (p1 &&& (((1 : Int32) <<< (ln &&& 31)) - (1 : Int32)))), .unset, .unset, .unset, .unset, .unset, .unset] [(.int (p1 &&& (((1 : Int32) <<< (ln &&& 31)) - (1 : Int32))))])) _
                refine XS.bipush X2.here hx rfl (hb hby at_236) ?_
                show Steps p.tables e below (T2.setTop (mkF m 238 #[.val (.int p0), .val (.int p1), .val (.int p2), .val (.int ln), .val (.ref bb), .val (.int (p1 &&& (((1 : Int32) <<< (ln &&& 31)) - (1 : Int32)))), .unset, .unset, .unset, .unset, .unset, .unset] [(.int (32 : Int32)), (.int (p1 &&& (((1 : Int32) <<< (ln &&& 31)) - (1 : Int32))))])) _
                refine XS.iand X2.here hx rfl (hb hby at_238) rfl ?_
                exact k)
              by_cases hc255 : ((p1 &&& (((1 : Int32) <<< (ln &&& 31)) - (1 : Int32))) &&& (32 : Int32)) = (0 : Int32)
              · skip
                have ohc255 : ((p1 &&& (((1 : Int32) <<< (ln &&& 31)) - (1 : Int32))) &&& (32 : Int32)).toInt = 0 := own_eq.mp hc255
                have pre258 : ∀ t, Steps p.tables e below (T2.setTop (mkF m 254 #[.val (.int p0), .val (.int p1), .val (.int p2), .val (.int ln), .val (.ref bb), .val (.int (p1 &&& (((1 : Int32) <<< (ln &&& 31)) - (1 : Int32)))), .unset, .unset, .unset, .unset, .unset, .unset] [(.int ((p1 &&& (((1 : Int32) <<< (ln &&& 31)) - (1 : Int32))) &&& (64 : Int32)))])) t → Steps p.tables e below (s₁.setTop (mkF m 0 #[.val (.int p0), .val (.int p1), .val (.int p2), .unset, .unset, .unset, .unset, .unset, .unset, .unset, .unset, .unset] [])) t := fun t k => pre256 t (by
                  show Steps p.tables e below (T2.setTop (mkF m 239 #[.val (.int p0), .val (.int p1), .val (.int p2), .val (.int ln), .val (.ref bb), .val (.int (p1 &&& (((1 : Int32) <<< (ln &&& 31)) - (1 : Int32)))), .unset, .unset, .unset, .unset, .unset, .unset] [(.int ((p1 &&& (((1 : Int32) <<< (ln &&& 31)) - (1 : Int32))) &&& (32 : Int32)))])) _
                  refine XS.ifYes X2.here hx rfl (pc0 := 239) (pc' := 249) rfl (hb hby at_239) rfl ((if0 _ _).trans (teq hc255).1) (by decide) (by decide) ?_
                  show Steps p.tables e below (T2.setTop (mkF m 249 #[.val (.int p0), .val (.int p1), .val (.int p2), .val (.int ln), .val (.ref bb), .val (.int (p1 &&& (((1 : Int32) <<< (ln &&& 31)) - (1 : Int32)))), .unset, .unset, .unset, .unset, .unset, .unset] [])) _
                  refine XS.iload X2.here hx rfl (hb hby at_249) rfl ?_
                  show Steps p.tables e below (T2.setTop (mkF m 251 #[.val (.int p0), .val (.int p1), .val (.int p2), .val (.int ln), .val (.ref bb), .val (.int (p1 &&& (((1 : Int32) <<< (ln &&& 31)) - (1 : Int32)))), .unset, .unset, .unset, .unset, .unset, .unset] [(.int (p1 &&& (((1 : Int32) <<< (ln &&& 31)) - (1 : Int32))))])) _
                  refine XS.bipush X2.here hx rfl (hb hby at_251) ?_
                  show Steps p.tables e below (T2.setTop (mkF m 253 #[.val (.int p0), .val (.int p1), .val (.int p2), .val (.int ln), .val (.ref bb), .val (.int (p1 &&& (((1 : Int32) <<< (ln &&& 31)) - (1 : Int32)))), .unset, .unset, .unset, .unset, .unset, .unset] [(.int (64 : Int32)), (.int (p1 &&& (((1 : Int32) <<< (ln &&& 31)) - (1 : Int32))))])) _
                  refine XS.iand X2.here hx rfl (hb hby at_253) rfl ?_
                  exact k)
                by_cases hc257 : ((p1 &&& (((1 : Int32) <<< (ln &&& 31)) - (1 : Int32))) &&& (64 : Int32)) = (0 : Int32)
                · skip
                  have ohc257 : ((p1 &&& (((1 : Int32) <<< (ln &&& 31)) - (1 : Int32))) &&& (64 : Int32)).toInt = 0 := own_eq.mp hc257
                  refine ⟨(0 : Int32), ?_, fun t k => pre258 t ?_⟩
                  · exact own_rk0 p1 ln (by omega) hc245 hc247 hc249 hc251 hc253 hc255 hc257
                  · skip
                    show Steps p.tables e below (T2.setTop (mkF m 254 #[.val (.int p0), .val (.int p1), .val (.int p2), .val (.int ln), .val (.ref bb), .val (.int (p1 &&& (((1 : Int32) <<< (ln &&& 31)) - (1 : Int32)))), .unset, .unset, .unset, .unset, .unset, .unset] [(.int ((p1 &&& (((1 : Int32) <<< (ln &&& 31)) - (1 : Int32))) &&& (64 : Int32)))])) _
                    refine XS.ifYes X2.here hx rfl (pc0 := 254) (pc' := 264) rfl (hb hby at_254) rfl ((if0 _ _).trans (teq hc257).1) (by decide) (by decide) ?_
                    show Steps p.tables e below (T2.setTop (mkF m 264 #[.val (.int p0), .val (.int p1), .val (.int p2), .val (.int ln), .val (.ref bb), .val (.int (p1 &&& (((1 : Int32) <<< (ln &&& 31)) - (1 : Int32)))), .unset, .unset, .unset, .unset, .unset, .unset] [])) _
                    refine XS.iconst X2.here hx rfl (hb hby at_264) ?_
                    show Steps p.tables e below (T2.setTop (mkF m 265 #[.val (.int p0), .val (.int p1), .val (.int p2), .val (.int ln), .val (.ref bb), .val (.int (p1 &&& (((1 : Int32) <<< (ln &&& 31)) - (1 : Int32)))), .unset, .unset, .unset, .unset, .unset, .unset] [(.int (0 : Int32))])) _
                    refine XS.istore X2.here hx rfl (hb hby at_265) rfl (l' := #[.val (.int p0), .val (.int p1), .val (.int p2), .val (.int ln), .val (.ref bb), .val (.int (p1 &&& (((1 : Int32) <<< (ln &&& 31)) - (1 : Int32)))), .val (.int (0 : Int32)), .unset, .unset, .unset, .unset, .unset]) rfl ?_
                    exact k
                · skip
                  have ohc257 : ¬ (((p1 &&& (((1 : Int32) <<< (ln &&& 31)) - (1 : Int32))) &&& (64 : Int32)).toInt = 0) := own_neq.mp hc257
                  refine ⟨(7 : Int32), ?_, fun t k => pre258 t ?_⟩
                  · exact own_rk7 p1 ln (by omega) hc245 hc247 hc249 hc251 hc253 hc255 hc257
                  · skip
                    show Steps p.tables e below (T2.setTop (mkF m 254 #[.val (.int p0), .val (.int p1), .val (.int p2), .val (.int ln), .val (.ref bb), .val (.int (p1 &&& (((1 : Int32) <<< (ln &&& 31)) - (1 : Int32)))), .unset, .unset, .unset, .unset, .unset, .unset] [(.int ((p1 &&& (((1 : Int32) <<< (ln &&& 31)) - (1 : Int32))) &&& (64 : Int32)))])) _
                    refine XS.ifNo X2.here hx rfl (hb hby at_254) rfl ((if0 _ _).trans (feq hc257).1) ?_
                    show Steps p.tables e below (T2.setTop (mkF m 257 #[.val (.int p0), .val (.int p1), .val (.int p2), .val (.int ln), .val (.ref bb), .val (.int (p1 &&& (((1 : Int32) <<< (ln &&& 31)) - (1 : Int32)))), .unset, .unset, .unset, .unset, .unset, .unset] [])) _
                    refine XS.bipush X2.here hx rfl (hb hby at_257) ?_
                    show Steps p.tables e below (T2.setTop (mkF m 259 #[.val (.int p0), .val (.int p1), .val (.int p2), .val (.int ln), .val (.ref bb), .val (.int (p1 &&& (((1 : Int32) <<< (ln &&& 31)) - (1 : Int32)))), .unset, .unset, .unset, .unset, .unset, .unset] [(.int (7 : Int32))])) _
                    refine XS.istore X2.here hx rfl (hb hby at_259) rfl (l' := #[.val (.int p0), .val (.int p1), .val (.int p2), .val (.int ln), .val (.ref bb), .val (.int (p1 &&& (((1 : Int32) <<< (ln &&& 31)) - (1 : Int32)))), .val (.int (7 : Int32)), .unset, .unset, .unset, .unset, .unset]) rfl ?_
                    show Steps p.tables e below (T2.setTop (mkF m 261 #[.val (.int p0), .val (.int p1), .val (.int p2), .val (.int ln), .val (.ref bb), .val (.int (p1 &&& (((1 : Int32) <<< (ln &&& 31)) - (1 : Int32)))), .val (.int (7 : Int32)), .unset, .unset, .unset, .unset, .unset] [])) _
                    refine XS.goto X2.here hx rfl (pc0 := 261) (pc' := 267) rfl (hb hby at_261) (by decide) (by decide) ?_
                    exact k
              · skip
                have ohc255 : ¬ (((p1 &&& (((1 : Int32) <<< (ln &&& 31)) - (1 : Int32))) &&& (32 : Int32)).toInt = 0) := own_neq.mp hc255
                refine ⟨(6 : Int32), ?_, fun t k => pre256 t ?_⟩
                · exact own_rk6 p1 ln (by omega) hc245 hc247 hc249 hc251 hc253 hc255
                · skip
                  show Steps p.tables e below (T2.setTop (mkF m 239 #[.val (.int p0), .val (.int p1), .val (.int p2), .val (.int ln), .val (.ref bb), .val (.int (p1 &&& (((1 : Int32) <<< (ln &&& 31)) - (1 : Int32)))), .unset, .unset, .unset, .unset, .unset, .unset] [(.int ((p1 &&& (((1 : Int32) <<< (ln &&& 31)) - (1 : Int32))) &&& (32 : Int32)))])) _
                  refine XS.ifNo X2.here hx rfl (hb hby at_239) rfl ((if0 _ _).trans (feq hc255).1) ?_
                  show Steps p.tables e below (T2.setTop (mkF m 242 #[.val (.int p0), .val (.int p1), .val (.int p2), .val (.int ln), .val (.ref bb), .val (.int (p1 &&& (((1 : Int32) <<< (ln &&& 31)) - (1 : Int32)))), .unset, .unset, .unset, .unset, .unset, .unset] [])) _
                  refine XS.bipush X2.here hx rfl (hb hby at_242) ?_
                  show Steps p.tables e below (T2.setTop (mkF m 244 #[.val (.int p0), .val (.int p1), .val (.int p2), .val (.int ln), .val (.ref bb), .val (.int (p1 &&& (((1 : Int32) <<< (ln &&& 31)) - (1 : Int32)))), .unset, .unset, .unset, .unset, .unset, .unset] [(.int (6 : Int32))])) _
                  refine XS.istore X2.here hx rfl (hb hby at_244) rfl (l' := #[.val (.int p0), .val (.int p1), .val (.int p2), .val (.int ln), .val (.ref bb), .val (.int (p1 &&& (((1 : Int32) <<< (ln &&& 31)) - (1 : Int32)))), .val (.int (6 : Int32)), .unset, .unset, .unset, .unset, .unset]) rfl ?_
                  show Steps p.tables e below (T2.setTop (mkF m 246 #[.val (.int p0), .val (.int p1), .val (.int p2), .val (.int ln), .val (.ref bb), .val (.int (p1 &&& (((1 : Int32) <<< (ln &&& 31)) - (1 : Int32)))), .val (.int (6 : Int32)), .unset, .unset, .unset, .unset, .unset] [])) _
                  refine XS.goto X2.here hx rfl (pc0 := 246) (pc' := 267) rfl (hb hby at_246) (by decide) (by decide) ?_
                  exact k
            · skip
              have ohc253 : ¬ (((p1 &&& (((1 : Int32) <<< (ln &&& 31)) - (1 : Int32))) &&& (16 : Int32)).toInt = 0) := own_neq.mp hc253
              refine ⟨(5 : Int32), ?_, fun t k => pre254 t ?_⟩
              · exact own_rk5 p1 ln (by omega) hc245 hc247 hc249 hc251 hc253
              · skip
                show Steps p.tables e below (T2.setTop (mkF m 225 #[.val (.int p0), .val (.int p1), .val (.int p2), .val (.int ln), .val (.ref bb), .val (.int (p1 &&& (((1 : Int32) <<< (ln &&& 31)) - (1 : Int32)))), .unset, .unset, .unset, .unset, .unset, .unset] [(.int ((p1 &&& (((1 : Int32) <<< (ln &&& 31)) - (1 : Int32))) &&& (16 : Int32)))])) _
                refine XS.ifNo X2.here hx rfl (hb hby at_225) rfl ((if0 _ _).trans (feq hc253).1) ?_
                show Steps p.tables e below (T2.setTop (mkF m 228 #[.val (.int p0), .val (.int p1), .val (.int p2), .val (.int ln), .val (.ref bb), .val (.int (p1 &&& (((1 : Int32) <<< (ln &&& 31)) - (1 : Int32)))), .unset, .unset, .unset, .unset, .unset, .unset] [])) _
                refine XS.iconst X2.here hx rfl (hb hby at_228) ?_
                show Steps p.tables e below (T2.setTop (mkF m 229 #[.val (.int p0), .val (.int p1), .val (.int p2), .val (.int ln), .val (.ref bb), .val (.int (p1 &&& (((1 : Int32) <<< (ln &&& 31)) - (1 : Int32)))), .unset, .unset, .unset, .unset, .unset, .unset] [(.int (5 : Int32))])) _
                refine XS.istore X2.here hx rfl (hb hby at_229) rfl (l' := #[.val (.int p0), .val (.int p1), .val (.int p2), .val (.int ln), .val (.ref bb), .val (.int (p1 &&& (((1 : Int32) <<< (ln &&& 31)) - (1 : Int32)))), .val (.int (5 : Int32)), .unset, .unset, .unset, .unset, .unset]) rfl ?_
                show Steps p.tables e below (T2.setTop (mkF m 231 #[.val (.int p0), .val (.int p1), .val (.int p2), .val (.int ln), .val (.ref bb), .val (.int (p1 &&& (((1 : Int32) <<< (ln &&& 31)) - (1 : Int32)))), .val (.int (5 : Int32)), .unset, .unset, .unset, .unset, .unset] [])) _
                refine XS.goto X2.here hx rfl (pc0 := 231) (pc' := 267) rfl (hb hby at_231) (by decide) (by decide) ?_
                exact k
          · skip
            have ohc251 : ¬ (((p1 &&& (((1 : Int32) <<< (ln &&& 31)) - (1 : Int32))) &&& (8 : Int32)).toInt = 0) := own_neq.mp hc251
            refine ⟨(4 : Int32), ?_, fun t k => pre252 t ?_⟩
            · exact own_rk4 p1 ln (by omega) hc245 hc247 hc249 hc251
            · skip
              show Steps p.tables e below (T2.setTop (mkF m 211 #[.val (.int p0), .val (.int p1), .val (.int p2), .val (.int ln), .val (.ref bb), .val (.int (p1 &&& (((1 : Int32) <<< (ln &&& 31)) - (1 : Int32)))), .unset, .unset, .unset, .unset, .unset, .unset] [(.int ((p1 &&& (((1 : Int32) <<< (ln &&& 31)) - (1 : Int32))) &&& (8 : Int32)))])) _
              refine XS.ifNo X2.here hx rfl (hb hby at_211) rfl ((if0 _ _).trans (feq hc251).1) ?_
              show Steps p.tables e below (T2.setTop (mkF m 214 #[.val (.int p0), .val (.int p1), .val (.int p2), .val (.int ln), .val (.ref bb), .val (.int (p1 &&& (((1 : Int32) <<< (ln &&& 31)) - (1 : Int32)))), .unset, .unset, .unset, .unset, .unset, .unset] [])) _
              refine XS.iconst X2.here hx rfl (hb hby at_214) ?_
              show Steps p.tables e below (T2.setTop (mkF m 215 #[.val (.int p0), .val (.int p1), .val (.int p2), .val (.int ln), .val (.ref bb), .val (.int (p1 &&& (((1 : Int32) <<< (ln &&& 31)) - (1 : Int32)))), .unset, .unset, .unset, .unset, .unset, .unset] [(.int (4 : Int32))])) _
              refine XS.istore X2.here hx rfl (hb hby at_215) rfl (l' := #[.val (.int p0), .val (.int p1), .val (.int p2), .val (.int ln), .val (.ref bb), .val (.int (p1 &&& (((1 : Int32) <<< (ln &&& 31)) - (1 : Int32)))), .val (.int (4 : Int32)), .unset, .unset, .unset, .unset, .unset]) rfl ?_
              show Steps p.tables e below (T2.setTop (mkF m 217 #[.val (.int p0), .val (.int p1), .val (.int p2), .val (.int ln), .val (.ref bb), .val (.int (p1 &&& (((1 : Int32) <<< (ln &&& 31)) - (1 : Int32)))), .val (.int (4 : Int32)), .unset, .unset, .unset, .unset, .unset] [])) _
              refine XS.goto X2.here hx rfl (pc0 := 217) (pc' := 267) rfl (hb hby at_217) (by decide) (by decide) ?_
              exact k
        · skip
          have ohc249 : ¬ (((p1 &&& (((1 : Int32) <<< (ln &&& 31)) - (1 : Int32))) &&& (4 : Int32)).toInt = 0) := own_neq.mp hc249
          refine ⟨(3 : Int32), ?_, fun t k => pre250 t ?_⟩
          · exact own_rk3 p1 ln (by omega) hc245 hc247 hc249
          · skip
            show Steps p.tables e below (T2.setTop (mkF m 197 #[.val (.int p0), .val (.int p1), .val (.int p2), .val (.int ln), .val (.ref bb), .val (.int (p1 &&& (((1 : Int32) <<< (ln &&& 31)) - (1 : Int32)))), .unset, .unset, .unset, .unset, .unset, .unset] [(.int ((p1 &&& (((1 : Int32) <<< (ln &&& 31)) - (1 : Int32))) &&& (4 : Int32)))])) _
            refine XS.ifNo X2.here hx rfl (hb hby at_197) rfl ((if0 _ _).trans (feq hc249).1) ?_
            show Steps p.tables e below (T2.setTop (mkF m 200 #[.val (.int p0), .val (.int p1), .val (.int p2), .val (.int ln), .val (.ref bb), .val (.int (p1 &&& (((1 : Int32) <<< (ln &&& 31)) - (1 : Int32)))), .unset, .unset, .unset, .unset, .unset, .unset] [])) _
            refine XS.iconst X2.here hx rfl (hb hby at_200) ?_
            show Steps p.tables e below (T2.setTop (mkF m 201 #[.val (.int p0), .val (.int p1), .val (.int p2), .val (.int ln), .val (.ref bb), .val (.int (p1 &&& (((1 : Int32) <<< (ln &&& 31)) - (1 : Int32)))), .unset, .unset, .unset, .unset, .unset, .unset] [(.int (3 : Int32))])) _
            refine XS.istore X2.here hx rfl (hb hby at_201) rfl (l' := #[.val (.int p0), .val (.int p1), .val (.int p2), .val (.int ln), .val (.ref bb), .val (.int (p1 &&& (((1 : Int32) <<< (ln &&& 31)) - (1 : Int32)))), .val (.int (3 : Int32)), .unset, .unset, .unset, .unset, .unset]) rfl ?_
            show Steps p.tables e below (T2.setTop (mkF m 203 #[.val (.int p0), .val (.int p1), .val (.int p2), .val (.int ln), .val (.ref bb), .val (.int (p1 &&& (((1 : Int32) <<< (ln &&& 31)) - (1 : Int32)))), .val (.int (3 : Int32)), .unset, .unset, .unset, .unset, .unset] [])) _
            refine XS.goto X2.here hx rfl (pc0 := 203) (pc' := 267) rfl (hb hby at_203) (by decide) (by decide) ?_
            exact k
      · skip
        have ohc247 : ¬ (((p1 &&& (((1 : Int32) <<< (ln &&& 31)) - (1 : Int32))) &&& (2 : Int32)).toInt = 0) := own_neq.mp hc247
        refine ⟨(2 : Int32), ?_, fun t k => pre248 t ?_⟩
        · exact own_rk2 p1 ln (by omega) hc245 hc247
        · skip
          show Steps p.tables e below (T2.setTop (mkF m 184 #[.val (.int p0), .val (.int p1), .val (.int p2), .val (.int ln), .val (.ref bb), .val (.int (p1 &&& (((1 : Int32) <<< (ln &&& 31)) - (1 : Int32)))), .unset, .unset, .unset, .unset, .unset, .unset] [(.int ((p1 &&& (((1 : Int32) <<< (ln &&& 31)) - (1 : Int32))) &&& (2 : Int32)))])) _
          refine XS.ifNo X2.here hx rfl (hb hby at_184) rfl ((if0 _ _).trans (feq hc247).1) ?_
          show Steps p.tables e below (T2.setTop (mkF m 187 #[.val (.int p0), .val (.int p1), .val (.int p2), .val (.int ln), .val (.ref bb), .val (.int (p1 &&& (((1 : Int32) <<< (ln &&& 31)) - (1 : Int32)))), .unset, .unset, .unset, .unset, .unset, .unset] [])) _
          refine XS.iconst X2.here hx rfl (hb hby at_187) ?_
          show Steps p.tables e below (T2.setTop (mkF m 188 #[.val (.int p0), .val (.int p1), .val (.int p2), .val (.int ln), .val (.ref bb), .val (.int (p1 &&& (((1 : Int32) <<< (ln &&& 31)) - (1 : Int32)))), .unset, .unset, .unset, .unset, .unset, .unset] [(.int (2 : Int32))])) _
          refine XS.istore X2.here hx rfl (hb hby at_188) rfl (l' := #[.val (.int p0), .val (.int p1), .val (.int p2), .val (.int ln), .val (.ref bb), .val (.int (p1 &&& (((1 : Int32) <<< (ln &&& 31)) - (1 : Int32)))), .val (.int (2 : Int32)), .unset, .unset, .unset, .unset, .unset]) rfl ?_
          show Steps p.tables e below (T2.setTop (mkF m 190 #[.val (.int p0), .val (.int p1), .val (.int p2), .val (.int ln), .val (.ref bb), .val (.int (p1 &&& (((1 : Int32) <<< (ln &&& 31)) - (1 : Int32)))), .val (.int (2 : Int32)), .unset, .unset, .unset, .unset, .unset] [])) _
          refine XS.goto X2.here hx rfl (pc0 := 190) (pc' := 267) rfl (hb hby at_190) (by decide) (by decide) ?_
          exact k
    · skip
      have ohc245 : ¬ (((p1 &&& (((1 : Int32) <<< (ln &&& 31)) - (1 : Int32))) &&& (1 : Int32)).toInt = 0) := own_neq.mp hc245
      refine ⟨(1 : Int32), ?_, fun t k => pre246 t ?_⟩
      · exact own_rk1 p1 ln (by omega) hc245
      · skip
        show Steps p.tables e below (T2.setTop (mkF m 171 #[.val (.int p0), .val (.int p1), .val (.int p2), .val (.int ln), .val (.ref bb), .val (.int (p1 &&& (((1 : Int32) <<< (ln &&& 31)) - (1 : Int32)))), .unset, .unset, .unset, .unset, .unset, .unset] [(.int ((p1 &&& (((1 : Int32) <<< (ln &&& 31)) - (1 : Int32))) &&& (1 : Int32)))])) _
        refine XS.ifNo X2.here hx rfl (hb hby at_171) rfl ((if0 _ _).trans (feq hc245).1) ?_
        show Steps p.tables e below (T2.setTop (mkF m 174 #[.val (.int p0), .val (.int p1), .val (.int p2), .val (.int ln), .val (.ref bb), .val (.int (p1 &&& (((1 : Int32) <<< (ln &&& 31)) - (1 : Int32)))), .unset, .unset, .unset, .unset, .unset, .unset] [])) _
        refine XS.iconst X2.here hx rfl (hb hby at_174) ?_
        show Steps p.tables e below (T2.setTop (mkF m 175 #[.val (.int p0), .val (.int p1), .val (.int p2), .val (.int ln), .val (.ref bb), .val (.int (p1 &&& (((1 : Int32) <<< (ln &&& 31)) - (1 : Int32)))), .unset, .unset, .unset, .unset, .unset, .unset] [(.int (1 : Int32))])) _
        refine XS.istore X2.here hx rfl (hb hby at_175) rfl (l' := #[.val (.int p0), .val (.int p1), .val (.int p2), .val (.int ln), .val (.ref bb), .val (.int (p1 &&& (((1 : Int32) <<< (ln &&& 31)) - (1 : Int32)))), .val (.int (1 : Int32)), .unset, .unset, .unset, .unset, .unset]) rfl ?_
        show Steps p.tables e below (T2.setTop (mkF m 177 #[.val (.int p0), .val (.int p1), .val (.int p2), .val (.int ln), .val (.ref bb), .val (.int (p1 &&& (((1 : Int32) <<< (ln &&& 31)) - (1 : Int32)))), .val (.int (1 : Int32)), .unset, .unset, .unset, .unset, .unset] [])) _
        refine XS.goto X2.here hx rfl (pc0 := 177) (pc' := 267) rfl (hb hby at_177) (by decide) (by decide) ?_
        exact k
  obtain ⟨dv, rfl, pre259⟩ : ∃ (dv : UInt64), (dv = own_rr rv) ∧ ∀ t, Steps p.tables e below (T2.setTop (mkF m 281 #[.val (.int p0), .val (.int p1), .val (.int p2), .val (.int ln), .val (.ref bb), .val (.int (p1 &&& (((1 : Int32) <<< (ln &&& 31)) - (1 : Int32)))), .val (.int rv), .unset, .unset, .unset, .unset, .unset] [(.double dv)])) t → Steps p.tables e below (s₁.setTop (mkF m 0 #[.val (.int p0), .val (.int p1), .val (.int p2), .unset, .unset, .unset, .unset, .unset, .unset, .unset, .unset, .unset] [])) t := by
    have pre261 : ∀ t, Steps p.tables e below (T2.setTop (mkF m 269 #[.val (.int p0), .val (.int p1), .val (.int p2), .val (.int ln), .val (.ref bb), .val (.int (p1 &&& (((1 : Int32) <<< (ln &&& 31)) - (1 : Int32)))), .val (.int rv), .unset, .unset, .unset, .unset, .unset] [(.int rv)])) t → Steps p.tables e below (s₁.setTop (mkF m 0 #[.val (.int p0), .val (.int p1), .val (.int p2), .unset, .unset, .unset, .unset, .unset, .unset, .unset, .unset, .unset] [])) t := fun t k => pre244 t (by
      show Steps p.tables e below (T2.setTop (mkF m 267 #[.val (.int p0), .val (.int p1), .val (.int p2), .val (.int ln), .val (.ref bb), .val (.int (p1 &&& (((1 : Int32) <<< (ln &&& 31)) - (1 : Int32)))), .val (.int rv), .unset, .unset, .unset, .unset, .unset] [])) _
      refine XS.iload X2.here hx rfl (hb hby at_267) rfl ?_
      exact k)
    by_cases hc260 : rv = (0 : Int32)
    · skip
      have ohc260 : rv.toInt = 0 := own_eq.mp hc260
      refine ⟨FP.dconst0, ?_, fun t k => pre261 t ?_⟩
      · exact (own_rr0 hc260).symm
      · skip
        show Steps p.tables e below (T2.setTop (mkF m 269 #[.val (.int p0), .val (.int p1), .val (.int p2), .val (.int ln), .val (.ref bb), .val (.int (p1 &&& (((1 : Int32) <<< (ln &&& 31)) - (1 : Int32)))), .val (.int rv), .unset, .unset, .unset, .unset, .unset] [(.int rv)])) _
        refine XS.ifNo X2.here hx rfl (hb hby at_269) rfl ((if0 _ _).trans (teq hc260).2) ?_
        show Steps p.tables e below (T2.setTop (mkF m 272 #[.val (.int p0), .val (.int p1), .val (.int p2), .val (.int ln), .val (.ref bb), .val (.int (p1 &&& (((1 : Int32) <<< (ln &&& 31)) - (1 : Int32)))), .val (.int rv), .unset, .unset, .unset, .unset, .unset] [])) _
        refine XS.dconst0 X2.here hx rfl (hb hby at_272) rfl ?_
        show Steps p.tables e below (T2.setTop (mkF m 273 #[.val (.int p0), .val (.int p1), .val (.int p2), .val (.int ln), .val (.ref bb), .val (.int (p1 &&& (((1 : Int32) <<< (ln &&& 31)) - (1 : Int32)))), .val (.int rv), .unset, .unset, .unset, .unset, .unset] [(.double FP.dconst0)])) _
        refine XS.goto X2.here hx rfl (pc0 := 273) (pc' := 281) rfl (hb hby at_273) (by decide) (by decide) ?_
        exact k
    · skip
      have ohc260 : ¬ (rv.toInt = 0) := own_neq.mp hc260
      refine ⟨(FP.ddiv FP.dconst1 (FP.i2d rv)), ?_, fun t k => pre261 t ?_⟩
      · exact (own_rr1 hc260).symm
      · skip
        show Steps p.tables e below (T2.setTop (mkF m 269 #[.val (.int p0), .val (.int p1), .val (.int p2), .val (.int ln), .val (.ref bb), .val (.int (p1 &&& (((1 : Int32) <<< (ln &&& 31)) - (1 : Int32)))), .val (.int rv), .unset, .unset, .unset, .unset, .unset] [(.int rv)])) _
        refine XS.ifYes X2.here hx rfl (pc0 := 269) (pc' := 276) rfl (hb hby at_269) rfl ((if0 _ _).trans (feq hc260).2) (by decide) (by decide) ?_
        show Steps p.tables e below (T2.setTop (mkF m 276 #[.val (.int p0), .val (.int p1), .val (.int p2), .val (.int ln), .val (.ref bb), .val (.int (p1 &&& (((1 : Int32) <<< (ln &&& 31)) - (1 : Int32)))), .val (.int rv), .unset, .unset, .unset, .unset, .unset] [])) _
        refine XS.dconst1 X2.here hx rfl (hb hby at_276) rfl ?_
        show Steps p.tables e below (T2.setTop (mkF m 277 #[.val (.int p0), .val (.int p1), .val (.int p2), .val (.int ln), .val (.ref bb), .val (.int (p1 &&& (((1 : Int32) <<< (ln &&& 31)) - (1 : Int32)))), .val (.int rv), .unset, .unset, .unset, .unset, .unset] [(.double FP.dconst1)])) _
        refine XS.iload X2.here hx rfl (hb hby at_277) rfl ?_
        show Steps p.tables e below (T2.setTop (mkF m 279 #[.val (.int p0), .val (.int p1), .val (.int p2), .val (.int ln), .val (.ref bb), .val (.int (p1 &&& (((1 : Int32) <<< (ln &&& 31)) - (1 : Int32)))), .val (.int rv), .unset, .unset, .unset, .unset, .unset] [(.int rv), (.double FP.dconst1)])) _
        refine XS.i2dS X2.here hx rfl (hb hby at_279) rfl rfl ?_
        show Steps p.tables e below (T2.setTop (mkF m 280 #[.val (.int p0), .val (.int p1), .val (.int p2), .val (.int ln), .val (.ref bb), .val (.int (p1 &&& (((1 : Int32) <<< (ln &&& 31)) - (1 : Int32)))), .val (.int rv), .unset, .unset, .unset, .unset, .unset] [(.double (FP.i2d rv)), (.double FP.dconst1)])) _
        refine XS.ddivS X2.here hx rfl (hb hby at_280) rfl (own_nn rv (fun q => ohc260 (by rw [q]; rfl))) rfl ?_
        exact k
  obtain ⟨T262, h262, X262, e262, E262, A262, D262, -, st262⟩ := newO X2 hx hZ hown (hw _ (List.mem_of_getElem? (i := 2) rfl)) (hw _ (List.mem_of_getElem? (i := 3) rfl)) (hw _ (List.mem_of_getElem? (i := 4) rfl)) e2 (g := (mkF m 283 #[.val (.int p0), .val (.int p1), .val (.int p2), .val (.int ln), .val (.ref bb), .val (.int (p1 &&& (((1 : Int32) <<< (ln &&& 31)) - (1 : Int32)))), .val (.int rv), .val (.double (own_rr rv)), .second, .unset, .unset, .unset] [])) rfl (hb hby at_283) (by decide) (by decide)
  obtain ⟨b262, g262⟩ : ∃ z, z = hh2.size := ⟨_, rfl⟩
  rw [← g262] at A262 D262 st262
  have g_b262 : n0 ≤ b262 := Nat.le_trans Z2 (Nat.le_of_eq g262.symm)
  skip
  have Z262 : n0 ≤ h262.size := Nat.le_trans Z2 E262.1
  have ne_bb_b262 : bb ≠ b262 := Nat.ne_of_lt (Nat.lt_of_lt_of_le AB.lt (Nat.le_of_eq g262.symm))
  have K262 : Keep h0 h262 [] := K2.ext E262
  have sz_b262 : h0.size ≤ b262 := Nat.le_trans K2.1 (Nat.le_of_eq g262.symm)
  have c263 : Arr Z h262 bb cb .boolean := AB.ext E262
  have F262_relevant : Fld Z h262 b262 "com/example/cranfield/cranfield/eval/RankedTopic" "relevant" "[Z" .null := D262 (Or.inr (hw _ (List.mem_of_getElem? (i := 12) rfl))) (ty := (.array .boolean)) (by decide)
  have F262_relevantCount : Fld Z h262 b262 "com/example/cranfield/cranfield/eval/RankedTopic" "relevantCount" "I" (.int (0 : Int32)) := D262 (Or.inr (hw _ (List.mem_of_getElem? (i := 14) rfl))) (ty := .int) (by decide)
  obtain ⟨_, _, ⟨T264, L264, k264, n264⟩, -, X264, ⟨Lc264, hQ264, l264, y264, z264⟩, st264⟩ := X262.specialBack hx (y := (⟨"com/example/cranfield/cranfield/eval/RankedTopic", "<init>", "([ZI)V"⟩ : MethodName)) rfl hown (mvT hZ (hw _ (List.mem_of_getElem? (i := 5) rfl))) (mvT hZ (hw _ (List.mem_of_getElem? (i := 6) rfl))) (mvT hZ (hw _ (List.mem_of_getElem? (i := 7) rfl))) (by decide) (backOf (W := 1) (rm1 l Z a0 hw [] b262 bb p2 h262 n0 Z262 A262 F262_relevant F262_relevantCount g_b262 ) hZ (hw _ (List.mem_of_getElem? (i := 7) rfl)) (hw _ (List.mem_of_getElem? (i := 4) rfl)) (by decide) (by decide)) (g := (mkF m 290 #[.val (.int p0), .val (.int p1), .val (.int p2), .val (.int ln), .val (.ref bb), .val (.int (p1 &&& (((1 : Int32) <<< (ln &&& 31)) - (1 : Int32)))), .val (.int rv), .val (.double (own_rr rv)), .second, .unset, .unset, .unset] [(.int p2), (.ref bb), (.ref b262), (.ref b262)])) rfl (by rw [hml]; rfl) (Steps.refl _) (a := b262) (argsL := [(.ref bb), (.int p2)]) (rest := [(.ref b262)]) (lenOf pd_0 rfl) rfl (by show 2 * 0 + _ ≤ _; exact Nat.le_of_eq rfl) (hb hby at_290) (fun _ _ => ⟨rfl, e262, (by decide : 2 + 0 ≤ _), (by decide : 9 + 0 ≤ _)⟩)
  dsimp only [Pt.U, Pt.locs, Pt.cells, Pt.slots] at X264 l264 y264 z264 st264 hQ264
  subst l264 y264 z264
  obtain ⟨rfl, Nq264, Kq264, Eq264, Fq264_0, Fq264_1⟩ := hQ264
  have N264 := Fr.app N2 Nq264
  have Z264 : n0 ≤ T264.heap.size := Nat.le_trans Z262 Kq264.1
  have K264 : Keep h0 T264.heap [] := K262.trans Kq264 (fun x hx => by cases List.mem_singleton.mp hx; exact (Or.inr sz_b262))
  have c265 : Arr Z T264.heap bb cb .boolean := ⟨Kq264.2.1 _ _ c263.1 (fun q => ne_bb_b262 (List.mem_singleton.mp q)), c263.2⟩
  obtain ⟨cq266, kq266, q266a, q266b, q266c⟩ := isOf hZ rfl Eq264
  obtain ⟨_, _, ⟨T266, L266, k266, n266⟩, -, X266, ⟨Lc266, hQ266, l266, y266, z266⟩, st266⟩ := X264.virtualBack hx (y := (⟨"com/example/cranfield/cranfield/eval/RankedTopic", "reciprocalRank", "()D"⟩ : MethodName)) (z := (⟨"com/example/cranfield/cranfield/eval/RankedTopic", "reciprocalRank", "()D"⟩ : MethodName)) hown (mvT hZ (hw _ (List.mem_of_getElem? (i := 15) rfl))) (mvT hZ (hw _ (List.mem_of_getElem? (i := 16) rfl))) (notFace_of_selects (args := #[]) (mvT hZ (hw _ (List.mem_of_getElem? (i := 18) rfl)))) (mvT hZ (hw _ (List.mem_of_getElem? (i := 18) rfl))) (mvT hZ (hw _ (List.mem_of_getElem? (i := 17) rfl))) (by decide) (backOf (W := 0) (rm3 l Z a0 hw [] b262 bb cb ln (own_B p1) T264.heap n0 Z264 (by omega) Fq264_0 c265 SB MB HB) hZ (hw _ (List.mem_of_getElem? (i := 19) rfl)) (hw _ (List.mem_of_getElem? (i := 4) rfl)) (by decide) (by decide)) q266a q266c (g := (mkF m 297 #[.val (.int p0), .val (.int p1), .val (.int p2), .val (.int ln), .val (.ref bb), .val (.int (p1 &&& (((1 : Int32) <<< (ln &&& 31)) - (1 : Int32)))), .val (.int rv), .val (.double (own_rr rv)), .second, .val (.ref b262), .unset, .unset] [(.ref b262)])) rfl (by rw [hml]; rfl) (Steps.refl _) (argsL := []) (rest := []) (lenOf pd_1 rfl) rfl (by show 2 * 0 + _ ≤ _; exact Nat.le_of_eq rfl) (hb hby at_297) (fun _ _ => ⟨rfl, rfl, (by decide : 2 + 0 ≤ _), (by decide : 9 + 0 ≤ _)⟩)
  dsimp only [Pt.U, Pt.locs, Pt.cells, Pt.slots] at X266 l266 y266 z266 st266 hQ266
  subst l266 y266 z266
  obtain ⟨rg, rfl, Nq266, e266, hsp⟩ := hQ266
  have N266 := Fr.app N264 Nq266
  have hc267 : (0 : Int32) = (0 : Int32) := by decide
  obtain ⟨fs, hr, hrun, hended, hW, hsame⟩ := X266.leave (v := some (.int (1 : Int32))) (fun h => by rw [Bd.returns] at h; cases h)
  refine ⟨_, _, pre0 _ (pre259 _ ?_), hrun, hended, _, _, rfl, ?_, ⟨_, rfl⟩, hW, hsame.mono (by decide) (by decide)⟩
  · skip
    show Steps p.tables e below (T2.setTop (mkF m 281 #[.val (.int p0), .val (.int p1), .val (.int p2), .val (.int ln), .val (.ref bb), .val (.int (p1 &&& (((1 : Int32) <<< (ln &&& 31)) - (1 : Int32)))), .val (.int rv), .unset, .unset, .unset, .unset, .unset] [(.double (own_rr rv))])) _
    refine XS.dstore X2.here hx rfl (hb hby at_281) rfl (l' := #[.val (.int p0), .val (.int p1), .val (.int p2), .val (.int ln), .val (.ref bb), .val (.int (p1 &&& (((1 : Int32) <<< (ln &&& 31)) - (1 : Int32)))), .val (.int rv), .val (.double (own_rr rv)), .second, .unset, .unset, .unset]) rfl ?_
    show Steps p.tables e below (T2.setTop (mkF m 283 #[.val (.int p0), .val (.int p1), .val (.int p2), .val (.int ln), .val (.ref bb), .val (.int (p1 &&& (((1 : Int32) <<< (ln &&& 31)) - (1 : Int32)))), .val (.int rv), .val (.double (own_rr rv)), .second, .unset, .unset, .unset] [])) _
    refine st262 _ ?_
    show Steps p.tables e below (T262.setTop (mkF m 286 #[.val (.int p0), .val (.int p1), .val (.int p2), .val (.int ln), .val (.ref bb), .val (.int (p1 &&& (((1 : Int32) <<< (ln &&& 31)) - (1 : Int32)))), .val (.int rv), .val (.double (own_rr rv)), .second, .unset, .unset, .unset] [(.ref b262)])) _
    refine XS.dup X262.here hx rfl (hb hby at_286) rfl rfl ?_
    show Steps p.tables e below (T262.setTop (mkF m 287 #[.val (.int p0), .val (.int p1), .val (.int p2), .val (.int ln), .val (.ref bb), .val (.int (p1 &&& (((1 : Int32) <<< (ln &&& 31)) - (1 : Int32)))), .val (.int rv), .val (.double (own_rr rv)), .second, .unset, .unset, .unset] [(.ref b262), (.ref b262)])) _
    refine XS.aload X262.here hx rfl (hb hby at_287) rfl rfl ?_
    show Steps p.tables e below (T262.setTop (mkF m 289 #[.val (.int p0), .val (.int p1), .val (.int p2), .val (.int ln), .val (.ref bb), .val (.int (p1 &&& (((1 : Int32) <<< (ln &&& 31)) - (1 : Int32)))), .val (.int rv), .val (.double (own_rr rv)), .second, .unset, .unset, .unset] [(.ref bb), (.ref b262), (.ref b262)])) _
    refine XS.iloadN X262.here hx rfl (hb hby at_289) rfl ?_
    show Steps p.tables e below (T262.setTop (mkF m 290 #[.val (.int p0), .val (.int p1), .val (.int p2), .val (.int ln), .val (.ref bb), .val (.int (p1 &&& (((1 : Int32) <<< (ln &&& 31)) - (1 : Int32)))), .val (.int rv), .val (.double (own_rr rv)), .second, .unset, .unset, .unset] [(.int p2), (.ref bb), (.ref b262), (.ref b262)])) _
    refine st264.trans ?_
    show Steps p.tables e below (T264.setTop (mkF m 293 #[.val (.int p0), .val (.int p1), .val (.int p2), .val (.int ln), .val (.ref bb), .val (.int (p1 &&& (((1 : Int32) <<< (ln &&& 31)) - (1 : Int32)))), .val (.int rv), .val (.double (own_rr rv)), .second, .unset, .unset, .unset] [(.ref b262)])) _
    refine XS.astore X264.here hx rfl (hb hby at_293) rfl rfl (l' := #[.val (.int p0), .val (.int p1), .val (.int p2), .val (.int ln), .val (.ref bb), .val (.int (p1 &&& (((1 : Int32) <<< (ln &&& 31)) - (1 : Int32)))), .val (.int rv), .val (.double (own_rr rv)), .second, .val (.ref b262), .unset, .unset]) rfl ?_
    show Steps p.tables e below (T264.setTop (mkF m 295 #[.val (.int p0), .val (.int p1), .val (.int p2), .val (.int ln), .val (.ref bb), .val (.int (p1 &&& (((1 : Int32) <<< (ln &&& 31)) - (1 : Int32)))), .val (.int rv), .val (.double (own_rr rv)), .second, .val (.ref b262), .unset, .unset] [])) _
    refine XS.aload X264.here hx rfl (hb hby at_295) rfl rfl ?_
    show Steps p.tables e below (T264.setTop (mkF m 297 #[.val (.int p0), .val (.int p1), .val (.int p2), .val (.int ln), .val (.ref bb), .val (.int (p1 &&& (((1 : Int32) <<< (ln &&& 31)) - (1 : Int32)))), .val (.int rv), .val (.double (own_rr rv)), .second, .val (.ref b262), .unset, .unset] [(.ref b262)])) _
    refine st266.trans ?_
    show Steps p.tables e below (T266.setTop (mkF m 300 #[.val (.int p0), .val (.int p1), .val (.int p2), .val (.int ln), .val (.ref bb), .val (.int (p1 &&& (((1 : Int32) <<< (ln &&& 31)) - (1 : Int32)))), .val (.int rv), .val (.double (own_rr rv)), .second, .val (.ref b262), .unset, .unset] [(.double (own_rr rg))])) _
    refine XS.dstore X266.here hx rfl (hb hby at_300) rfl (l' := #[.val (.int p0), .val (.int p1), .val (.int p2), .val (.int ln), .val (.ref bb), .val (.int (p1 &&& (((1 : Int32) <<< (ln &&& 31)) - (1 : Int32)))), .val (.int rv), .val (.double (own_rr rv)), .second, .val (.ref b262), .val (.double (own_rr rg)), .second]) rfl ?_
    show Steps p.tables e below (T266.setTop (mkF m 302 #[.val (.int p0), .val (.int p1), .val (.int p2), .val (.int ln), .val (.ref bb), .val (.int (p1 &&& (((1 : Int32) <<< (ln &&& 31)) - (1 : Int32)))), .val (.int rv), .val (.double (own_rr rv)), .second, .val (.ref b262), .val (.double (own_rr rg)), .second] [])) _
    refine XS.dload X266.here hx rfl (hb hby at_302) rfl ?_
    show Steps p.tables e below (T266.setTop (mkF m 304 #[.val (.int p0), .val (.int p1), .val (.int p2), .val (.int ln), .val (.ref bb), .val (.int (p1 &&& (((1 : Int32) <<< (ln &&& 31)) - (1 : Int32)))), .val (.int rv), .val (.double (own_rr rv)), .second, .val (.ref b262), .val (.double (own_rr rg)), .second] [(.double (own_rr rg))])) _
    refine XS.dload X266.here hx rfl (hb hby at_304) rfl ?_
    show Steps p.tables e below (T266.setTop (mkF m 306 #[.val (.int p0), .val (.int p1), .val (.int p2), .val (.int ln), .val (.ref bb), .val (.int (p1 &&& (((1 : Int32) <<< (ln &&& 31)) - (1 : Int32)))), .val (.int rv), .val (.double (own_rr rv)), .second, .val (.ref b262), .val (.double (own_rr rg)), .second] [(.double (own_rr rv)), (.double (own_rr rg))])) _
    refine XS.dcmpS X266.here hx rfl (hb hby at_306) rfl (dcmpV_eq (by rw [own_uq hsp hrv]) (own_nr rg) .l) ?_
    show Steps p.tables e below (T266.setTop (mkF m 307 #[.val (.int p0), .val (.int p1), .val (.int p2), .val (.int ln), .val (.ref bb), .val (.int (p1 &&& (((1 : Int32) <<< (ln &&& 31)) - (1 : Int32)))), .val (.int rv), .val (.double (own_rr rv)), .second, .val (.ref b262), .val (.double (own_rr rg)), .second] [(.int (0 : Int32))])) _
    refine XS.ifNo X266.here hx rfl (hb hby at_307) rfl ((if0 _ _).trans (teq hc267).2) ?_
    show Steps p.tables e below (T266.setTop (mkF m 310 #[.val (.int p0), .val (.int p1), .val (.int p2), .val (.int ln), .val (.ref bb), .val (.int (p1 &&& (((1 : Int32) <<< (ln &&& 31)) - (1 : Int32)))), .val (.int rv), .val (.double (own_rr rv)), .second, .val (.ref b262), .val (.double (own_rr rg)), .second] [])) _
    refine XS.iconst X266.here hx rfl (hb hby at_310) ?_
    show Steps p.tables e below (T266.setTop (mkF m 311 #[.val (.int p0), .val (.int p1), .val (.int p2), .val (.int ln), .val (.ref bb), .val (.int (p1 &&& (((1 : Int32) <<< (ln &&& 31)) - (1 : Int32)))), .val (.int rv), .val (.double (own_rr rv)), .second, .val (.ref b262), .val (.double (own_rr rg)), .second] [(.int (1 : Int32))])) _
    refine XS.goto X266.here hx rfl (pc0 := 311) (pc' := 315) rfl (hb hby at_311) (by decide) (by decide) ?_
    show Steps p.tables e below (T266.setTop (mkF m 315 #[.val (.int p0), .val (.int p1), .val (.int p2), .val (.int ln), .val (.ref bb), .val (.int (p1 &&& (((1 : Int32) <<< (ln &&& 31)) - (1 : Int32)))), .val (.int rv), .val (.double (own_rr rv)), .second, .val (.ref b262), .val (.double (own_rr rg)), .second] [(.int (1 : Int32))])) _
    exact retN X266 hx (t := .boolean) Bd.returns (by simp) (hb hby at_315) hr
  · show Q0 Z p0 p1 p2 h0 n0 _ T266.heap _
    rw [e266]
    exact ⟨rfl, N266⟩
set_option maxRecDepth 65536 in
set_option maxHeartbeats 40000000 in
theorem comes_1 {Post : Tables → Env → Array Value → State → Outcome → State → Prop} (hpost : ∀ tb e args s v u, (limb_1_1.after args s (.returned v) u = true ∧ limb_1_2.after args s (.returned v) u = true ∧ True) → FrameEnd s (.returned v) u (Jvm.fieldLocs frame_1_writes args s ++ Jvm.arrayLocs frame_1_arrays args s ++ Jvm.staticLocs frame_1_statics s) 16 128 → Post tb e args s (.returned v) u) :
    ArmFor flags0 classFile x code maxLocals ret World_1 tables_1 room_1 Calls_1 rest_1 Pre_1 Post := by
  intro l hfl _ _ p e ha hc hk s m args below hf hA hF happ hP
  obtain ⟨hcalls, hrest, hpre⟩ := hP
  obtain ⟨-, -, -, hnamed, -, -, -, hat⟩ := (Spec.applies_iff hf).mp happ
  obtain ⟨hg, hn⟩ := and_e (Cond.before_iff.mp (show (Jvm.Cond.and given_1 narrow_1).before args s = true from hpre))
  obtain ⟨g1, g2⟩ := and_e hg
  obtain ⟨g3, g4⟩ := and_e g2
  obtain ⟨g5, g6⟩ := and_e g4
  obtain ⟨w0, w1, w2, rfl⟩ : ∃ w0 w1 w2 : Value, args = #[w0, w1, w2] := by
    have hs : args.size = 3 := by simpa [Cond.value, given_1] using g1
    obtain ⟨L⟩ := args
    match L, hs with
    | [w0, w1, w2], _ => exact ⟨w0, w1, w2, rfl⟩
  have hw := fun d (hd : d ∈ tables_1) => atoms_spec (ws := Jvm.Cond.code x code maxLocals ret :: tables_1) hat d (List.mem_cons_of_mem _ hd)
  have hfit : Fit s := fun {y c} hc i hi => by
    obtain ⟨ha, rfl⟩ := Array.getElem?_eq_some_iff.mp hc
    have q := List.all_eq_true.mp ((Array.all_eq_true_iff_forall_mem.mp hF) _ (Array.getElem_mem ha)) i (List.mem_range.mpr hi)
    simpa [Array.getElem?_eq_getElem hi] using q
  obtain ⟨i0, ei0⟩ := is_v g3
  obtain rfl : w0 = (.int i0) := Option.some.inj ei0
  obtain ⟨i1, ei1⟩ := is_v g5
  obtain rfl : w1 = (.int i1) := Option.some.inj ei1
  obtain ⟨i2, ei2⟩ := is_v g6
  obtain rfl : w2 = (.int i2) := Option.some.inj ei2
  obtain ⟨n, o, h1, h2, h3, _, L, rfl, ⟨rfl, N⟩, hq⟩ := rm0 l s _ hw tables_1 i0 i1 i2  s.heap s.heap.size (Nat.le_refl _)  p e ha hc hk s m _ below hf ((Spec.applies_iff_loose hf).mp happ).1 ⟨rfl, State.Warmed39.refl s, rfl⟩ trivial
  refine ⟨n, _, h1, h2, h3, hpost _ _ _ _ _ _ ⟨Cond.after_iff.mpr rfl, Cond.after_iff.mpr (eq_i res_at (Term.int_eval (1)) rfl), trivial⟩ ⟨hq.1, hq.2.1, (hq.2.2.sift fun y hy => Or.inr (N y hy)).mono (by decide) (by decide)⟩⟩
theorem main_1_1 : Claimed_1_1 := comes_1 fun _ _ _ _ _ _ h hF => ⟨h.1, hF⟩
theorem main_1_2 : Claimed_1_2 := comes_1 fun _ _ _ _ _ _ h hF => ⟨h.2.1, hF⟩
end Jvm.Pilot.@@N@@
namespace Jvm.Pilot.@@N@@
open Jvm Jvm.ClassFile Sem Op Lib Jvm.Free Jvm.Stand Jvm.Pilot.@@N@@.Jvm.D
/-! MADE BY PROGRAM (witnessworld.py) out of the Statement's table words and the real class files: 11 classes; the members and pool entries that the words name. The judged class is class 1, her method 1. -/
namespace start1
open Jvm.ClassFile
def u (s : String) : CpInfo := .utf8 (stringToUtf16 s)
/-- a pool by its gaps: so many unusable entries, then the entry; so many at the end -/
def gap : Nat → List CpInfo → List CpInfo
  | 0, r => r
  | n + 1, r => .unusable :: gap n r
def poolList (es : List (Nat × CpInfo)) (last : Nat) : List CpInfo := es.foldr (fun e r => gap e.1 (e.2 :: r)) (gap last [])
def pool (es : List (Nat × CpInfo)) (last : Nat) : Array CpInfo := ⟨poolList es last⟩
def fileOf (pool : Array CpInfo) (this : Nat) (attrs : Array Attribute := #[]) (ms : Array MethodInfo := #[]) (fl : Nat := 33) (sup : Nat := 0) (ifs : Array Nat := #[]) (fds : Array FieldInfo := #[]) : ClassFile where
  minorVersion := 0
  majorVersion := 65
  constantPool := pool
  accessFlags := fl
  thisClass := this
  superClass := sup
  interfaces := ifs
  fields := fds
  methods := ms
  attributes := attrs
def plain (name : String) (sup : Option ClassId) : Class where
  name := name
  kind := .ordinary
  loader := none
  accessFlags := 33
  super := sup
  interfaces := #[]
  cf := none
  fields := #[]
  methods := #[]
  instanceTypes := #[]
  staticTypes := #[]
  resolved := #[]
  callSites := []
  init := .initialized
  statics := none
  mirror := none

def pool0 : Array CpInfo := pool [(5, u "<init>"), (0, u "()V"), (1, .class_ 10), (1, u "java/lang/Object")] 113

def k0c0 : Code := { maxStack := 0, maxLocals := 1, code := object_method_1_code, exceptionTable := #[], attributes := #[] }
def k0m0 : Method := { name := "<init>", desc := "()V", sig := { parameters := [], returnType := none }, accessFlags := 1, code := some k0c0 }
/-- java/lang/Object -/
def k0 : Class := { plain "java/lang/Object" none with
  accessFlags := 33
  interfaces := #[]
  cf := some (fileOf pool0 8 #[] #[{ accessFlags := 1, nameIndex := 5, descriptorIndex := 6, attributes := #[] }] 33 0 #[] #[])
  fields := #[]
  methods := #[k0m0]
  instanceTypes := #[]
  staticTypes := #[]
  resolved := Array.replicate 124 none
  statics := none }

def pool1 : Array CpInfo := pool [(2, .class_ 4), (1, u "java/lang/Object"), (0, u "<init>"), (0, u "()V"), (0, .integer 2147483647), (0, .class_ 9), (0, u "com/example/cranfield/cranfield/eval/RankedTopic"), (0, .methodref 8 11), (0, .nameAndType 5 12), (0, u "([ZI)V"), (0, .methodref 8 14), (0, .nameAndType 15 16), (0, u "reciprocalRank"), (0, u "()D"), (0, .class_ 18), (0, u "com/example/cranfield/cranfield/eval/RankedTopicReciprocalRankPinLaw"), (2, u "law"), (0, u "(III)Z")] 5

def k1m0 : Method := { name := "<init>", desc := "()V", sig := { parameters := [], returnType := none }, accessFlags := 1, code := none }
def k1c1 : Code := { maxStack := 4, maxLocals := 12, code := code, exceptionTable := #[], attributes := #[] }
def k1m1 : Method := { name := "law", desc := "(III)Z", sig := { parameters := [.int, .int, .int], returnType := some .boolean }, accessFlags := 9, code := some k1c1 }
/-- com/example/cranfield/cranfield/eval/RankedTopicReciprocalRankPinLaw -/
def k1 : Class := { plain "com/example/cranfield/cranfield/eval/RankedTopicReciprocalRankPinLaw" (some 0) with
  accessFlags := 49
  interfaces := #[]
  cf := some (fileOf pool1 17 #[] #[{ accessFlags := 1, nameIndex := 5, descriptorIndex := 6, attributes := #[] }, { accessFlags := 9, nameIndex := 21, descriptorIndex := 22, attributes := #[] }] 49 2 #[] #[])
  fields := #[]
  methods := #[k1m0, k1m1]
  instanceTypes := #[]
  staticTypes := #[]
  resolved := Array.replicate 28 none
  statics := none }

def pool2 : Array CpInfo := pool [(1, .methodref 2 3), (0, .class_ 4), (0, .nameAndType 5 6), (0, u "java/lang/Object"), (0, u "<init>"), (0, u "()V"), (0, .fieldref 8 9), (0, .class_ 10), (0, .nameAndType 11 12), (0, u "com/example/cranfield/cranfield/eval/RankedTopic"), (0, u "relevant"), (0, u "[Z"), (0, .fieldref 8 14), (0, .nameAndType 15 16), (0, u "relevantCount"), (0, u "I"), (22, u "([ZI)V"), (6, u "()D"), (2, u "reciprocalRank")] 3

def k2c0 : Code := { maxStack := 2, maxLocals := 3, code := prog_20_method_1_code, exceptionTable := #[], attributes := #[] }
def k2m0 : Method := { name := "<init>", desc := "([ZI)V", sig := { parameters := [(.array .boolean), .int], returnType := none }, accessFlags := 0, code := some k2c0 }
def k2c1 : Code := { maxStack := 4, maxLocals := 2, code := prog_20_method_8_code, exceptionTable := #[], attributes := #[] }
def k2m1 : Method := { name := "reciprocalRank", desc := "()D", sig := { parameters := [], returnType := some .double }, accessFlags := 0, code := some k2c1 }
/-- com/example/cranfield/cranfield/eval/RankedTopic -/
def k2 : Class := { plain "com/example/cranfield/cranfield/eval/RankedTopic" (some 0) with
  accessFlags := 32
  interfaces := #[]
  cf := some (fileOf pool2 8 #[] #[{ accessFlags := 0, nameIndex := 5, descriptorIndex := 39, attributes := #[] }, { accessFlags := 0, nameIndex := 49, descriptorIndex := 46, attributes := #[] }] 32 2 #[] #[{ accessFlags := 18, nameIndex := 11, descriptorIndex := 12, attributes := #[] }, { accessFlags := 18, nameIndex := 15, descriptorIndex := 16, attributes := #[] }])
  fields := #[{ name := "relevant", type := (.array .boolean), accessFlags := 18, slot := 0, constantValue := 0 }, { name := "relevantCount", type := .int, accessFlags := 18, slot := 1, constantValue := 0 }]
  methods := #[k2m0, k2m1]
  instanceTypes := #[(.array .boolean), .int]
  staticTypes := #[]
  resolved := Array.replicate 53 none
  statics := none }

def pool3 : Array CpInfo := pool [(1, u "java/lang/Cloneable"), (0, .class_ 1), (0, u "java/lang/Object"), (0, .class_ 3)] 3

/-- java/lang/Cloneable -/
def k3 : Class := { plain "java/lang/Cloneable" (some 0) with
  accessFlags := 1537
  interfaces := #[]
  cf := some (fileOf pool3 2 #[] #[] 1537 4 #[] #[])
  fields := #[]
  methods := #[]
  instanceTypes := #[]
  staticTypes := #[]
  resolved := Array.replicate 8 none
  statics := none }

def pool4 : Array CpInfo := pool [(1, u "java/io/Serializable"), (0, .class_ 1), (0, u "java/lang/Object"), (0, .class_ 3)] 3

/-- java/io/Serializable -/
def k4 : Class := { plain "java/io/Serializable" (some 0) with
  accessFlags := 1537
  interfaces := #[]
  cf := some (fileOf pool4 2 #[] #[] 1537 4 #[] #[])
  fields := #[]
  methods := #[]
  instanceTypes := #[]
  staticTypes := #[]
  resolved := Array.replicate 8 none
  statics := none }

/-- the primitive boolean -/
def k5 : Class := { plain "boolean" none with kind := .primitive 'Z', accessFlags := 0x411 }
/-- [Z -/
def k6 : Class := { plain "[Z" (some 0) with kind := .array 5 .boolean, interfaces := #[3, 4], accessFlags := 1041 }

/-- the primitive byte -/
def k7 : Class := { plain "byte" none with kind := .primitive 'B', accessFlags := 0x411 }
/-- [B -/
def k8 : Class := { plain "[B" (some 0) with kind := .array 7 .byte, interfaces := #[3, 4], accessFlags := 1041 }

/-- the primitive int -/
def k9 : Class := { plain "int" none with kind := .primitive 'I', accessFlags := 0x411 }
/-- [I -/
def k10 : Class := { plain "[I" (some 0) with kind := .array 9 .int, interfaces := #[3, 4], accessFlags := 1041 }

def heap : Heap := #[]
def classes : Array Class := #[k0, k1, k2, k3, k4, k5, k6, k7, k8, k9, k10]
def interned : List (Array UInt16 × Addr) := []
def slotsUsed : Nat := 0
def theMethod : MethodId := ⟨1, 1⟩
def args0 : Array Value := #[.int 5, .int 5, .int 5]
def aboutOver (below : List Frame) : State where
  vm := { classes := classes, interned := interned.toArray }
  heap := heap
  slotsUsed := slotsUsed
  threads := #[{ frames := .invoking theMethod args0 :: below }]
def below0 : List Frame := [.native { method := ⟨0, 0⟩, args := #[] }]
def about1 : State := aboutOver below0
def p0 : Program := .bare "" "" ""
def e0 : Env := launch0.env 0 0 0
theorem w_frames : about1.frames = Frame.invoking theMethod args0 :: below0 := rfl
set_option maxRecDepth 65536 in
theorem w_args : argsFit about1.vm theMethod args0 = true := by decide +kernel
set_option maxRecDepth 65536 in
theorem w_heap : heapFits about1 = true := by decide +kernel
set_option maxRecDepth 65536 in
theorem w_runnable : about1.curStatus? = some .runnable := by decide +kernel
set_option maxRecDepth 65536 in
theorem w_alone : about1.alone = true := by decide +kernel
set_option maxRecDepth 65536 in
theorem w_named : about1.methodNamed? x = some theMethod := by decide +kernel
set_option maxRecDepth 65536 in
theorem w_hears : about1.hears theMethod below0 = true := by decide +kernel
set_option maxRecDepth 65536 in
theorem w_ripe : about1.ripe theMethod args0 below0 = true := by decide +kernel
theorem w_running : about1.status = .running := rfl
set_option maxRecDepth 65536 in
theorem w_room : about1.hasRoom e0.platform room_1 = true :=
  launch0.hasRoom_least _ room_1 (by decide +kernel) (by decide +kernel) (by decide +kernel) (by decide +kernel) (by decide +kernel) (by decide +kernel)
theorem allAtoms_all (ts : List Jvm.Cond) (a : Array Jvm.Value) (st : Jvm.State) : (allAtoms ts).before a st = ts.all (fun c => c.before a st) := by
  induction ts with
  | nil => rfl
  | cons c t ih =>
    show (Jvm.Cond.and c (allAtoms t)).before a st = _
    rw [Jvm.Cond.before_and, ih, List.all_cons]
def words1 : List Jvm.Cond := Jvm.Cond.code x code maxLocals ret :: tables_1
/-- a 'code' word, met by the world's own term for the bytes: nothing is compared byte by byte -/
theorem code_word {y : MethodName} {bytes : ByteArray} {mx : Nat} {rt : Option FieldType} {a : Array Value} {s : State} {m : MethodId} {meth : Method} {c : Code} (h1 : s.methodNamed? y = some m) (h2 : s.vm.method? m = some meth) (h3 : meth.code = some c) (h4 : c.code = bytes)
    (h5 : (c.maxLocals == mx && c.exceptionTable.isEmpty && decide (c.maxStack ≤ mostOperands) && decide (meth.sig.returnType = rt) && !meth.locks && decide (parseMethodDescriptor y.desc = some meth.sig)) = true) : (Jvm.Cond.code y bytes mx rt).before a s = true := by
  simp only [Bool.and_eq_true, beq_iff_eq, Bool.not_eq_true', decide_eq_true_eq] at h5
  obtain ⟨⟨⟨⟨⟨g1, g2⟩, g3⟩, g4⟩, g5⟩, g6⟩ := h5
  simp [Cond.before, Cond.holds, Cond.value, h1, h2, h3, h4, g1, g2, g3, g4, g5, g6]
def isCode : Jvm.Cond → Bool
  | .code _ _ _ _ => true
  | _ => false
theorem all_split {L : List Jvm.Cond} {P : Jvm.Cond → Bool} (h1 : L.all (fun c => isCode c || P c) = true) (h2 : ∀ c ∈ L.filter isCode, P c = true) : L.all P = true := by
  refine List.all_eq_true.mpr fun c hc => ?_
  have h := List.all_eq_true.mp h1 c hc
  rcases Bool.eq_false_or_eq_true (isCode c) with hi | hi
  · exact h2 c (List.mem_filter.mpr ⟨hc, hi⟩)
  · simpa [hi] using h
set_option maxRecDepth 65536 in
theorem w_c0 : (Jvm.Cond.code x code maxLocals ret).before args0 about1 = true := code_word (m := ⟨1, 1⟩) (meth := k1m1) (c := k1c1) (by decide +kernel) rfl rfl rfl (by decide +kernel)
set_option maxRecDepth 65536 in
theorem w_c1 : (Jvm.Cond.code ({ cls := "com/example/cranfield/cranfield/eval/RankedTopic", name := "<init>", desc := "([ZI)V" } : Jvm.MethodName) prog_20_method_1_code (3 : Nat) (Option.none : Option Jvm.ClassFile.FieldType)).before args0 about1 = true := code_word (m := ⟨2, 0⟩) (meth := k2m0) (c := k2c0) (by decide +kernel) rfl rfl rfl (by decide +kernel)
set_option maxRecDepth 65536 in
theorem w_c2 : (Jvm.Cond.code ({ cls := "java/lang/Object", name := "<init>", desc := "()V" } : Jvm.MethodName) object_method_1_code (1 : Nat) (Option.none : Option Jvm.ClassFile.FieldType)).before args0 about1 = true := code_word (m := ⟨0, 0⟩) (meth := k0m0) (c := k0c0) (by decide +kernel) rfl rfl rfl (by decide +kernel)
set_option maxRecDepth 65536 in
theorem w_c3 : (Jvm.Cond.code ({ cls := "com/example/cranfield/cranfield/eval/RankedTopic", name := "reciprocalRank", desc := "()D" } : Jvm.MethodName) prog_20_method_8_code (2 : Nat) (Option.some Jvm.ClassFile.FieldType.double)).before args0 about1 = true := code_word (m := ⟨2, 1⟩) (meth := k2m1) (c := k2c1) (by decide +kernel) rfl rfl rfl (by decide +kernel)
def codes1 : List Jvm.Cond := [Jvm.Cond.code x code maxLocals ret, Jvm.Cond.code ({ cls := "com/example/cranfield/cranfield/eval/RankedTopic", name := "<init>", desc := "([ZI)V" } : Jvm.MethodName) prog_20_method_1_code (3 : Nat) (Option.none : Option Jvm.ClassFile.FieldType), Jvm.Cond.code ({ cls := "java/lang/Object", name := "<init>", desc := "()V" } : Jvm.MethodName) object_method_1_code (1 : Nat) (Option.none : Option Jvm.ClassFile.FieldType), Jvm.Cond.code ({ cls := "com/example/cranfield/cranfield/eval/RankedTopic", name := "reciprocalRank", desc := "()D" } : Jvm.MethodName) prog_20_method_8_code (2 : Nat) (Option.some Jvm.ClassFile.FieldType.double)]
set_option maxRecDepth 65536 in
theorem codes_eq : words1.filter isCode = codes1 := rfl
theorem w_codes : ∀ c ∈ words1.filter isCode, c.before args0 about1 = true := by
  rw [codes_eq]
  intro c hc
  simp only [codes1, List.mem_cons, List.not_mem_nil, or_false] at hc
  rcases hc with rfl | rfl | rfl | rfl
  · exact w_c0
  · exact w_c1
  · exact w_c2
  · exact w_c3
set_option maxRecDepth 65536 in
theorem w_t1 : words1.all (fun c => isCode c || c.before args0 about1) = true := by decide +kernel
theorem w_tables : (allAtoms (Jvm.Cond.code x code maxLocals ret :: tables_1)).before args0 about1 = true := by
  rw [allAtoms_all]
  show words1.all (fun c => c.before args0 about1) = true
  refine all_split ?_ w_codes
  rw [w_t1]
set_option maxRecDepth 65536 in
theorem w_case : (Jvm.Cond.and given_1 narrow_1).before args0 about1 = true := by decide +kernel
theorem w_applies : (headSpec (Jvm.Cond.code x code maxLocals ret :: tables_1) room_1).applies x e0.platform about1 = true :=
  (Spec.applies_iff w_frames).mpr ⟨w_running, w_runnable, w_alone, w_named, w_hears, w_ripe, w_room, w_tables⟩
theorem atStart : AtStart classFile x code maxLocals ret World_1 tables_1 room_1 Calls_1 rest_1 Pre_1 launch0 p0 e0 about1 theMethod args0 below0 :=
  ⟨lists_1, trivial, launch0.admits_env _ _ _, launch0.least_env, fairChoices_fair.cas, fairChoices_fair.clock, w_frames, w_args, w_heap, w_applies, trivial, trivial, w_case⟩
end start1
theorem witness_1 : WitnessClaimed_1 := ⟨start1.p0, start1.e0, start1.about1, start1.theMethod, start1.args0, start1.below0, start1.atStart⟩
end Jvm.Pilot.@@N@@
