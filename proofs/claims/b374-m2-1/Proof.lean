import JvmDerived
import JvmDerived.Pilot.@@N@@Statement
import JvmDerived.Pilot.@@N@@Code
set_option linter.unusedVariables false
set_option linter.unusedSimpArgs false
namespace Jvm.RoadKit
open Sem ClassFile Op Lib Jvm.Stand Jvm.Free Jvm.LawKit
section New
variable {p : Program} {l : Launch} {e : Env} {R : Room} {s : State} {m : MethodId} {args : Array Value} {below : List Frame} {meth : Method} {c : Code} {T : State} {locs : List Loc} {cells slots : Nat}
theorem retI (X : Stand p l e R s m args below meth c T locs cells slots) (hx : p.tables.exec = Jvm.exec) {pc : Nat} {Ls : Array Slot} {z : Int32} {rest : List Value} (hret : meth.sig.returnType = some .int) (hd : decode c.code pc = .ok (.ireturn, 1)) {fs : List Frame}
    (hl : ∀ (f : JFrame) (acts : List Action), f.method = m → f.locked = none → f.entered = [] → (doReturn e (T.setTop f) acts (some (.int z))).1 = T.setFrames fs) : Steps p.tables e below (T.setTop (mkF m pc Ls (.int z :: rest))) (T.setFrames fs) := by
  have hm' : T.vm.method? m = some meth := X.method'
  have hn : narrow .int (.int z) = .int z := rfl
  show Steps p.tables e below (T.setTop { method := m, pc := pc, locals := Ls, stack := _ :: rest, locked := none }) _
  jvm_step X.here [X.here.top, hx, hd, hm', hret, hn]
  first | (intro acts; rw [hl _ acts rfl rfl rfl]) | rw [hl _ _ rfl rfl rfl]
  exact Steps.refl _
end New
end Jvm.RoadKit
namespace Jvm.Pilot.@@N@@
open Jvm Jvm.ClassFile Sem Op Lib Jvm.Free Jvm.Stand Jvm.LawKit Jvm.RoadKit Bundle Jvm.Pilot.@@N@@.Jvm.D
def bI (P : Prop) [Decidable P] : Int32 := if P then 1 else 0
theorem own_b1 {P : Prop} [Decidable P] (h : P) : some (Value.int (1 : Int32)) = some (Value.int (bI P)) := by rw [bI, if_pos h]
theorem own_b0 {P : Prop} [Decidable P] (h : ¬ P) : some (Value.int (0 : Int32)) = some (Value.int (bI P)) := by rw [bI, if_neg h]
theorem own_c1 {P : Prop} [Decidable P] (h : P) : (1 : Int32) = bI P := by rw [bI, if_pos h]
theorem own_c0 {P : Prop} [Decidable P] (h : ¬ P) : (0 : Int32) = bI P := by rw [bI, if_neg h]
theorem own_bI {P : Prop} [Decidable P] : (P ∧ bI P = 1) ∨ (¬ P ∧ bI P = 0) := by by_cases h : P <;> simp [bI, h]
theorem own_bt {P : Prop} [Decidable P] : (P ∧ (bI P).toInt = 1) ∨ (¬ P ∧ (bI P).toInt = 0) := by by_cases h : P <;> simp [bI, h]
theorem own_nar {P : Prop} [Decidable P] : nar .boolean (bI P) = bI P := by by_cases h : P <;> simp only [bI, h, if_true, if_false] <;> decide
theorem own_lt {a b : Int32} : a < b ↔ a.toInt < b.toInt := Int32.lt_iff_toInt_lt
theorem own_nlt {a b : Int32} : ¬ (a < b) ↔ b.toInt ≤ a.toInt := by rw [own_lt]; omega
theorem own_eq {a b : Int32} : a = b ↔ a.toInt = b.toInt := Int32.toInt_inj.symm
theorem own_neq {a b : Int32} : ¬ (a = b) ↔ ¬ (a.toInt = b.toInt) := by rw [own_eq]
theorem own_ltL {a b : Int64} : a < b ↔ a.toInt < b.toInt := Int64.lt_iff_toInt_lt
theorem own_eqL {a b : Int64} : a = b ↔ a.toInt = b.toInt := Int64.toInt_inj.symm
theorem own_sk {Z : State} {h h' : Heap} {C n d K : String} {v : Value} {b : Addr} (F : Sta Z h C n d v) (Kp : Keep h h' [b]) (E : Exa Z h b K) : Sta Z h' C n d v := by
  obtain ⟨cf, i, k, f, st, cell, h1, h2, h3, h4, h5, h6, h7⟩ := F
  refine ⟨cf, i, k, f, st, cell, h1, h2, h3, h4, Kp.2.1 st cell h5 (fun q => ?_), h6, h7⟩
  obtain ⟨cl, kk, e1, e2, e3, e4, e5⟩ := E
  have q' := List.mem_singleton.mp q
  subst q'
  rw [h5] at e1
  cases e1
  rw [h6] at e4
  cases e4
theorem own_eqI {t : Term} {k : Int32} {args : Array Value} {Z : State} (h : (Jvm.Cond.eq t (Term.int k)).value args Z none Z [] = some true) : t.eval args Z none [] Z = some (.int k) := by
  obtain ⟨x, y, hx, hy, K1, K2⟩ := cmp_v (Or.inl h)
  have hy' : y = .int k := by simpa [Term.eval] using hy.symm
  subst hy'
  obtain ⟨z, rfl⟩ := K2
  have q : z = k := by simpa [Jvm.Cond.value, hx, Term.eval] using h
  rw [hx, q]
theorem own_fldI {t : Term} {C n d : String} {k : Int32} {a : Addr} {args : Array Value} {Z : State} (ev : t.eval args Z none [] Z = some (.ref a)) (h : (Jvm.Cond.eq (Term.field t C n d) (Term.int k)).value args Z none Z [] = some true) : Z.fieldOf? a C n d = some (.int k) := by
  rw [← fld_at ev]; exact own_eqI h
theorem own_ford {C n d : String} {k k' : Int32} {a b : Addr} {Z : State} (h1 : Z.fieldOf? a C n d = some (.int k)) (h2 : Z.fieldOf? b C n d = some (.int k')) (hk : k ≠ k') : a ≠ b := fun q => by
  rw [q, h2] at h1
  exact hk (Value.int.inj (Option.some.inj h1)).symm
theorem own_s0 {Z : State} {h h' : Heap} {C n d : String} {v : Value} (F : Sta Z h C n d v) (Kp : Keep h h' []) : Sta Z h' C n d v := by
  obtain ⟨cf, i, k, f, st, cell, h1, h2, h3, h4, h5, h6, h7⟩ := F
  exact ⟨cf, i, k, f, st, cell, h1, h2, h3, h4, Kp.2.1 st cell h5 (by simp), h6, h7⟩
theorem own_a0 {Z : State} {h h' : Heap} {a : Addr} {c : Cell} {ty : FieldType} (A : Arr Z h a c ty) (Kp : Keep h h' []) : Arr Z h' a c ty := ⟨Kp.2.1 a c A.1 (by simp), A.2⟩
theorem own_f0 {Z : State} {h h' : Heap} {C n d : String} {a : Addr} {v : Value} (F : Fld Z h a C n d v) (Kp : Keep h h' []) : Fld Z h' a C n d v := F.keep Kp (by simp)
theorem own_no2 {Z : State} {a0 : Array Value} {C S O K : String} {n : Nat} (w1 : (Jvm.Cond.superclass C S).before a0 Z = true) (w2 : (Jvm.Cond.superclass S O).before a0 Z = true) (w3 : (Jvm.Cond.noSuperclass O).before a0 Z = true) (wk : (Jvm.Cond.instantiable K n).before a0 Z = true)
    (n1 : C ≠ K) (n2 : S ≠ K) (n3 : O ≠ K) : ∃ c t, Z.vm.findClass C = some c ∧ Z.vm.findClass K = some t ∧ Z.vm.assignable c t = false := by
  obtain ⟨t, kt, ht, hkt, ho, hi, -, -⟩ := Cond.instantiable_spec wk
  obtain ⟨cO, kO, hO, hkO, hs, -, -⟩ := Cond.noSuperclass_spec w3
  have neO := ids_ne hO ht n3
  have r0 : NS Z O K := ⟨cO, t, hO, ht, fun fuel => by cases fuel with
    | zero => rfl
    | succ f => simp [Vm.isSubclassAux, neO, hkO, hs]⟩
  obtain ⟨c, t', h0, g0, n3'⟩ := NS.step w1 (NS.step w2 r0 n2) n1
  cases ht.symm.trans g0
  obtain ⟨p, k, kp, h1, h2, h3, h4, h5, -, h7⟩ := Cond.superclass_spec h0 w1
  have ne := ids_ne h0 ht n1
  have hi' : kt.isInterface = false := by simp only [Bool.or_eq_false_iff] at hi; exact hi.1
  refine ⟨c, t, h0, ht, ?_⟩
  show Z.vm.assignableAux (255 + 1) c t = false
  simp [Vm.assignableAux, ne, h2, hkt, h5, ho, hi', Vm.isSubclass, n3']
theorem own_box {Z : State} {args : Array Value} {t : Term} {K : String} {X : Jvm.Cond} {a : Addr} {c : Cell} (et : ∀ idx, t.eval args Z none idx Z = some (.ref a)) (A : Arr Z Z.heap a c (.object K))
    (h : (Jvm.Cond.all t (.and (.exactly (.elem t (.index 0)) K) X)).value args Z none Z [] = some true) (j : Int32) (hj : ¬ (j < 0 ∨ c.slots.size ≤ j.toNatClampNeg)) : ∃ b : Addr, c.slots[j.toNatClampNeg]? = some (.ref b) ∧ Exa Z Z.heap b K := by
  have nn : ¬ j < 0 := fun x => hj (Or.inl x)
  have u := (and_e (Cond.all_elim (et []) (A.fin (Vm.Alike.refl _)) h j.toNatClampNeg (Nat.lt_of_not_le fun x => hj (Or.inr x)))).1
  obtain ⟨box, eb⟩ := exa_v u
  exact ⟨box, (elem_f (et _) (idx_at nn) (A.fin (Vm.Alike.refl _)) nn).symm.trans eb, exa_at eb u⟩
theorem own_len {Z : State} {args : Array Value} {t : Term} {a : Addr} {c : Cell} {ty : FieldType} {z : Int32} (ev : t.eval args Z none [] Z = some (.ref a)) (A : Arr Z Z.heap a c ty) (h : (Term.length t).eval args Z none [] Z = some (.int z)) : c.slots.size < 2 ^ 31 ∧ c.slots.size.toInt32 = z := by
  have ha := A.fin (Vm.Alike.refl _)
  simpa [Term.eval, ev, ha] using h
theorem own_size {c : Cell} {z : Int32} {n : Nat} (h : c.slots.size < 2 ^ 31 ∧ c.slots.size.toInt32 = z) (hz : z.toInt = n) : c.slots.size = n := by
  have q := len_toInt h.1
  rw [h.2] at q
  omega
theorem own_eqR {t u : Term} {b : Addr} {args : Array Value} {Z : State} (hu : u.eval args Z none [] Z = some (.ref b)) (h : (Jvm.Cond.eq t u).value args Z none Z [] = some true) : t.eval args Z none [] Z = some (.ref b) := by
  obtain ⟨x, y, hx, hy, K1, K2⟩ := cmp_v (Or.inl h)
  cases hu.symm.trans hy
  have hr : x.isRef = true := K2.2
  have e := eq_R hx hu hr rfl
  rw [h] at e
  rw [hx, of_decide_eq_true (Option.some.inj e).symm]
theorem own_rew {s t : State} {o : Outcome} {L : List Loc} {k n k' n' : Nat} (h : ReturnedEndW s o t L k n) (hk : k ≤ k') (hn : n ≤ n') : ReturnedEndW s o t L k' n' := ⟨h.1, h.2.1, h.2.2.1, h.2.2.2.mono hk hn⟩
theorem own_m31 (x : Int32) : (x &&& (2147483647 : Int32)).toInt = x.toInt % 2147483648 := c_mask x (2147483647 : Int32) 31 (by decide) (by decide)
theorem own_mrem (x y : Int32) (d : Int) (hy : y.toInt = d) : ((x &&& (2147483647 : Int32)) % y).toInt = (x.toInt % 2147483648) % d := by
  have h := own_m31 x
  rw [(c_irem _ y d hy).1 (by omega), h]
theorem own_cl (s : Int32) (h : 0 ≤ s.toInt) : (s.toNatClampNeg : Int) = s.toInt := by
  have q : s.toNatClampNeg = s.toInt.toNat := rfl
  omega
theorem own_cl2 {j z : Int32} (h0 : 0 ≤ j.toInt) (h : j.toInt < z.toInt) : j.toNatClampNeg < z.toNatClampNeg := by
  have a := own_cl j h0
  have b := own_cl z (by omega)
  omega
def own_B (bt0 bt1 bt2 bt3 bt4 bt5 : Int32) (j : Nat) : Int32 := if j = 0 then bI (bt0.toInt = 1) else if j = 1 then bI (bt1.toInt = 1) else if j = 2 then bI (bt2.toInt = 1) else if j = 3 then bI (bt3.toInt = 1) else if j = 4 then bI (bt4.toInt = 1) else if j = 5 then bI (bt5.toInt = 1) else 0
def own_ap (B : Nat → Int32) : Nat → Int32 × UInt64
  | 0 => (0, FP.dconst0)
  | n + 1 => if B n = 0 then own_ap B n else ((own_ap B n).1 + 1, FP.dadd (own_ap B n).2 (FP.ddiv (FP.i2d ((own_ap B n).1 + 1)) (FP.i2d (Int32.ofNat (n + 1)))))
theorem own_ap0 {B : Nat → Int32} {n : Nat} (h : B n = 0) : own_ap B (n + 1) = own_ap B n := by rw [own_ap, if_pos h]
theorem own_ap1 {B : Nat → Int32} {n : Nat} (h : ¬ B n = 0) : own_ap B (n + 1) = ((own_ap B n).1 + 1, FP.dadd (own_ap B n).2 (FP.ddiv (FP.i2d ((own_ap B n).1 + 1)) (FP.i2d (Int32.ofNat (n + 1))))) := by rw [own_ap, if_neg h]
def own_fin (c : Int32) (s : UInt64) : UInt64 := if c = 0 then FP.dconst0 else FP.ddiv s (FP.i2d c)
theorem own_fin0 {c : Int32} {s : UInt64} (h : c = 0) : own_fin c s = FP.dconst0 := by rw [own_fin, if_pos h]
theorem own_fin1 {c : Int32} {s : UInt64} (h : ¬ c = 0) : own_fin c s = FP.ddiv s (FP.i2d c) := by rw [own_fin, if_neg h]
theorem own_of (r : Int32) (h : 1 ≤ r.toInt) : r = Int32.ofNat ((r.toInt - 1).toNat + 1) := by
  apply Int32.toInt_inj.mp
  have q := rng32 r
  rw [Int32.toInt_ofNat_of_lt (by omega)]; omega
theorem own_nq (f r : Int32) (h : ¬ r = 0) : Jvm.Free.Fl.NoNaN64 (FP.ddiv (FP.i2d f) (FP.i2d r)) := Jvm.Free.Fl.ddiv_out (Jvm.Free.Fl.i2d_fin f).noNaN (Jvm.Free.Fl.i2d_fin r) (Jvm.Free.Fl.i2d_nz h)
theorem own_mq (f r : Int32) (h : ¬ r = 0) : Jvm.Free.Fl.Mag64 1060 (FP.ddiv (FP.i2d f) (FP.i2d r)) := by
  have b : Big64 1023 (FP.i2d r) := by
    rw [i2d_w]
    exact l2d_big (fun q => h (own_eq.mpr (by have e := c_i2l r; rw [q] at e; exact e.symm)))
  exact (ddiv_mag (Jvm.Free.Fl.i2d_mag f) b (by decide) (by decide)).mono (by decide)
theorem own_na {n : Nat} {s q : UInt64} (hs : Jvm.Free.Fl.Mag64 (1060 + 2 * n) s) (hq : Jvm.Free.Fl.Mag64 1060 q) (hn : n ≤ 20) : Jvm.Free.Fl.NoNaN64 (FP.dadd s q) := ((Jvm.Free.Fl.dadd_mag hs (hq.mono (by omega)) (by omega)).fin (by omega)).noNaN
theorem own_apm' (B : Nat → Int32) : ∀ n : Nat, n ≤ 20 → Jvm.Free.Fl.Mag64 (1060 + 2 * n) (own_ap B n).2 := by
  intro n
  induction n with
  | zero => intro _; show Jvm.Free.Fl.Mag64 _ FP.dconst0; unfold Jvm.Free.Fl.Mag64; decide +kernel
  | succ n ih =>
    intro hn
    by_cases h : B n = 0
    · rw [own_ap0 h]; exact (ih (by omega)).mono (by omega)
    · rw [own_ap1 h]
      have z : ¬ Int32.ofNat (n + 1) = 0 := fun q => by
        have e := congrArg Int32.toInt q
        rw [Int32.toInt_ofNat_of_lt (by omega)] at e
        have e2 : ((n + 1 : Nat) : Int) = 0 := e
        omega
      exact (Jvm.Free.Fl.dadd_mag (ih (by omega)) ((own_mq _ _ z).mono (by omega)) (by omega)).mono (by omega)
theorem own_apm (B : Nat → Int32) (n : Nat) (hn : n ≤ 20 := by first | decide | omega) : Jvm.Free.Fl.Mag64 (1060 + 2 * n) (own_ap B n).2 := own_apm' B n hn
theorem own_nf {n : Nat} {s : UInt64} {c : Int32} (hs : Jvm.Free.Fl.Mag64 (1060 + 2 * n) s) (hc : ¬ c = 0) (hn : n ≤ 20) : Jvm.Free.Fl.NoNaN64 (FP.ddiv s (FP.i2d c)) := Jvm.Free.Fl.ddiv_out (hs.fin (by omega)).noNaN (Jvm.Free.Fl.i2d_fin c) (Jvm.Free.Fl.i2d_nz hc)
theorem own_ff {n : Nat} {s : UInt64} (c : Int32) (hs : Jvm.Free.Fl.Mag64 (1060 + 2 * n) s) (hn : n ≤ 20) : Jvm.Free.Fl.NoNaN64 (own_fin c s) := by
  by_cases h : c = 0
  · rw [own_fin0 h]; exact Jvm.Free.Fl.SumD.zero_noNaN
  · rw [own_fin1 h]; exact own_nf hs h hn
theorem own_k1 : FP.dconst1 = FP.i2d (Int32.ofNat 1) := by decide +kernel
theorem own_k2 : (4611686018427387904 : UInt64) = FP.i2d (Int32.ofNat 2) := by decide +kernel
theorem own_k3 : (4613937818241073152 : UInt64) = FP.i2d (Int32.ofNat 3) := by decide +kernel
theorem own_k4 : (4616189618054758400 : UInt64) = FP.i2d (Int32.ofNat 4) := by decide +kernel
theorem own_k5 : (4617315517961601024 : UInt64) = FP.i2d (Int32.ofNat 5) := by decide +kernel
theorem own_k6 : (4618441417868443648 : UInt64) = FP.i2d (Int32.ofNat 6) := by decide +kernel
theorem own_nk {d : UInt64} (f : Int32) (k : Nat) (hk : ¬ Int32.ofNat k = 0) (h : d = FP.i2d (Int32.ofNat k)) : Jvm.Free.Fl.NoNaN64 (FP.ddiv (FP.i2d f) d) := by rw [h]; exact own_nq f _ hk
theorem own_mk {d : UInt64} (f : Int32) (k : Nat) (hk : ¬ Int32.ofNat k = 0) (h : d = FP.i2d (Int32.ofNat k)) : Jvm.Free.Fl.Mag64 1060 (FP.ddiv (FP.i2d f) d) := by rw [h]; exact own_mq f _ hk
theorem own_b1' {b : Int32} (h : b.toInt = 1) : ¬ bI (b.toInt = 1) = 0 := by rw [bI, if_pos h]; decide
theorem own_b0' {b : Int32} (h : ¬ b.toInt = 1) : bI (b.toInt = 1) = 0 := by rw [bI, if_neg h]
theorem own_bv {b : Int32} (r : 0 ≤ b.toInt ∧ b.toInt ≤ 1) : b = 0 ∨ b = 1 := by
  rcases (show b.toInt = 0 ∨ b.toInt = 1 by omega) with h | h
  · exact Or.inl (own_eq.mpr h)
  · exact Or.inr (own_eq.mpr h)
theorem own_one {b : Int32} (h : b.toInt = 1) : b = 1 := own_eq.mpr h
theorem own_f_0 (bt0 bt1 bt2 bt3 bt4 bt5 : Int32)  : (own_ap (own_B bt0 bt1 bt2 bt3 bt4 bt5) 0).1 = 0 := by
  rfl
theorem own_s0_0 (bt0 bt1 bt2 bt3 bt4 bt5 : Int32) (h : ¬ bt0.toInt = 1) : (own_ap (own_B bt0 bt1 bt2 bt3 bt4 bt5) 0).2 = (own_ap (own_B bt0 bt1 bt2 bt3 bt4 bt5) 1).2 := by rw [own_ap0 (B := (own_B bt0 bt1 bt2 bt3 bt4 bt5)) (n := 0) (show bI (bt0.toInt = 1) = 0 from own_b0' h)]
theorem own_s1_0 (bt0 bt1 bt2 bt3 bt4 bt5 : Int32)  (h : bt0.toInt = 1) : FP.dadd (own_ap (own_B bt0 bt1 bt2 bt3 bt4 bt5) 0).2 (FP.ddiv (FP.i2d bt0) FP.dconst1) = (own_ap (own_B bt0 bt1 bt2 bt3 bt4 bt5) 1).2 := by
  rw [own_ap1 (B := (own_B bt0 bt1 bt2 bt3 bt4 bt5)) (n := 0) (show ¬ bI (bt0.toInt = 1) = 0 from own_b1' h)]
  show _ = FP.dadd _ (FP.ddiv (FP.i2d ((own_ap (own_B bt0 bt1 bt2 bt3 bt4 bt5) 0).1 + 1)) (FP.i2d (Int32.ofNat 1)))
  rw [own_f_0 bt0 bt1 bt2 bt3 bt4 bt5 , ← own_k1, own_one h]; rfl
theorem own_f_1 (bt0 bt1 bt2 bt3 bt4 bt5 : Int32) (r0 : 0 ≤ bt0.toInt ∧ bt0.toInt ≤ 1) : (own_ap (own_B bt0 bt1 bt2 bt3 bt4 bt5) 1).1 = bt0 := by
  have ih := own_f_0 bt0 bt1 bt2 bt3 bt4 bt5 
  rcases own_bv r0 with h | h
  · rw [own_ap0 (B := (own_B bt0 bt1 bt2 bt3 bt4 bt5)) (n := 0) (show bI (bt0.toInt = 1) = 0 from own_b0' (by rw [h]; decide)), ih]
    rw [h]
  · rw [own_ap1 (B := (own_B bt0 bt1 bt2 bt3 bt4 bt5)) (n := 0) (show ¬ bI (bt0.toInt = 1) = 0 from own_b1' (by rw [h]; decide))]
    show (own_ap (own_B bt0 bt1 bt2 bt3 bt4 bt5) 0).1 + 1 = _
    rw [ih, h]; rfl
theorem own_s0_1 (bt0 bt1 bt2 bt3 bt4 bt5 : Int32) (h : ¬ bt1.toInt = 1) : (own_ap (own_B bt0 bt1 bt2 bt3 bt4 bt5) 1).2 = (own_ap (own_B bt0 bt1 bt2 bt3 bt4 bt5) 2).2 := by rw [own_ap0 (B := (own_B bt0 bt1 bt2 bt3 bt4 bt5)) (n := 1) (show bI (bt1.toInt = 1) = 0 from own_b0' h)]
theorem own_s1_1 (bt0 bt1 bt2 bt3 bt4 bt5 : Int32) (r0 : 0 ≤ bt0.toInt ∧ bt0.toInt ≤ 1) (h : bt1.toInt = 1) : FP.dadd (own_ap (own_B bt0 bt1 bt2 bt3 bt4 bt5) 1).2 (FP.ddiv (FP.i2d (bt0 + bt1)) (4611686018427387904 : UInt64)) = (own_ap (own_B bt0 bt1 bt2 bt3 bt4 bt5) 2).2 := by
  rw [own_ap1 (B := (own_B bt0 bt1 bt2 bt3 bt4 bt5)) (n := 1) (show ¬ bI (bt1.toInt = 1) = 0 from own_b1' h)]
  show _ = FP.dadd _ (FP.ddiv (FP.i2d ((own_ap (own_B bt0 bt1 bt2 bt3 bt4 bt5) 1).1 + 1)) (FP.i2d (Int32.ofNat 2)))
  rw [own_f_1 bt0 bt1 bt2 bt3 bt4 bt5 r0, ← own_k2, own_one h]
theorem own_f_2 (bt0 bt1 bt2 bt3 bt4 bt5 : Int32) (r0 : 0 ≤ bt0.toInt ∧ bt0.toInt ≤ 1) (r1 : 0 ≤ bt1.toInt ∧ bt1.toInt ≤ 1) : (own_ap (own_B bt0 bt1 bt2 bt3 bt4 bt5) 2).1 = (bt0 + bt1) := by
  have ih := own_f_1 bt0 bt1 bt2 bt3 bt4 bt5 r0
  rcases own_bv r1 with h | h
  · rw [own_ap0 (B := (own_B bt0 bt1 bt2 bt3 bt4 bt5)) (n := 1) (show bI (bt1.toInt = 1) = 0 from own_b0' (by rw [h]; decide)), ih]
    rw [h]; exact (Int32.add_zero _).symm
  · rw [own_ap1 (B := (own_B bt0 bt1 bt2 bt3 bt4 bt5)) (n := 1) (show ¬ bI (bt1.toInt = 1) = 0 from own_b1' (by rw [h]; decide))]
    show (own_ap (own_B bt0 bt1 bt2 bt3 bt4 bt5) 1).1 + 1 = _
    rw [ih, h]
theorem own_s0_2 (bt0 bt1 bt2 bt3 bt4 bt5 : Int32) (h : ¬ bt2.toInt = 1) : (own_ap (own_B bt0 bt1 bt2 bt3 bt4 bt5) 2).2 = (own_ap (own_B bt0 bt1 bt2 bt3 bt4 bt5) 3).2 := by rw [own_ap0 (B := (own_B bt0 bt1 bt2 bt3 bt4 bt5)) (n := 2) (show bI (bt2.toInt = 1) = 0 from own_b0' h)]
theorem own_s1_2 (bt0 bt1 bt2 bt3 bt4 bt5 : Int32) (r0 : 0 ≤ bt0.toInt ∧ bt0.toInt ≤ 1) (r1 : 0 ≤ bt1.toInt ∧ bt1.toInt ≤ 1) (h : bt2.toInt = 1) : FP.dadd (own_ap (own_B bt0 bt1 bt2 bt3 bt4 bt5) 2).2 (FP.ddiv (FP.i2d ((bt0 + bt1) + bt2)) (4613937818241073152 : UInt64)) = (own_ap (own_B bt0 bt1 bt2 bt3 bt4 bt5) 3).2 := by
  rw [own_ap1 (B := (own_B bt0 bt1 bt2 bt3 bt4 bt5)) (n := 2) (show ¬ bI (bt2.toInt = 1) = 0 from own_b1' h)]
  show _ = FP.dadd _ (FP.ddiv (FP.i2d ((own_ap (own_B bt0 bt1 bt2 bt3 bt4 bt5) 2).1 + 1)) (FP.i2d (Int32.ofNat 3)))
  rw [own_f_2 bt0 bt1 bt2 bt3 bt4 bt5 r0 r1, ← own_k3, own_one h]
theorem own_f_3 (bt0 bt1 bt2 bt3 bt4 bt5 : Int32) (r0 : 0 ≤ bt0.toInt ∧ bt0.toInt ≤ 1) (r1 : 0 ≤ bt1.toInt ∧ bt1.toInt ≤ 1) (r2 : 0 ≤ bt2.toInt ∧ bt2.toInt ≤ 1) : (own_ap (own_B bt0 bt1 bt2 bt3 bt4 bt5) 3).1 = ((bt0 + bt1) + bt2) := by
  have ih := own_f_2 bt0 bt1 bt2 bt3 bt4 bt5 r0 r1
  rcases own_bv r2 with h | h
  · rw [own_ap0 (B := (own_B bt0 bt1 bt2 bt3 bt4 bt5)) (n := 2) (show bI (bt2.toInt = 1) = 0 from own_b0' (by rw [h]; decide)), ih]
    rw [h]; exact (Int32.add_zero _).symm
  · rw [own_ap1 (B := (own_B bt0 bt1 bt2 bt3 bt4 bt5)) (n := 2) (show ¬ bI (bt2.toInt = 1) = 0 from own_b1' (by rw [h]; decide))]
    show (own_ap (own_B bt0 bt1 bt2 bt3 bt4 bt5) 2).1 + 1 = _
    rw [ih, h]
theorem own_s0_3 (bt0 bt1 bt2 bt3 bt4 bt5 : Int32) (h : ¬ bt3.toInt = 1) : (own_ap (own_B bt0 bt1 bt2 bt3 bt4 bt5) 3).2 = (own_ap (own_B bt0 bt1 bt2 bt3 bt4 bt5) 4).2 := by rw [own_ap0 (B := (own_B bt0 bt1 bt2 bt3 bt4 bt5)) (n := 3) (show bI (bt3.toInt = 1) = 0 from own_b0' h)]
theorem own_s1_3 (bt0 bt1 bt2 bt3 bt4 bt5 : Int32) (r0 : 0 ≤ bt0.toInt ∧ bt0.toInt ≤ 1) (r1 : 0 ≤ bt1.toInt ∧ bt1.toInt ≤ 1) (r2 : 0 ≤ bt2.toInt ∧ bt2.toInt ≤ 1) (h : bt3.toInt = 1) : FP.dadd (own_ap (own_B bt0 bt1 bt2 bt3 bt4 bt5) 3).2 (FP.ddiv (FP.i2d (((bt0 + bt1) + bt2) + bt3)) (4616189618054758400 : UInt64)) = (own_ap (own_B bt0 bt1 bt2 bt3 bt4 bt5) 4).2 := by
  rw [own_ap1 (B := (own_B bt0 bt1 bt2 bt3 bt4 bt5)) (n := 3) (show ¬ bI (bt3.toInt = 1) = 0 from own_b1' h)]
  show _ = FP.dadd _ (FP.ddiv (FP.i2d ((own_ap (own_B bt0 bt1 bt2 bt3 bt4 bt5) 3).1 + 1)) (FP.i2d (Int32.ofNat 4)))
  rw [own_f_3 bt0 bt1 bt2 bt3 bt4 bt5 r0 r1 r2, ← own_k4, own_one h]
theorem own_f_4 (bt0 bt1 bt2 bt3 bt4 bt5 : Int32) (r0 : 0 ≤ bt0.toInt ∧ bt0.toInt ≤ 1) (r1 : 0 ≤ bt1.toInt ∧ bt1.toInt ≤ 1) (r2 : 0 ≤ bt2.toInt ∧ bt2.toInt ≤ 1) (r3 : 0 ≤ bt3.toInt ∧ bt3.toInt ≤ 1) : (own_ap (own_B bt0 bt1 bt2 bt3 bt4 bt5) 4).1 = (((bt0 + bt1) + bt2) + bt3) := by
  have ih := own_f_3 bt0 bt1 bt2 bt3 bt4 bt5 r0 r1 r2
  rcases own_bv r3 with h | h
  · rw [own_ap0 (B := (own_B bt0 bt1 bt2 bt3 bt4 bt5)) (n := 3) (show bI (bt3.toInt = 1) = 0 from own_b0' (by rw [h]; decide)), ih]
    rw [h]; exact (Int32.add_zero _).symm
  · rw [own_ap1 (B := (own_B bt0 bt1 bt2 bt3 bt4 bt5)) (n := 3) (show ¬ bI (bt3.toInt = 1) = 0 from own_b1' (by rw [h]; decide))]
    show (own_ap (own_B bt0 bt1 bt2 bt3 bt4 bt5) 3).1 + 1 = _
    rw [ih, h]
theorem own_s0_4 (bt0 bt1 bt2 bt3 bt4 bt5 : Int32) (h : ¬ bt4.toInt = 1) : (own_ap (own_B bt0 bt1 bt2 bt3 bt4 bt5) 4).2 = (own_ap (own_B bt0 bt1 bt2 bt3 bt4 bt5) 5).2 := by rw [own_ap0 (B := (own_B bt0 bt1 bt2 bt3 bt4 bt5)) (n := 4) (show bI (bt4.toInt = 1) = 0 from own_b0' h)]
theorem own_s1_4 (bt0 bt1 bt2 bt3 bt4 bt5 : Int32) (r0 : 0 ≤ bt0.toInt ∧ bt0.toInt ≤ 1) (r1 : 0 ≤ bt1.toInt ∧ bt1.toInt ≤ 1) (r2 : 0 ≤ bt2.toInt ∧ bt2.toInt ≤ 1) (r3 : 0 ≤ bt3.toInt ∧ bt3.toInt ≤ 1) (h : bt4.toInt = 1) : FP.dadd (own_ap (own_B bt0 bt1 bt2 bt3 bt4 bt5) 4).2 (FP.ddiv (FP.i2d ((((bt0 + bt1) + bt2) + bt3) + bt4)) (4617315517961601024 : UInt64)) = (own_ap (own_B bt0 bt1 bt2 bt3 bt4 bt5) 5).2 := by
  rw [own_ap1 (B := (own_B bt0 bt1 bt2 bt3 bt4 bt5)) (n := 4) (show ¬ bI (bt4.toInt = 1) = 0 from own_b1' h)]
  show _ = FP.dadd _ (FP.ddiv (FP.i2d ((own_ap (own_B bt0 bt1 bt2 bt3 bt4 bt5) 4).1 + 1)) (FP.i2d (Int32.ofNat 5)))
  rw [own_f_4 bt0 bt1 bt2 bt3 bt4 bt5 r0 r1 r2 r3, ← own_k5, own_one h]
theorem own_f_5 (bt0 bt1 bt2 bt3 bt4 bt5 : Int32) (r0 : 0 ≤ bt0.toInt ∧ bt0.toInt ≤ 1) (r1 : 0 ≤ bt1.toInt ∧ bt1.toInt ≤ 1) (r2 : 0 ≤ bt2.toInt ∧ bt2.toInt ≤ 1) (r3 : 0 ≤ bt3.toInt ∧ bt3.toInt ≤ 1) (r4 : 0 ≤ bt4.toInt ∧ bt4.toInt ≤ 1) : (own_ap (own_B bt0 bt1 bt2 bt3 bt4 bt5) 5).1 = ((((bt0 + bt1) + bt2) + bt3) + bt4) := by
  have ih := own_f_4 bt0 bt1 bt2 bt3 bt4 bt5 r0 r1 r2 r3
  rcases own_bv r4 with h | h
  · rw [own_ap0 (B := (own_B bt0 bt1 bt2 bt3 bt4 bt5)) (n := 4) (show bI (bt4.toInt = 1) = 0 from own_b0' (by rw [h]; decide)), ih]
    rw [h]; exact (Int32.add_zero _).symm
  · rw [own_ap1 (B := (own_B bt0 bt1 bt2 bt3 bt4 bt5)) (n := 4) (show ¬ bI (bt4.toInt = 1) = 0 from own_b1' (by rw [h]; decide))]
    show (own_ap (own_B bt0 bt1 bt2 bt3 bt4 bt5) 4).1 + 1 = _
    rw [ih, h]
theorem own_s0_5 (bt0 bt1 bt2 bt3 bt4 bt5 : Int32) (h : ¬ bt5.toInt = 1) : (own_ap (own_B bt0 bt1 bt2 bt3 bt4 bt5) 5).2 = (own_ap (own_B bt0 bt1 bt2 bt3 bt4 bt5) 6).2 := by rw [own_ap0 (B := (own_B bt0 bt1 bt2 bt3 bt4 bt5)) (n := 5) (show bI (bt5.toInt = 1) = 0 from own_b0' h)]
theorem own_s1_5 (bt0 bt1 bt2 bt3 bt4 bt5 : Int32) (r0 : 0 ≤ bt0.toInt ∧ bt0.toInt ≤ 1) (r1 : 0 ≤ bt1.toInt ∧ bt1.toInt ≤ 1) (r2 : 0 ≤ bt2.toInt ∧ bt2.toInt ≤ 1) (r3 : 0 ≤ bt3.toInt ∧ bt3.toInt ≤ 1) (r4 : 0 ≤ bt4.toInt ∧ bt4.toInt ≤ 1) (h : bt5.toInt = 1) : FP.dadd (own_ap (own_B bt0 bt1 bt2 bt3 bt4 bt5) 5).2 (FP.ddiv (FP.i2d (((((bt0 + bt1) + bt2) + bt3) + bt4) + bt5)) (4618441417868443648 : UInt64)) = (own_ap (own_B bt0 bt1 bt2 bt3 bt4 bt5) 6).2 := by
  rw [own_ap1 (B := (own_B bt0 bt1 bt2 bt3 bt4 bt5)) (n := 5) (show ¬ bI (bt5.toInt = 1) = 0 from own_b1' h)]
  show _ = FP.dadd _ (FP.ddiv (FP.i2d ((own_ap (own_B bt0 bt1 bt2 bt3 bt4 bt5) 5).1 + 1)) (FP.i2d (Int32.ofNat 6)))
  rw [own_f_5 bt0 bt1 bt2 bt3 bt4 bt5 r0 r1 r2 r3 r4, ← own_k6, own_one h]
theorem own_all {bt0 bt1 bt2 bt3 bt4 bt5 : Int32} (n : Int32) (hn : 0 ≤ n.toInt ∧ n.toInt ≤ 6) (u0 : n.toInt ≤ 0 → bt0.toInt = 0) (u1 : n.toInt ≤ 1 → bt1.toInt = 0) (u2 : n.toInt ≤ 2 → bt2.toInt = 0) (u3 : n.toInt ≤ 3 → bt3.toInt = 0) (u4 : n.toInt ≤ 4 → bt4.toInt = 0) (u5 : n.toInt ≤ 5 → bt5.toInt = 0) : own_ap (own_B bt0 bt1 bt2 bt3 bt4 bt5) n.toNatClampNeg = own_ap (own_B bt0 bt1 bt2 bt3 bt4 bt5) 6 := by
  have z0 : n.toInt ≤ 0 → own_ap (own_B bt0 bt1 bt2 bt3 bt4 bt5) 1 = own_ap (own_B bt0 bt1 bt2 bt3 bt4 bt5) 0 := fun q => own_ap0 (B := (own_B bt0 bt1 bt2 bt3 bt4 bt5)) (n := 0) (show bI (bt0.toInt = 1) = 0 from own_b0' (by have y := u0 q; omega))
  have z1 : n.toInt ≤ 1 → own_ap (own_B bt0 bt1 bt2 bt3 bt4 bt5) 2 = own_ap (own_B bt0 bt1 bt2 bt3 bt4 bt5) 1 := fun q => own_ap0 (B := (own_B bt0 bt1 bt2 bt3 bt4 bt5)) (n := 1) (show bI (bt1.toInt = 1) = 0 from own_b0' (by have y := u1 q; omega))
  have z2 : n.toInt ≤ 2 → own_ap (own_B bt0 bt1 bt2 bt3 bt4 bt5) 3 = own_ap (own_B bt0 bt1 bt2 bt3 bt4 bt5) 2 := fun q => own_ap0 (B := (own_B bt0 bt1 bt2 bt3 bt4 bt5)) (n := 2) (show bI (bt2.toInt = 1) = 0 from own_b0' (by have y := u2 q; omega))
  have z3 : n.toInt ≤ 3 → own_ap (own_B bt0 bt1 bt2 bt3 bt4 bt5) 4 = own_ap (own_B bt0 bt1 bt2 bt3 bt4 bt5) 3 := fun q => own_ap0 (B := (own_B bt0 bt1 bt2 bt3 bt4 bt5)) (n := 3) (show bI (bt3.toInt = 1) = 0 from own_b0' (by have y := u3 q; omega))
  have z4 : n.toInt ≤ 4 → own_ap (own_B bt0 bt1 bt2 bt3 bt4 bt5) 5 = own_ap (own_B bt0 bt1 bt2 bt3 bt4 bt5) 4 := fun q => own_ap0 (B := (own_B bt0 bt1 bt2 bt3 bt4 bt5)) (n := 4) (show bI (bt4.toInt = 1) = 0 from own_b0' (by have y := u4 q; omega))
  have z5 : n.toInt ≤ 5 → own_ap (own_B bt0 bt1 bt2 bt3 bt4 bt5) 6 = own_ap (own_B bt0 bt1 bt2 bt3 bt4 bt5) 5 := fun q => own_ap0 (B := (own_B bt0 bt1 bt2 bt3 bt4 bt5)) (n := 5) (show bI (bt5.toInt = 1) = 0 from own_b0' (by have y := u5 q; omega))
  rcases (show n.toInt = 0 ∨ n.toInt = 1 ∨ n.toInt = 2 ∨ n.toInt = 3 ∨ n.toInt = 4 ∨ n.toInt = 5 ∨ n.toInt = 6 by omega) with q | q | q | q | q | q | q
  · obtain rfl : n = (0 : Int32) := own_eq.mpr q
    show own_ap _ 0 = _
    rw [z5 (by decide), z4 (by decide), z3 (by decide), z2 (by decide), z1 (by decide), z0 (by decide)]
  · obtain rfl : n = (1 : Int32) := own_eq.mpr q
    show own_ap _ 1 = _
    rw [z5 (by decide), z4 (by decide), z3 (by decide), z2 (by decide), z1 (by decide)]
  · obtain rfl : n = (2 : Int32) := own_eq.mpr q
    show own_ap _ 2 = _
    rw [z5 (by decide), z4 (by decide), z3 (by decide), z2 (by decide)]
  · obtain rfl : n = (3 : Int32) := own_eq.mpr q
    show own_ap _ 3 = _
    rw [z5 (by decide), z4 (by decide), z3 (by decide)]
  · obtain rfl : n = (4 : Int32) := own_eq.mpr q
    show own_ap _ 4 = _
    rw [z5 (by decide), z4 (by decide)]
  · obtain rfl : n = (5 : Int32) := own_eq.mpr q
    show own_ap _ 5 = _
    rw [z5 (by decide)]
  · obtain rfl : n = (6 : Int32) := own_eq.mpr q
    rfl
theorem ef_2 (m : MethodId) (x0 : Addr) (x1 : Addr) (x2 : Int32) : entryFrame m #[(.ref x0), (.ref x1), (.int x2)] 3 = mkF m 0 #[.val (.ref x0), .val (.ref x1), .val (.int x2)] [] := by first | (simp [entryFrame, mkF, argsToLocals, Value.category]; done) | rfl
theorem pn_com_example_cranfield_cranfield_eval_RankedTopic : plainName "com/example/cranfield/cranfield/eval/RankedTopic" = true := by first | (simp [plainName, overriddenIn]; done) | decide +kernel
theorem d2_0 : decode prog_20_method_1_code 0 = .ok (.aload_n 0, 1) := by decide +kernel
theorem d2_1 : decode prog_20_method_1_code 1 = .ok (.invokespecial 1, 3) := by decide +kernel
theorem d2_4 : decode prog_20_method_1_code 4 = .ok (.aload_n 0, 1) := by decide +kernel
theorem d2_5 : decode prog_20_method_1_code 5 = .ok (.aload_n 1, 1) := by decide +kernel
theorem d2_6 : decode prog_20_method_1_code 6 = .ok (.putfield 7, 3) := by decide +kernel
theorem d2_9 : decode prog_20_method_1_code 9 = .ok (.aload_n 0, 1) := by decide +kernel
theorem d2_10 : decode prog_20_method_1_code 10 = .ok (.iload_n 2, 1) := by decide +kernel
theorem d2_11 : decode prog_20_method_1_code 11 = .ok (.putfield 13, 3) := by decide +kernel
theorem d2_14 : decode prog_20_method_1_code 14 = .ok (.return_, 1) := by decide +kernel
theorem ef_1 (m : MethodId) (x0 : Int32) (x1 : Int32) (x2 : Int32) : entryFrame m #[(.int x0), (.int x1), (.int x2)] 3 = mkF m 0 #[.val (.int x0), .val (.int x1), .val (.int x2)] [] := by first | (simp [entryFrame, mkF, argsToLocals, Value.category]; done) | rfl
theorem pn_com_example_cranfield_cranfield_eval_RankedTopicAveragePrecisionPinLaw : plainName "com/example/cranfield/cranfield/eval/RankedTopicAveragePrecisionPinLaw" = true := by first | (simp [plainName, overriddenIn]; done) | decide +kernel
theorem d1_0 : decode method_2_code 0 = .ok (.iload_n 1, 1) := by decide +kernel
theorem d1_1 : decode method_2_code 1 = .ok (.iload_n 2, 1) := by decide +kernel
theorem d1_2 : decode method_2_code 2 = .ok (.if_icmp .lt 5, 3) := by decide +kernel
theorem d1_7 : decode method_2_code 7 = .ok (.iload_n 0, 1) := by decide +kernel
theorem d1_8 : decode method_2_code 8 = .ok (.iload_n 1, 1) := by decide +kernel
theorem d1_9 : decode method_2_code 9 = .ok (.iushr, 1) := by decide +kernel
theorem d1_10 : decode method_2_code 10 = .ok (.iconst 1, 1) := by decide +kernel
theorem d1_11 : decode method_2_code 11 = .ok (.iand, 1) := by decide +kernel
theorem d1_12 : decode method_2_code 12 = .ok (.ireturn, 1) := by decide +kernel
theorem d1_5 : decode method_2_code 5 = .ok (.iconst 0, 1) := by decide +kernel
theorem d1_6 : decode method_2_code 6 = .ok (.ireturn, 1) := by decide +kernel
theorem ef_4 (m : MethodId) (x0 : Addr) : entryFrame m #[(.ref x0)] 5 = mkF m 0 #[.val (.ref x0), .unset, .unset, .unset, .unset] [] := by first | (simp [entryFrame, mkF, argsToLocals, Value.category]; done) | rfl
theorem d4_0 : decode prog_20_method_7_code 0 = .ok (.dconst 0, 1) := by decide +kernel
theorem d4_1 : decode prog_20_method_7_code 1 = .ok (.dstore_n 1, 1) := by decide +kernel
theorem d4_2 : decode prog_20_method_7_code 2 = .ok (.iconst 0, 1) := by decide +kernel
theorem d4_3 : decode prog_20_method_7_code 3 = .ok (.istore_n 3, 1) := by decide +kernel
theorem d4_4 : decode prog_20_method_7_code 4 = .ok (.iconst 1, 1) := by decide +kernel
theorem d4_5 : decode prog_20_method_7_code 5 = .ok (.istore 4, 2) := by decide +kernel
theorem d4_7 : decode prog_20_method_7_code 7 = .ok (.iload 4, 2) := by decide +kernel
theorem d4_9 : decode prog_20_method_7_code 9 = .ok (.aload_n 0, 1) := by decide +kernel
theorem d4_10 : decode prog_20_method_7_code 10 = .ok (.getfield 7, 3) := by decide +kernel
theorem d4_13 : decode prog_20_method_7_code 13 = .ok (.arraylength, 1) := by decide +kernel
theorem d4_14 : decode prog_20_method_7_code 14 = .ok (.if_icmp .gt 33, 3) := by decide +kernel
theorem d4_47 : decode prog_20_method_7_code 47 = .ok (.aload_n 0, 1) := by decide +kernel
theorem d4_48 : decode prog_20_method_7_code 48 = .ok (.getfield 13, 3) := by decide +kernel
theorem d4_51 : decode prog_20_method_7_code 51 = .ok (.ifCond .ne 7, 3) := by decide +kernel
theorem d4_54 : decode prog_20_method_7_code 54 = .ok (.dconst 0, 1) := by decide +kernel
theorem d4_55 : decode prog_20_method_7_code 55 = .ok (.goto 10, 3) := by decide +kernel
theorem d4_65 : decode prog_20_method_7_code 65 = .ok (.dreturn, 1) := by decide +kernel
theorem d4_58 : decode prog_20_method_7_code 58 = .ok (.dload_n 1, 1) := by decide +kernel
theorem d4_59 : decode prog_20_method_7_code 59 = .ok (.aload_n 0, 1) := by decide +kernel
theorem d4_60 : decode prog_20_method_7_code 60 = .ok (.getfield 13, 3) := by decide +kernel
theorem d4_63 : decode prog_20_method_7_code 63 = .ok (.i2d, 1) := by decide +kernel
theorem d4_64 : decode prog_20_method_7_code 64 = .ok (.ddiv, 1) := by decide +kernel
theorem d4_17 : decode prog_20_method_7_code 17 = .ok (.aload_n 0, 1) := by decide +kernel
theorem d4_18 : decode prog_20_method_7_code 18 = .ok (.getfield 7, 3) := by decide +kernel
theorem d4_21 : decode prog_20_method_7_code 21 = .ok (.iload 4, 2) := by decide +kernel
theorem d4_23 : decode prog_20_method_7_code 23 = .ok (.iconst 1, 1) := by decide +kernel
theorem d4_24 : decode prog_20_method_7_code 24 = .ok (.isub, 1) := by decide +kernel
theorem d4_25 : decode prog_20_method_7_code 25 = .ok (.baload, 1) := by decide +kernel
theorem d4_26 : decode prog_20_method_7_code 26 = .ok (.ifCond .eq 15, 3) := by decide +kernel
theorem d4_41 : decode prog_20_method_7_code 41 = .ok (.iinc 4 1, 3) := by decide +kernel
theorem d4_44 : decode prog_20_method_7_code 44 = .ok (.goto (-37), 3) := by decide +kernel
theorem d4_29 : decode prog_20_method_7_code 29 = .ok (.iinc 3 1, 3) := by decide +kernel
theorem d4_32 : decode prog_20_method_7_code 32 = .ok (.dload_n 1, 1) := by decide +kernel
theorem d4_33 : decode prog_20_method_7_code 33 = .ok (.iload_n 3, 1) := by decide +kernel
theorem d4_34 : decode prog_20_method_7_code 34 = .ok (.i2d, 1) := by decide +kernel
theorem d4_35 : decode prog_20_method_7_code 35 = .ok (.iload 4, 2) := by decide +kernel
theorem d4_37 : decode prog_20_method_7_code 37 = .ok (.i2d, 1) := by decide +kernel
theorem d4_38 : decode prog_20_method_7_code 38 = .ok (.ddiv, 1) := by decide +kernel
theorem d4_39 : decode prog_20_method_7_code 39 = .ok (.dadd, 1) := by decide +kernel
theorem d4_40 : decode prog_20_method_7_code 40 = .ok (.dstore_n 1, 1) := by decide +kernel
theorem ef_0 (m : MethodId) (x0 : Int32) (x1 : Int32) (x2 : Int32) : entryFrame m #[(.int x0), (.int x1), (.int x2)] maxLocals = mkF m 0 #[.val (.int x0), .val (.int x1), .val (.int x2), .unset, .unset, .unset, .unset, .unset, .unset, .unset, .unset, .unset, .unset, .unset, .unset, .unset, .unset, .unset, .unset, .unset, .unset, .unset, .unset, .unset] [] := by first | (simp [entryFrame, mkF, argsToLocals, Value.category, maxLocals]; done) | rfl
theorem pd_0 : parseMethodDescriptor "(III)I" = some ⟨[.int, .int, .int], some .int⟩ := by decide +kernel
theorem pd_1 : parseMethodDescriptor "([ZI)V" = some ⟨[(.array .boolean), .int], none⟩ := by decide +kernel
theorem pd_2 : parseMethodDescriptor "()D" = some ⟨[], some .double⟩ := by decide +kernel
def Q2 (Z : State) (r0 : Addr) (r1 : Addr) (p2 : Int32) (h0 : Heap) (n0 : Nat) (v : Option Value) (h : Heap) (L : List Loc) : Prop := v = none ∧ Fr n0 L ∧ Keep h0 h [r0] ∧ Exa Z h r0 "com/example/cranfield/cranfield/eval/RankedTopic" ∧ Fld Z h r0 "com/example/cranfield/cranfield/eval/RankedTopic" "relevant" "[Z" (.ref r1) ∧ Fld Z h r0 "com/example/cranfield/cranfield/eval/RankedTopic" "relevantCount" "I" (.int p2)
set_option maxRecDepth 65536 in
set_option maxHeartbeats 40000000 in
theorem rm2 (l : Launch) (Z : State) (a0 : Array Value) (hw : ∀ d ∈ tables_1, d.before a0 Z = true) (ws : List Jvm.Cond) (r0 : Addr) (r1 : Addr) (p2 : Int32) (h0 : Heap) (n0 : Nat) (Z0 : n0 ≤ h0.size) (E_r0 : Exa Z h0 r0 "com/example/cranfield/cranfield/eval/RankedTopic") (F_0 : Fld Z h0 r0 "com/example/cranfield/cranfield/eval/RankedTopic" "relevant" "[Z" .null) (F_1 : Fld Z h0 r0 "com/example/cranfield/cranfield/eval/RankedTopic" "relevantCount" "I" (.int (0 : Int32))) (g_r0 : n0 ≤ r0) :
    MetFree l (⟨"com/example/cranfield/cranfield/eval/RankedTopic", "<init>", "([ZI)V"⟩ : MethodName) (head1 (Jvm.Cond.code (⟨"com/example/cranfield/cranfield/eval/RankedTopic", "<init>", "([ZI)V"⟩ : MethodName) prog_20_method_1_code 3 none :: ws) ({ frames := 1, cells := 0, slots := 0, locals := 12 } : Room)) (fun a U => a = #[(.ref r0), (.ref r1), (.int p2)] ∧ Z.Warmed39 U.vm ∧ U.heap = h0) (fun _ _ _ _ _ => True) (fun _ U o U' => ∃ v L, o = .returned v ∧ Q2 Z r0 r1 p2 h0 n0 v U'.heap L ∧ FrameEnd U o U' L ({ frames := 1, cells := 0, slots := 0, locals := 12 } : Room).cells ({ frames := 1, cells := 0, slots := 0, locals := 12 } : Room).slots) := by
  refine MetFree.of_bodySF (plainFor_of_name pn_com_example_cranfield_cranfield_eval_RankedTopic) hisR ?_
  intro p e s m args below meth c s₁ Bd hml0 hP hK
  obtain ⟨rfl, hZ, hh⟩ := hP
  have hx := Bd.exec
  have hby := Bd.bytes
  have hml : c.maxLocals = 3 := hml0
  have hown : s.vm.findClass "com/example/cranfield/cranfield/eval/RankedTopic" = some m.cls := findClass_of_methodNamed Bd.named
  have hnm := (name_of_methodNamed Bd.named Bd.method).1
  have X0 : Stand p l e ({ frames := 1, cells := 0, slots := 0, locals := 12 } : Room) s m #[(.ref r0), (.ref r1), (.int p2)] below meth c s₁ [] 0 0 := Stand.of_body Bd
  have e0 : s₁.heap = h0 := by rw [← hh, Bd.state]; rfl
  have N0 := Fr.nil n0
  have pre0 : ∀ t, Steps p.tables e below (s₁.setTop (mkF m 0 #[.val (.ref r0), .val (.ref r1), .val (.int p2)] [])) t → Steps p.tables e below (s₁.setTop (entryFrame m #[(.ref r0), (.ref r1), (.int p2)] 3)) t := fun t k => castTop (ef_2 m r0 r1 p2) k
  have preS : ∀ t, Steps p.tables e below (s₁.setTop (mkF m 0 #[.val (.ref r0), .val (.ref r1), .val (.int p2)] [])) t → Steps p.tables e below (s₁.setTop (mkF m 0 #[.val (.ref r0), .val (.ref r1), .val (.int p2)] [])) t := fun t k => k
  have KR : Keep h0 h0 [r0] := Keep.refl _ _
  obtain ⟨T1, X1, e1, st1⟩ := initO X0 hx hZ hown (hw _ (List.mem_of_getElem? (i := 12) rfl)) (hw _ (List.mem_of_getElem? (i := 13) rfl)) (hw _ (List.mem_of_getElem? (i := 14) rfl)) e0 (g := (mkF m 1 #[.val (.ref r0), .val (.ref r1), .val (.int p2)] [(.ref r0)])) rfl (by rw [hml]; rfl) rfl (hb hby d2_1) (by decide) (W := 0) (by show 2 * 0 + _ ≤ _; exact Nat.le_of_eq rfl) (by decide)
  obtain ⟨T2, h2, X2, e2, W2, st2⟩ := putF X1 hx hZ hown (host := "") (Or.inl (hw _ (List.mem_of_getElem? (i := 15) rfl))) Via.refl e1 F_0 E_r0 (Or.inr ⟨(hw _ (List.mem_of_getElem? (i := 16) rfl)), rfl, hnm⟩) (hw _ (List.mem_of_getElem? (i := 7) rfl)) (ty := (.array .boolean)) (by decide) rfl rfl (g := (mkF m 6 #[.val (.ref r0), .val (.ref r1), .val (.int p2)] [(.ref r1), (.ref r0)])) rfl rfl (hb hby d2_6)
  have Fw2 : Fld Z h2 r0 "com/example/cranfield/cranfield/eval/RankedTopic" "relevant" "[Z" (.ref r1) := F_0.same W2
  have N2 := Fr.snoc X2 N0 g_r0
  have Z2 : n0 ≤ h2.size := Nat.le_trans Z0 (Keep.of_wr W2).1
  have K2 : Keep h0 h2 [r0] := KR.wr W2 (Or.inl (List.mem_of_getElem? (i := 0) rfl))
  have c3 : Exa Z h2 r0 "com/example/cranfield/cranfield/eval/RankedTopic" := E_r0.wr W2
  have c4 : Fld Z h2 r0 "com/example/cranfield/cranfield/eval/RankedTopic" "relevantCount" "I" (.int (0 : Int32)) := F_1.other W2 (Or.inr (slot_ne (Or.inr (hw _ (List.mem_of_getElem? (i := 18) rfl))) (Or.inr (hw _ (List.mem_of_getElem? (i := 16) rfl))) (by decide) (t := .int) (t' := (.array .boolean)) (by decide) (by decide)))
  obtain ⟨T5, h5, X5, e5, W5, st5⟩ := putF X2 hx hZ hown (host := "") (Or.inl (hw _ (List.mem_of_getElem? (i := 17) rfl))) Via.refl e2 c4 c3 (Or.inr ⟨(hw _ (List.mem_of_getElem? (i := 18) rfl)), rfl, hnm⟩) (hw _ (List.mem_of_getElem? (i := 7) rfl)) (ty := .int) (by decide) rfl rfl (g := (mkF m 11 #[.val (.ref r0), .val (.ref r1), .val (.int p2)] [(.int p2), (.ref r0)])) rfl rfl (hb hby d2_11)
  have Fw5 : Fld Z h5 r0 "com/example/cranfield/cranfield/eval/RankedTopic" "relevantCount" "I" (.int p2) := c4.same W5
  have N5 := Fr.snoc X5 N2 g_r0
  have Z5 : n0 ≤ h5.size := Nat.le_trans Z2 (Keep.of_wr W5).1
  have K5 : Keep h0 h5 [r0] := K2.wr W5 (Or.inl (List.mem_of_getElem? (i := 0) rfl))
  have c6 : Exa Z h5 r0 "com/example/cranfield/cranfield/eval/RankedTopic" := c3.wr W5
  have c7 : Fld Z h5 r0 "com/example/cranfield/cranfield/eval/RankedTopic" "relevant" "[Z" (.ref r1) := Fw2.other W5 (Or.inr (slot_ne (Or.inr (hw _ (List.mem_of_getElem? (i := 16) rfl))) (Or.inr (hw _ (List.mem_of_getElem? (i := 18) rfl))) (by decide) (t := (.array .boolean)) (t' := .int) (by decide) (by decide)))
  obtain ⟨fs, hr, hrun, hended, hW, hsame⟩ := X5.leave (v := none) (fun _ => rfl)
  refine ⟨_, _, pre0 _ (preS _ ?_), hrun, hended, _, _, rfl, ?_, ⟨_, rfl⟩, hW, hsame.mono (by decide) (by decide)⟩
  · skip
    show Steps p.tables e below (s₁.setTop (mkF m 0 #[.val (.ref r0), .val (.ref r1), .val (.int p2)] [])) _
    refine XS.aloadN X0.here hx rfl (hb hby d2_0) rfl rfl ?_
    show Steps p.tables e below (s₁.setTop (mkF m 1 #[.val (.ref r0), .val (.ref r1), .val (.int p2)] [(.ref r0)])) _
    refine st1 _ ?_
    show Steps p.tables e below (T1.setTop (mkF m 4 #[.val (.ref r0), .val (.ref r1), .val (.int p2)] [])) _
    refine XS.aloadN X1.here hx rfl (hb hby d2_4) rfl rfl ?_
    show Steps p.tables e below (T1.setTop (mkF m 5 #[.val (.ref r0), .val (.ref r1), .val (.int p2)] [(.ref r0)])) _
    refine XS.aloadN X1.here hx rfl (hb hby d2_5) rfl rfl ?_
    show Steps p.tables e below (T1.setTop (mkF m 6 #[.val (.ref r0), .val (.ref r1), .val (.int p2)] [(.ref r1), (.ref r0)])) _
    refine st2 _ ?_
    show Steps p.tables e below (T2.setTop (mkF m 9 #[.val (.ref r0), .val (.ref r1), .val (.int p2)] [])) _
    refine XS.aloadN X2.here hx rfl (hb hby d2_9) rfl rfl ?_
    show Steps p.tables e below (T2.setTop (mkF m 10 #[.val (.ref r0), .val (.ref r1), .val (.int p2)] [(.ref r0)])) _
    refine XS.iloadN X2.here hx rfl (hb hby d2_10) rfl ?_
    show Steps p.tables e below (T2.setTop (mkF m 11 #[.val (.ref r0), .val (.ref r1), .val (.int p2)] [(.int p2), (.ref r0)])) _
    refine st5 _ ?_
    show Steps p.tables e below (T5.setTop (mkF m 14 #[.val (.ref r0), .val (.ref r1), .val (.int p2)] [])) _
    exact X5.returnOut hx Bd.returns (hb hby d2_14) hr
  · show Q2 Z r0 r1 p2 h0 n0 _ T5.heap _
    rw [e5]
    exact ⟨rfl, N5, K5, c6, c7, Fw5⟩
def Q1 (Z : State) (p0 : Int32) (p1 : Int32) (p2 : Int32) (h0 : Heap) (n0 : Nat) (v : Option Value) (h : Heap) (L : List Loc) : Prop := ∃ z : Int32, v = some (.int z) ∧ Fr n0 L ∧ h = h0 ∧ (0 ≤ z.toInt ∧ z.toInt ≤ 1) ∧ (p2.toInt ≤ p1.toInt → z.toInt = 0)
set_option maxRecDepth 65536 in
set_option maxHeartbeats 40000000 in
theorem rm1 (l : Launch) (Z : State) (a0 : Array Value) (hw : ∀ d ∈ tables_1, d.before a0 Z = true) (ws : List Jvm.Cond) (p0 : Int32) (p1 : Int32) (p2 : Int32) (h0 : Heap) (n0 : Nat) (Z0 : n0 ≤ h0.size) :
    MetFree l (⟨"com/example/cranfield/cranfield/eval/RankedTopicAveragePrecisionPinLaw", "bit", "(III)I"⟩ : MethodName) (head1 (Jvm.Cond.code (⟨"com/example/cranfield/cranfield/eval/RankedTopicAveragePrecisionPinLaw", "bit", "(III)I"⟩ : MethodName) method_2_code 3 (some .int) :: ws) ({ frames := 0, cells := 0, slots := 0, locals := 0 } : Room)) (fun a U => a = #[(.int p0), (.int p1), (.int p2)] ∧ Z.Warmed39 U.vm ∧ U.heap = h0) (fun _ _ _ _ _ => True) (fun _ U o U' => ∃ v L, o = .returned v ∧ Q1 Z p0 p1 p2 h0 n0 v U'.heap L ∧ FrameEnd U o U' L ({ frames := 0, cells := 0, slots := 0, locals := 0 } : Room).cells ({ frames := 0, cells := 0, slots := 0, locals := 0 } : Room).slots) := by
  refine MetFree.of_bodySF (plainFor_of_name pn_com_example_cranfield_cranfield_eval_RankedTopicAveragePrecisionPinLaw) hisR ?_
  intro p e s m args below meth c s₁ Bd hml0 hP hK
  obtain ⟨rfl, hZ, hh⟩ := hP
  have hx := Bd.exec
  have hby := Bd.bytes
  have hml : c.maxLocals = 3 := hml0
  have hown : s.vm.findClass "com/example/cranfield/cranfield/eval/RankedTopicAveragePrecisionPinLaw" = some m.cls := findClass_of_methodNamed Bd.named
  have hnm := (name_of_methodNamed Bd.named Bd.method).1
  have X0 : Stand p l e ({ frames := 0, cells := 0, slots := 0, locals := 0 } : Room) s m #[(.int p0), (.int p1), (.int p2)] below meth c s₁ [] 0 0 := Stand.of_body Bd
  have e0 : s₁.heap = h0 := by rw [← hh, Bd.state]; rfl
  have N0 := Fr.nil n0
  have pre0 : ∀ t, Steps p.tables e below (s₁.setTop (mkF m 0 #[.val (.int p0), .val (.int p1), .val (.int p2)] [])) t → Steps p.tables e below (s₁.setTop (entryFrame m #[(.int p0), (.int p1), (.int p2)] 3)) t := fun t k => castTop (ef_1 m p0 p1 p2) k
  have preS : ∀ t, Steps p.tables e below (s₁.setTop (mkF m 0 #[.val (.int p0), .val (.int p1), .val (.int p2)] [])) t → Steps p.tables e below (s₁.setTop (mkF m 0 #[.val (.int p0), .val (.int p1), .val (.int p2)] [])) t := fun t k => k
  have pre2 : ∀ t, Steps p.tables e below (s₁.setTop (mkF m 2 #[.val (.int p0), .val (.int p1), .val (.int p2)] [(.int p2), (.int p1)])) t → Steps p.tables e below (s₁.setTop (mkF m 0 #[.val (.int p0), .val (.int p1), .val (.int p2)] [])) t := fun t k => preS t (by
    show Steps p.tables e below (s₁.setTop (mkF m 0 #[.val (.int p0), .val (.int p1), .val (.int p2)] [])) _
    refine XS.iloadN X0.here hx rfl (hb hby d1_0) rfl ?_
    show Steps p.tables e below (s₁.setTop (mkF m 1 #[.val (.int p0), .val (.int p1), .val (.int p2)] [(.int p1)])) _
    refine XS.iloadN X0.here hx rfl (hb hby d1_1) rfl ?_
    exact k)
  by_cases hc1 : p1 < p2
  · skip
    have ohc1 : p1.toInt < p2.toInt := own_lt.mp hc1
    obtain ⟨fs, hr, hrun, hended, hW, hsame⟩ := X0.leave (v := some (.int (((p0.toUInt32 >>> (p1 &&& 31).toUInt32).toInt32) &&& (1 : Int32)))) (fun h => by rw [Bd.returns] at h; cases h)
    refine ⟨_, _, pre0 _ (pre2 _ ?_), hrun, hended, _, _, rfl, ?_, ⟨_, rfl⟩, hW, hsame.mono (by decide) (by decide)⟩
    · skip
      show Steps p.tables e below (s₁.setTop (mkF m 2 #[.val (.int p0), .val (.int p1), .val (.int p2)] [(.int p2), (.int p1)])) _
      refine XS.icmpYes X0.here hx rfl (pc0 := 2) (pc' := 7) rfl (hb hby d1_2) rfl (tlt hc1).1 (by decide) (by decide) ?_
      show Steps p.tables e below (s₁.setTop (mkF m 7 #[.val (.int p0), .val (.int p1), .val (.int p2)] [])) _
      refine XS.iloadN X0.here hx rfl (hb hby d1_7) rfl ?_
      show Steps p.tables e below (s₁.setTop (mkF m 8 #[.val (.int p0), .val (.int p1), .val (.int p2)] [(.int p0)])) _
      refine XS.iloadN X0.here hx rfl (hb hby d1_8) rfl ?_
      show Steps p.tables e below (s₁.setTop (mkF m 9 #[.val (.int p0), .val (.int p1), .val (.int p2)] [(.int p1), (.int p0)])) _
      refine XS.iushr X0.here hx rfl (hb hby d1_9) rfl ?_
      show Steps p.tables e below (s₁.setTop (mkF m 10 #[.val (.int p0), .val (.int p1), .val (.int p2)] [(.int ((p0.toUInt32 >>> (p1 &&& 31).toUInt32).toInt32))])) _
      refine XS.iconst X0.here hx rfl (hb hby d1_10) ?_
      show Steps p.tables e below (s₁.setTop (mkF m 11 #[.val (.int p0), .val (.int p1), .val (.int p2)] [(.int (1 : Int32)), (.int ((p0.toUInt32 >>> (p1 &&& 31).toUInt32).toInt32))])) _
      refine XS.iand X0.here hx rfl (hb hby d1_11) rfl ?_
      show Steps p.tables e below (s₁.setTop (mkF m 12 #[.val (.int p0), .val (.int p1), .val (.int p2)] [(.int (((p0.toUInt32 >>> (p1 &&& 31).toUInt32).toInt32) &&& (1 : Int32)))])) _
      exact retI X0 hx Bd.returns (hb hby d1_12) hr
    · show Q1 Z p0 p1 p2 h0 n0 _ s₁.heap _
      rw [e0]
      exact ⟨_, rfl, N0, rfl, by have q := c_mask ((p0.toUInt32 >>> (p1 &&& 31).toUInt32).toInt32) (1 : Int32) 1 (by decide) (by decide); omega, fun q => by omega⟩
  · skip
    have ohc1 : p2.toInt ≤ p1.toInt := own_nlt.mp hc1
    obtain ⟨fs, hr, hrun, hended, hW, hsame⟩ := X0.leave (v := some (.int (0 : Int32))) (fun h => by rw [Bd.returns] at h; cases h)
    refine ⟨_, _, pre0 _ (pre2 _ ?_), hrun, hended, _, _, rfl, ?_, ⟨_, rfl⟩, hW, hsame.mono (by decide) (by decide)⟩
    · skip
      show Steps p.tables e below (s₁.setTop (mkF m 2 #[.val (.int p0), .val (.int p1), .val (.int p2)] [(.int p2), (.int p1)])) _
      refine XS.icmpNo X0.here hx rfl (hb hby d1_2) rfl (flt hc1).1 ?_
      show Steps p.tables e below (s₁.setTop (mkF m 5 #[.val (.int p0), .val (.int p1), .val (.int p2)] [])) _
      refine XS.iconst X0.here hx rfl (hb hby d1_5) ?_
      show Steps p.tables e below (s₁.setTop (mkF m 6 #[.val (.int p0), .val (.int p1), .val (.int p2)] [(.int (0 : Int32))])) _
      exact retI X0 hx Bd.returns (hb hby d1_6) hr
    · show Q1 Z p0 p1 p2 h0 n0 _ s₁.heap _
      rw [e0]
      exact ⟨_, rfl, N0, rfl, by decide, fun _ => rfl⟩
def Q4 (Z : State) (r0 : Addr) (wc : Int32) (ra : Addr) (cb : Cell) (ln : Int32) (B : Nat → Int32) (h0 : Heap) (n0 : Nat) (v : Option Value) (h : Heap) (L : List Loc) : Prop := v = some (.double (own_fin wc (own_ap B ln.toNatClampNeg).2)) ∧ Fr n0 L ∧ h = h0
set_option maxRecDepth 65536 in
set_option maxHeartbeats 40000000 in
theorem rm4 (l : Launch) (Z : State) (a0 : Array Value) (hw : ∀ d ∈ tables_1, d.before a0 Z = true) (ws : List Jvm.Cond) (r0 : Addr) (wc : Int32) (ra : Addr) (cb : Cell) (ln : Int32) (B : Nat → Int32) (h0 : Heap) (n0 : Nat) (Z0 : n0 ≤ h0.size) (FC : Fld Z h0 r0 "com/example/cranfield/cranfield/eval/RankedTopic" "relevantCount" "I" (.int wc)) (hln : ln.toInt ≤ 6) (FR : Fld Z h0 r0 "com/example/cranfield/cranfield/eval/RankedTopic" "relevant" "[Z" (.ref ra)) (AB : Arr Z h0 ra cb .boolean) (SB : cb.slots.size = ln.toNatClampNeg) (MB : ¬ ln < 0) (HB : ∀ j : Nat, j < ln.toNatClampNeg → cb.slots[j]? = some (.int (B j))) :
    MetFree l (⟨"com/example/cranfield/cranfield/eval/RankedTopic", "averagePrecision", "()D"⟩ : MethodName) (head1 (Jvm.Cond.code (⟨"com/example/cranfield/cranfield/eval/RankedTopic", "averagePrecision", "()D"⟩ : MethodName) prog_20_method_7_code 5 (some .double) :: ws) ({ frames := 0, cells := 0, slots := 0, locals := 0 } : Room)) (fun a U => a = #[(.ref r0)] ∧ Z.Warmed39 U.vm ∧ U.heap = h0) (fun _ _ _ _ _ => True) (fun _ U o U' => ∃ v L, o = .returned v ∧ Q4 Z r0 wc ra cb ln B h0 n0 v U'.heap L ∧ FrameEnd U o U' L ({ frames := 0, cells := 0, slots := 0, locals := 0 } : Room).cells ({ frames := 0, cells := 0, slots := 0, locals := 0 } : Room).slots) := by
  refine MetFree.of_bodySF (plainFor_of_name pn_com_example_cranfield_cranfield_eval_RankedTopic) hisR ?_
  intro p e s m args below meth c s₁ Bd hml0 hP hK
  obtain ⟨rfl, hZ, hh⟩ := hP
  have hx := Bd.exec
  have hby := Bd.bytes
  have hml : c.maxLocals = 5 := hml0
  have hown : s.vm.findClass "com/example/cranfield/cranfield/eval/RankedTopic" = some m.cls := findClass_of_methodNamed Bd.named
  have hnm := (name_of_methodNamed Bd.named Bd.method).1
  have X0 : Stand p l e ({ frames := 0, cells := 0, slots := 0, locals := 0 } : Room) s m #[(.ref r0)] below meth c s₁ [] 0 0 := Stand.of_body Bd
  have e0 : s₁.heap = h0 := by rw [← hh, Bd.state]; rfl
  have N0 := Fr.nil n0
  have pre0 : ∀ t, Steps p.tables e below (s₁.setTop (mkF m 0 #[.val (.ref r0), .unset, .unset, .unset, .unset] [])) t → Steps p.tables e below (s₁.setTop (entryFrame m #[(.ref r0)] 5)) t := fun t k => castTop (ef_4 m r0) k
  have preS : ∀ t, Steps p.tables e below (s₁.setTop (mkF m 0 #[.val (.ref r0), .unset, .unset, .unset, .unset] [])) t → Steps p.tables e below (s₁.setTop (mkF m 0 #[.val (.ref r0), .unset, .unset, .unset, .unset] [])) t := fun t k => k
  have MB' := own_nlt.mp MB
  rw [show (0 : Int32).toInt = 0 from rfl] at MB'
  have pre1 : ∀ t, Steps p.tables e below (s₁.setTop (mkF m 7 #[.val (.ref r0), .val (.double FP.dconst0), .second, .val (.int (0 : Int32)), .val (.int (1 : Int32))] [])) t → Steps p.tables e below (s₁.setTop (mkF m 0 #[.val (.ref r0), .unset, .unset, .unset, .unset] [])) t := fun t k => preS t (by
    show Steps p.tables e below (s₁.setTop (mkF m 0 #[.val (.ref r0), .unset, .unset, .unset, .unset] [])) _
    refine XS.dconst0 X0.here hx rfl (hb hby d4_0) rfl ?_
    show Steps p.tables e below (s₁.setTop (mkF m 1 #[.val (.ref r0), .unset, .unset, .unset, .unset] [(.double FP.dconst0)])) _
    refine XS.dstoreN X0.here hx rfl (hb hby d4_1) rfl (l' := #[.val (.ref r0), .val (.double FP.dconst0), .second, .unset, .unset]) rfl ?_
    show Steps p.tables e below (s₁.setTop (mkF m 2 #[.val (.ref r0), .val (.double FP.dconst0), .second, .unset, .unset] [])) _
    refine XS.iconst X0.here hx rfl (hb hby d4_2) ?_
    show Steps p.tables e below (s₁.setTop (mkF m 3 #[.val (.ref r0), .val (.double FP.dconst0), .second, .unset, .unset] [(.int (0 : Int32))])) _
    refine XS.istoreN X0.here hx rfl (hb hby d4_3) rfl (l' := #[.val (.ref r0), .val (.double FP.dconst0), .second, .val (.int (0 : Int32)), .unset]) rfl ?_
    show Steps p.tables e below (s₁.setTop (mkF m 4 #[.val (.ref r0), .val (.double FP.dconst0), .second, .val (.int (0 : Int32)), .unset] [])) _
    refine XS.iconst X0.here hx rfl (hb hby d4_4) ?_
    show Steps p.tables e below (s₁.setTop (mkF m 5 #[.val (.ref r0), .val (.double FP.dconst0), .second, .val (.int (0 : Int32)), .unset] [(.int (1 : Int32))])) _
    refine XS.istore X0.here hx rfl (hb hby d4_5) rfl (l' := #[.val (.ref r0), .val (.double FP.dconst0), .second, .val (.int (0 : Int32)), .val (.int (1 : Int32))]) rfl ?_
    exact k)
  have lp : ∀ (k : Nat) (rk fd : Int32) (sm : UInt64) (TL : State), Stand p l e ({ frames := 0, cells := 0, slots := 0, locals := 0 } : Room) s m #[(.ref r0)] below meth c TL [] 0 0 → TL.heap = h0 → 1 ≤ rk.toInt → rk.toInt + k = ln.toInt + 1 → (fd, sm) = own_ap B (rk.toInt - 1).toNat → ∃ s₂ o, Steps p.tables e below (TL.setTop (mkF m 7 #[.val (.ref r0), .val (.double sm), .second, .val (.int fd), .val (.int rk)] [])) s₂ ∧ s₂.status = .running ∧ Ended s₂ below o ∧ ∃ v L, o = .returned v ∧ Q4 Z r0 wc ra cb ln B h0 n0 v s₂.heap L ∧ FrameEnd s o s₂ L ({ frames := 0, cells := 0, slots := 0, locals := 0 } : Room).cells ({ frames := 0, cells := 0, slots := 0, locals := 0 } : Room).slots := by
    intro k
    induction k with
    | zero =>
      intro rk fd sm TL XL eL hr1 hr2 hr3
      have preL : ∀ t, Steps p.tables e below (TL.setTop (mkF m 7 #[.val (.ref r0), .val (.double sm), .second, .val (.int fd), .val (.int rk)] [])) t → Steps p.tables e below (TL.setTop (mkF m 7 #[.val (.ref r0), .val (.double sm), .second, .val (.int fd), .val (.int rk)] [])) t := fun t k => k
      have hlc := own_cl ln (by omega)
      have hmag := own_apm B (rk.toInt - 1).toNat
      rw [← hr3] at hmag
      have hfd : fd = (own_ap B (rk.toInt - 1).toNat).1 := by rw [← hr3]
      have hsm : sm = (own_ap B (rk.toInt - 1).toNat).2 := by rw [← hr3]
      have hrz : ¬ rk = 0 := fun q => by rw [q] at hr1; exact absurd hr1 (by decide)
      have hN : (rk.toInt - 1).toNat = ln.toNatClampNeg := by omega
      rw [hN] at hsm hmag
      obtain ⟨T2, X2, e2, st2⟩ := getF XL hx hZ hown (host := "") (Or.inl (hw _ (List.mem_of_getElem? (i := 15) rfl))) Via.refl eL FR (g := (mkF m 10 #[.val (.ref r0), .val (.double sm), .second, .val (.int fd), .val (.int rk)] [(.ref r0), (.int rk)])) rfl rfl (hb hby d4_10)
      have hc3 : ln < rk := own_lt.mpr (show ln.toInt < rk.toInt by omega)
      have ohc3 : ln.toInt < rk.toInt := own_lt.mp hc3
      obtain ⟨T4, X4, e4, st4⟩ := getF X2 hx hZ hown (host := "") (Or.inl (hw _ (List.mem_of_getElem? (i := 17) rfl))) Via.refl e2 FC (g := (mkF m 48 #[.val (.ref r0), .val (.double sm), .second, .val (.int fd), .val (.int rk)] [(.ref r0)])) rfl rfl (hb hby d4_48)
      have pre6 : ∀ t, Steps p.tables e below (T4.setTop (mkF m 51 #[.val (.ref r0), .val (.double sm), .second, .val (.int fd), .val (.int rk)] [(.int wc)])) t → Steps p.tables e below (TL.setTop (mkF m 7 #[.val (.ref r0), .val (.double sm), .second, .val (.int fd), .val (.int rk)] [])) t := fun t k => preL t (by
        show Steps p.tables e below (TL.setTop (mkF m 7 #[.val (.ref r0), .val (.double sm), .second, .val (.int fd), .val (.int rk)] [])) _
        refine XS.iload XL.here hx rfl (hb hby d4_7) rfl ?_
        show Steps p.tables e below (TL.setTop (mkF m 9 #[.val (.ref r0), .val (.double sm), .second, .val (.int fd), .val (.int rk)] [(.int rk)])) _
        refine XS.aloadN XL.here hx rfl (hb hby d4_9) rfl rfl ?_
        show Steps p.tables e below (TL.setTop (mkF m 10 #[.val (.ref r0), .val (.double sm), .second, .val (.int fd), .val (.int rk)] [(.ref r0), (.int rk)])) _
        refine st2 _ ?_
        show Steps p.tables e below (T2.setTop (mkF m 13 #[.val (.ref r0), .val (.double sm), .second, .val (.int fd), .val (.int rk)] [(.ref ra), (.int rk)])) _
        refine X2.arraylength hx (by rw [e2]; exact AB.1) (State.isArrayOf_alike hZ.alike AB.2.1) (g := (mkF m 13 #[.val (.ref r0), .val (.double sm), .second, .val (.int fd), .val (.int rk)] [(.ref ra), (.int rk)])) rfl rfl (hb hby d4_13) _ ?_
        rw [len_of SB MB]
        show Steps p.tables e below (T2.setTop (mkF m 14 #[.val (.ref r0), .val (.double sm), .second, .val (.int fd), .val (.int rk)] [(.int ln), (.int rk)])) _
        refine XS.icmpYes X2.here hx rfl (pc0 := 14) (pc' := 47) rfl (hb hby d4_14) rfl (tlt hc3).2.2.1 (by decide) (by decide) ?_
        show Steps p.tables e below (T2.setTop (mkF m 47 #[.val (.ref r0), .val (.double sm), .second, .val (.int fd), .val (.int rk)] [])) _
        refine XS.aloadN X2.here hx rfl (hb hby d4_47) rfl rfl ?_
        show Steps p.tables e below (T2.setTop (mkF m 48 #[.val (.ref r0), .val (.double sm), .second, .val (.int fd), .val (.int rk)] [(.ref r0)])) _
        refine st4 _ ?_
        exact k)
      by_cases hc5 : wc = (0 : Int32)
      · skip
        have ohc5 : wc.toInt = 0 := own_eq.mp hc5
        obtain ⟨fs, hr, hrun, hended, hW, hsame⟩ := X4.leave (v := some (.double FP.dconst0)) (fun h => by rw [Bd.returns] at h; cases h)
        refine ⟨_, _, pre6 _ ?_, hrun, hended, _, _, rfl, ?_, ⟨_, rfl⟩, hW, hsame.mono (by decide) (by decide)⟩
        · skip
          show Steps p.tables e below (T4.setTop (mkF m 51 #[.val (.ref r0), .val (.double sm), .second, .val (.int fd), .val (.int rk)] [(.int wc)])) _
          refine XS.ifNo X4.here hx rfl (hb hby d4_51) rfl ((if0 _ _).trans (teq hc5).2) ?_
          show Steps p.tables e below (T4.setTop (mkF m 54 #[.val (.ref r0), .val (.double sm), .second, .val (.int fd), .val (.int rk)] [])) _
          refine XS.dconst0 X4.here hx rfl (hb hby d4_54) rfl ?_
          show Steps p.tables e below (T4.setTop (mkF m 55 #[.val (.ref r0), .val (.double sm), .second, .val (.int fd), .val (.int rk)] [(.double FP.dconst0)])) _
          refine XS.goto X4.here hx rfl (pc0 := 55) (pc' := 65) rfl (hb hby d4_55) (by decide) (by decide) ?_
          show Steps p.tables e below (T4.setTop (mkF m 65 #[.val (.ref r0), .val (.double sm), .second, .val (.int fd), .val (.int rk)] [(.double FP.dconst0)])) _
          jvm_step X4.here [X4.here.top, hx, (hb hby d4_65), X4.method', Bd.returns, narrow]
          first | (intro acts; rw [hr _ acts rfl rfl rfl]) | rw [hr _ _ rfl rfl rfl]
          exact Steps.refl _
        · show Q4 Z r0 wc ra cb ln B h0 n0 _ T4.heap _
          rw [e4]
          exact ⟨by rw [own_fin0 hc5], N0, rfl⟩
      · skip
        have ohc5 : ¬ (wc.toInt = 0) := own_neq.mp hc5
        obtain ⟨T7, X7, e7, st7⟩ := getF X4 hx hZ hown (host := "") (Or.inl (hw _ (List.mem_of_getElem? (i := 17) rfl))) Via.refl e4 FC (g := (mkF m 60 #[.val (.ref r0), .val (.double sm), .second, .val (.int fd), .val (.int rk)] [(.ref r0), (.double sm)])) rfl rfl (hb hby d4_60)
        obtain ⟨fs, hr, hrun, hended, hW, hsame⟩ := X7.leave (v := some (.double (FP.ddiv sm (FP.i2d wc)))) (fun h => by rw [Bd.returns] at h; cases h)
        refine ⟨_, _, pre6 _ ?_, hrun, hended, _, _, rfl, ?_, ⟨_, rfl⟩, hW, hsame.mono (by decide) (by decide)⟩
        · skip
          show Steps p.tables e below (T4.setTop (mkF m 51 #[.val (.ref r0), .val (.double sm), .second, .val (.int fd), .val (.int rk)] [(.int wc)])) _
          refine XS.ifYes X4.here hx rfl (pc0 := 51) (pc' := 58) rfl (hb hby d4_51) rfl ((if0 _ _).trans (feq hc5).2) (by decide) (by decide) ?_
          show Steps p.tables e below (T4.setTop (mkF m 58 #[.val (.ref r0), .val (.double sm), .second, .val (.int fd), .val (.int rk)] [])) _
          refine XS.dloadN X4.here hx rfl (hb hby d4_58) rfl ?_
          show Steps p.tables e below (T4.setTop (mkF m 59 #[.val (.ref r0), .val (.double sm), .second, .val (.int fd), .val (.int rk)] [(.double sm)])) _
          refine XS.aloadN X4.here hx rfl (hb hby d4_59) rfl rfl ?_
          show Steps p.tables e below (T4.setTop (mkF m 60 #[.val (.ref r0), .val (.double sm), .second, .val (.int fd), .val (.int rk)] [(.ref r0), (.double sm)])) _
          refine st7 _ ?_
          show Steps p.tables e below (T7.setTop (mkF m 63 #[.val (.ref r0), .val (.double sm), .second, .val (.int fd), .val (.int rk)] [(.int wc), (.double sm)])) _
          refine XS.i2dS X7.here hx rfl (hb hby d4_63) rfl rfl ?_
          show Steps p.tables e below (T7.setTop (mkF m 64 #[.val (.ref r0), .val (.double sm), .second, .val (.int fd), .val (.int rk)] [(.double (FP.i2d wc)), (.double sm)])) _
          refine XS.ddivS X7.here hx rfl (hb hby d4_64) rfl (own_nf hmag hc5 (by omega)) rfl ?_
          show Steps p.tables e below (T7.setTop (mkF m 65 #[.val (.ref r0), .val (.double sm), .second, .val (.int fd), .val (.int rk)] [(.double (FP.ddiv sm (FP.i2d wc)))])) _
          jvm_step X7.here [X7.here.top, hx, (hb hby d4_65), X7.method', Bd.returns, narrow]
          first | (intro acts; rw [hr _ acts rfl rfl rfl]) | rw [hr _ _ rfl rfl rfl]
          exact Steps.refl _
        · show Q4 Z r0 wc ra cb ln B h0 n0 _ T7.heap _
          rw [e7]
          exact ⟨by rw [own_fin1 hc5]; rw [← hsm], N0, rfl⟩
    | succ k ih =>
      intro rk fd sm TL XL eL hr1 hr2 hr3
      have preL : ∀ t, Steps p.tables e below (TL.setTop (mkF m 7 #[.val (.ref r0), .val (.double sm), .second, .val (.int fd), .val (.int rk)] [])) t → Steps p.tables e below (TL.setTop (mkF m 7 #[.val (.ref r0), .val (.double sm), .second, .val (.int fd), .val (.int rk)] [])) t := fun t k => k
      have hlc := own_cl ln (by omega)
      have hmag := own_apm B (rk.toInt - 1).toNat
      rw [← hr3] at hmag
      have hfd : fd = (own_ap B (rk.toInt - 1).toNat).1 := by rw [← hr3]
      have hsm : sm = (own_ap B (rk.toInt - 1).toNat).2 := by rw [← hr3]
      have hrz : ¬ rk = 0 := fun q => by rw [q] at hr1; exact absurd hr1 (by decide)
      have hrr := rng32 rk
      have hlr := rng32 ln
      have hsb := c_isub rk (1 : Int32)
      have had := c_iadd rk (1 : Int32)
      rw [show (1 : Int32).toInt = 1 from rfl] at hsb had
      have hsr := rng32 (rk - (1 : Int32))
      have har := rng32 (rk + (1 : Int32))
      have hsv : (rk - (1 : Int32)).toInt = rk.toInt - 1 := by clear had har; omega
      have hav : (rk + (1 : Int32)).toInt = rk.toInt + 1 := by clear hsb hsr hsv; omega
      clear hsb had hsr har
      have hsc := own_cl (rk - (1 : Int32)) (by omega)
      have hsd : (rk - (1 : Int32)).toNatClampNeg = (rk.toInt - 1).toNat := by omega
      have hof : rk = Int32.ofNat ((rk.toInt - 1).toNat + 1) := own_of rk hr1
      obtain ⟨T8, X8, e8, st8⟩ := getF XL hx hZ hown (host := "") (Or.inl (hw _ (List.mem_of_getElem? (i := 15) rfl))) Via.refl eL FR (g := (mkF m 10 #[.val (.ref r0), .val (.double sm), .second, .val (.int fd), .val (.int rk)] [(.ref r0), (.int rk)])) rfl rfl (hb hby d4_10)
      have hc9 : ¬ (ln < rk) := own_nlt.mpr (show rk.toInt ≤ ln.toInt by omega)
      have ohc9 : rk.toInt ≤ ln.toInt := own_nlt.mp hc9
      obtain ⟨T10, X10, e10, st10⟩ := getF X8 hx hZ hown (host := "") (Or.inl (hw _ (List.mem_of_getElem? (i := 15) rfl))) Via.refl e8 FR (g := (mkF m 18 #[.val (.ref r0), .val (.double sm), .second, .val (.int fd), .val (.int rk)] [(.ref r0)])) rfl rfl (hb hby d4_18)
      have hin11 : ¬ ((rk - (1 : Int32)) < 0 ∨ cb.slots.size ≤ ((rk - (1 : Int32))).toNatClampNeg) := inb_of SB ⟨own_nlt.mpr (show 0 ≤ (rk - (1 : Int32)).toInt by omega), own_lt.mpr (show (rk - (1 : Int32)).toInt < ln.toInt by omega)⟩
      have hat11 : cb.slots[((rk - (1 : Int32))).toNatClampNeg]? = some (.int (B ((rk - (1 : Int32))).toNatClampNeg)) := HB _ (own_cl2 (by omega) (by omega))
      have pre13 : ∀ t, Steps p.tables e below (T10.setTop (mkF m 26 #[.val (.ref r0), .val (.double sm), .second, .val (.int fd), .val (.int rk)] [(.int (B ((rk - (1 : Int32))).toNatClampNeg))])) t → Steps p.tables e below (TL.setTop (mkF m 7 #[.val (.ref r0), .val (.double sm), .second, .val (.int fd), .val (.int rk)] [])) t := fun t k => preL t (by
        show Steps p.tables e below (TL.setTop (mkF m 7 #[.val (.ref r0), .val (.double sm), .second, .val (.int fd), .val (.int rk)] [])) _
        refine XS.iload XL.here hx rfl (hb hby d4_7) rfl ?_
        show Steps p.tables e below (TL.setTop (mkF m 9 #[.val (.ref r0), .val (.double sm), .second, .val (.int fd), .val (.int rk)] [(.int rk)])) _
        refine XS.aloadN XL.here hx rfl (hb hby d4_9) rfl rfl ?_
        show Steps p.tables e below (TL.setTop (mkF m 10 #[.val (.ref r0), .val (.double sm), .second, .val (.int fd), .val (.int rk)] [(.ref r0), (.int rk)])) _
        refine st8 _ ?_
        show Steps p.tables e below (T8.setTop (mkF m 13 #[.val (.ref r0), .val (.double sm), .second, .val (.int fd), .val (.int rk)] [(.ref ra), (.int rk)])) _
        refine X8.arraylength hx (by rw [e8]; exact AB.1) (State.isArrayOf_alike hZ.alike AB.2.1) (g := (mkF m 13 #[.val (.ref r0), .val (.double sm), .second, .val (.int fd), .val (.int rk)] [(.ref ra), (.int rk)])) rfl rfl (hb hby d4_13) _ ?_
        rw [len_of SB MB]
        show Steps p.tables e below (T8.setTop (mkF m 14 #[.val (.ref r0), .val (.double sm), .second, .val (.int fd), .val (.int rk)] [(.int ln), (.int rk)])) _
        refine XS.icmpNo X8.here hx rfl (hb hby d4_14) rfl (flt hc9).2.2.1 ?_
        show Steps p.tables e below (T8.setTop (mkF m 17 #[.val (.ref r0), .val (.double sm), .second, .val (.int fd), .val (.int rk)] [])) _
        refine XS.aloadN X8.here hx rfl (hb hby d4_17) rfl rfl ?_
        show Steps p.tables e below (T8.setTop (mkF m 18 #[.val (.ref r0), .val (.double sm), .second, .val (.int fd), .val (.int rk)] [(.ref r0)])) _
        refine st10 _ ?_
        show Steps p.tables e below (T10.setTop (mkF m 21 #[.val (.ref r0), .val (.double sm), .second, .val (.int fd), .val (.int rk)] [(.ref ra)])) _
        refine XS.iload X10.here hx rfl (hb hby d4_21) rfl ?_
        show Steps p.tables e below (T10.setTop (mkF m 23 #[.val (.ref r0), .val (.double sm), .second, .val (.int fd), .val (.int rk)] [(.int rk), (.ref ra)])) _
        refine XS.iconst X10.here hx rfl (hb hby d4_23) ?_
        show Steps p.tables e below (T10.setTop (mkF m 24 #[.val (.ref r0), .val (.double sm), .second, .val (.int fd), .val (.int rk)] [(.int (1 : Int32)), (.int rk), (.ref ra)])) _
        refine XS.isub X10.here hx rfl (hb hby d4_24) rfl ?_
        show Steps p.tables e below (T10.setTop (mkF m 25 #[.val (.ref r0), .val (.double sm), .second, .val (.int fd), .val (.int rk)] [(.int (rk - (1 : Int32))), (.ref ra)])) _
        refine X10.baloadBooleans hx (j := (rk - (1 : Int32))) (v := (.int (B ((rk - (1 : Int32))).toNatClampNeg))) (by rw [e10]; exact AB.1) (State.isArrayOf_alike hZ.alike AB.2.1) AB.2.2 hin11 hat11 (g := (mkF m 25 #[.val (.ref r0), .val (.double sm), .second, .val (.int fd), .val (.int rk)] [(.int (rk - (1 : Int32))), (.ref ra)])) rfl rfl (hb hby d4_25) _ ?_
        exact k)
      by_cases hc12 : (B ((rk - (1 : Int32))).toNatClampNeg) = (0 : Int32)
      · skip
        have ohc12 : (B ((rk - (1 : Int32))).toNatClampNeg).toInt = 0 := own_eq.mp hc12
        have pre14 : ∀ t, Steps p.tables e below (T10.setTop (mkF m 7 #[.val (.ref r0), .val (.double sm), .second, .val (.int fd), .val (.int (rk + (1 : Int32)))] [])) t → Steps p.tables e below (TL.setTop (mkF m 7 #[.val (.ref r0), .val (.double sm), .second, .val (.int fd), .val (.int rk)] [])) t := fun t k => pre13 t (by
          show Steps p.tables e below (T10.setTop (mkF m 26 #[.val (.ref r0), .val (.double sm), .second, .val (.int fd), .val (.int rk)] [(.int (B ((rk - (1 : Int32))).toNatClampNeg))])) _
          refine XS.ifYes X10.here hx rfl (pc0 := 26) (pc' := 41) rfl (hb hby d4_26) rfl ((if0 _ _).trans (teq hc12).1) (by decide) (by decide) ?_
          show Steps p.tables e below (T10.setTop (mkF m 41 #[.val (.ref r0), .val (.double sm), .second, .val (.int fd), .val (.int rk)] [])) _
          refine XS.iinc X10.here hx rfl (hb hby d4_41) rfl (l' := #[.val (.ref r0), .val (.double sm), .second, .val (.int fd), .val (.int (rk + (1 : Int32)))]) rfl ?_
          show Steps p.tables e below (T10.setTop (mkF m 44 #[.val (.ref r0), .val (.double sm), .second, .val (.int fd), .val (.int (rk + (1 : Int32)))] [])) _
          refine XS.goto X10.here hx rfl (pc0 := 44) (pc' := 7) rfl (hb hby d4_44) (by decide) (by decide) ?_
          exact k)
        obtain ⟨s₂, o, q1, q2⟩ := ih (rk + (1 : Int32)) fd sm T10 X10 e10 (by omega) (by omega) (by
          rw [show ((rk + (1 : Int32)).toInt - 1).toNat = (rk.toInt - 1).toNat + 1 by omega]
          rw [hsd] at hc12
          rw [own_ap0 hc12, ← hr3])
        exact ⟨s₂, o, pre14 _ q1, q2⟩
      · skip
        have ohc12 : ¬ ((B ((rk - (1 : Int32))).toNatClampNeg).toInt = 0) := own_neq.mp hc12
        have pre15 : ∀ t, Steps p.tables e below (T10.setTop (mkF m 7 #[.val (.ref r0), .val (.double (FP.dadd sm (FP.ddiv (FP.i2d (fd + (1 : Int32))) (FP.i2d rk)))), .second, .val (.int (fd + (1 : Int32))), .val (.int (rk + (1 : Int32)))] [])) t → Steps p.tables e below (TL.setTop (mkF m 7 #[.val (.ref r0), .val (.double sm), .second, .val (.int fd), .val (.int rk)] [])) t := fun t k => pre13 t (by
          show Steps p.tables e below (T10.setTop (mkF m 26 #[.val (.ref r0), .val (.double sm), .second, .val (.int fd), .val (.int rk)] [(.int (B ((rk - (1 : Int32))).toNatClampNeg))])) _
          refine XS.ifNo X10.here hx rfl (hb hby d4_26) rfl ((if0 _ _).trans (feq hc12).1) ?_
          show Steps p.tables e below (T10.setTop (mkF m 29 #[.val (.ref r0), .val (.double sm), .second, .val (.int fd), .val (.int rk)] [])) _
          refine XS.iinc X10.here hx rfl (hb hby d4_29) rfl (l' := #[.val (.ref r0), .val (.double sm), .second, .val (.int (fd + (1 : Int32))), .val (.int rk)]) rfl ?_
          show Steps p.tables e below (T10.setTop (mkF m 32 #[.val (.ref r0), .val (.double sm), .second, .val (.int (fd + (1 : Int32))), .val (.int rk)] [])) _
          refine XS.dloadN X10.here hx rfl (hb hby d4_32) rfl ?_
          show Steps p.tables e below (T10.setTop (mkF m 33 #[.val (.ref r0), .val (.double sm), .second, .val (.int (fd + (1 : Int32))), .val (.int rk)] [(.double sm)])) _
          refine XS.iloadN X10.here hx rfl (hb hby d4_33) rfl ?_
          show Steps p.tables e below (T10.setTop (mkF m 34 #[.val (.ref r0), .val (.double sm), .second, .val (.int (fd + (1 : Int32))), .val (.int rk)] [(.int (fd + (1 : Int32))), (.double sm)])) _
          refine XS.i2dS X10.here hx rfl (hb hby d4_34) rfl rfl ?_
          show Steps p.tables e below (T10.setTop (mkF m 35 #[.val (.ref r0), .val (.double sm), .second, .val (.int (fd + (1 : Int32))), .val (.int rk)] [(.double (FP.i2d (fd + (1 : Int32)))), (.double sm)])) _
          refine XS.iload X10.here hx rfl (hb hby d4_35) rfl ?_
          show Steps p.tables e below (T10.setTop (mkF m 37 #[.val (.ref r0), .val (.double sm), .second, .val (.int (fd + (1 : Int32))), .val (.int rk)] [(.int rk), (.double (FP.i2d (fd + (1 : Int32)))), (.double sm)])) _
          refine XS.i2dS X10.here hx rfl (hb hby d4_37) rfl rfl ?_
          show Steps p.tables e below (T10.setTop (mkF m 38 #[.val (.ref r0), .val (.double sm), .second, .val (.int (fd + (1 : Int32))), .val (.int rk)] [(.double (FP.i2d rk)), (.double (FP.i2d (fd + (1 : Int32)))), (.double sm)])) _
          refine XS.ddivS X10.here hx rfl (hb hby d4_38) rfl (own_nq _ rk hrz) rfl ?_
          show Steps p.tables e below (T10.setTop (mkF m 39 #[.val (.ref r0), .val (.double sm), .second, .val (.int (fd + (1 : Int32))), .val (.int rk)] [(.double (FP.ddiv (FP.i2d (fd + (1 : Int32))) (FP.i2d rk))), (.double sm)])) _
          refine XS.daddS X10.here hx rfl (hb hby d4_39) rfl (own_na hmag (own_mq _ rk hrz) (by omega)) rfl ?_
          show Steps p.tables e below (T10.setTop (mkF m 40 #[.val (.ref r0), .val (.double sm), .second, .val (.int (fd + (1 : Int32))), .val (.int rk)] [(.double (FP.dadd sm (FP.ddiv (FP.i2d (fd + (1 : Int32))) (FP.i2d rk))))])) _
          refine XS.dstoreN X10.here hx rfl (hb hby d4_40) rfl (l' := #[.val (.ref r0), .val (.double (FP.dadd sm (FP.ddiv (FP.i2d (fd + (1 : Int32))) (FP.i2d rk)))), .second, .val (.int (fd + (1 : Int32))), .val (.int rk)]) rfl ?_
          show Steps p.tables e below (T10.setTop (mkF m 41 #[.val (.ref r0), .val (.double (FP.dadd sm (FP.ddiv (FP.i2d (fd + (1 : Int32))) (FP.i2d rk)))), .second, .val (.int (fd + (1 : Int32))), .val (.int rk)] [])) _
          refine XS.iinc X10.here hx rfl (hb hby d4_41) rfl (l' := #[.val (.ref r0), .val (.double (FP.dadd sm (FP.ddiv (FP.i2d (fd + (1 : Int32))) (FP.i2d rk)))), .second, .val (.int (fd + (1 : Int32))), .val (.int (rk + (1 : Int32)))]) rfl ?_
          show Steps p.tables e below (T10.setTop (mkF m 44 #[.val (.ref r0), .val (.double (FP.dadd sm (FP.ddiv (FP.i2d (fd + (1 : Int32))) (FP.i2d rk)))), .second, .val (.int (fd + (1 : Int32))), .val (.int (rk + (1 : Int32)))] [])) _
          refine XS.goto X10.here hx rfl (pc0 := 44) (pc' := 7) rfl (hb hby d4_44) (by decide) (by decide) ?_
          exact k)
        obtain ⟨s₂, o, q1, q2⟩ := ih (rk + (1 : Int32)) (fd + (1 : Int32)) (FP.dadd sm (FP.ddiv (FP.i2d (fd + (1 : Int32))) (FP.i2d rk))) T10 X10 e10 (by omega) (by omega) (by
          rw [show ((rk + (1 : Int32)).toInt - 1).toNat = (rk.toInt - 1).toNat + 1 by omega]
          rw [hsd] at hc12
          rw [own_ap1 hc12, ← hof, ← hr3])
        exact ⟨s₂, o, pre15 _ q1, q2⟩
  obtain ⟨s₂, o, q1, q2⟩ := lp ln.toInt.toNat (1 : Int32) (0 : Int32) FP.dconst0 s₁ X0 e0 (by decide) (by rw [show (1 : Int32).toInt = 1 from rfl]; omega) rfl
  exact ⟨s₂, o, pre0 _ (pre1 _ q1), q2⟩
def Q0 (Z : State) (p0 : Int32) (p1 : Int32) (p2 : Int32) (h0 : Heap) (n0 : Nat) (v : Option Value) (h : Heap) (L : List Loc) : Prop := v = some (.int 1) ∧ Fr n0 L
set_option maxRecDepth 65536 in
set_option maxHeartbeats 40000000 in
theorem rm0 (l : Launch) (Z : State) (a0 : Array Value) (hw : ∀ d ∈ tables_1, d.before a0 Z = true) (ws : List Jvm.Cond) (p0 : Int32) (p1 : Int32) (p2 : Int32) (h0 : Heap) (n0 : Nat) (Z0 : n0 ≤ h0.size) :
    MetFree l x (head1 (Jvm.Cond.code x code maxLocals ret :: ws) room_1) (fun a U => a = #[(.int p0), (.int p1), (.int p2)] ∧ Z.Warmed39 U.vm ∧ U.heap = h0) (fun _ _ _ _ _ => True) (fun _ U o U' => ∃ v L, o = .returned v ∧ Q0 Z p0 p1 p2 h0 n0 v U'.heap L ∧ FrameEnd U o U' L room_1.cells room_1.slots) := by
  refine MetFree.of_bodySF (plainFor_of_name pn_com_example_cranfield_cranfield_eval_RankedTopicAveragePrecisionPinLaw) hisR ?_
  intro p e s m args below meth c s₁ Bd hml0 hP hK
  obtain ⟨rfl, hZ, hh⟩ := hP
  have hx := Bd.exec
  have hby := Bd.bytes
  have hml : c.maxLocals = 24 := hml0
  have hown : s.vm.findClass "com/example/cranfield/cranfield/eval/RankedTopicAveragePrecisionPinLaw" = some m.cls := findClass_of_methodNamed Bd.named
  have hnm := (name_of_methodNamed Bd.named Bd.method).1
  have X0 : Stand p l e room_1 s m #[(.int p0), (.int p1), (.int p2)] below meth c s₁ [] 0 0 := Stand.of_body Bd
  have e0 : s₁.heap = h0 := by rw [← hh, Bd.state]; rfl
  have N0 := Fr.nil n0
  have pre0 : ∀ t, Steps p.tables e below (s₁.setTop (mkF m 0 #[.val (.int p0), .val (.int p1), .val (.int p2), .unset, .unset, .unset, .unset, .unset, .unset, .unset, .unset, .unset, .unset, .unset, .unset, .unset, .unset, .unset, .unset, .unset, .unset, .unset, .unset, .unset] [])) t → Steps p.tables e below (s₁.setTop (entryFrame m #[(.int p0), (.int p1), (.int p2)] maxLocals)) t := fun t k => castTop (ef_0 m p0 p1 p2) k
  have preS : ∀ t, Steps p.tables e below (s₁.setTop (mkF m 0 #[.val (.int p0), .val (.int p1), .val (.int p2), .unset, .unset, .unset, .unset, .unset, .unset, .unset, .unset, .unset, .unset, .unset, .unset, .unset, .unset, .unset, .unset, .unset, .unset, .unset, .unset, .unset] [])) t → Steps p.tables e below (s₁.setTop (mkF m 0 #[.val (.int p0), .val (.int p1), .val (.int p2), .unset, .unset, .unset, .unset, .unset, .unset, .unset, .unset, .unset, .unset, .unset, .unset, .unset, .unset, .unset, .unset, .unset, .unset, .unset, .unset, .unset] [])) t := fun t k => k
  have KR : Keep h0 h0 [] := Keep.refl _ _
  have pre1 : ∀ t, Steps p.tables e below (s₁.setTop (mkF m 8 #[.val (.int p0), .val (.int p1), .val (.int p2), .val (.int ((p0 &&& (2147483647 : Int32)) % (7 : Int32))), .unset, .unset, .unset, .unset, .unset, .unset, .unset, .unset, .unset, .unset, .unset, .unset, .unset, .unset, .unset, .unset, .unset, .unset, .unset, .unset] [])) t → Steps p.tables e below (s₁.setTop (mkF m 0 #[.val (.int p0), .val (.int p1), .val (.int p2), .unset, .unset, .unset, .unset, .unset, .unset, .unset, .unset, .unset, .unset, .unset, .unset, .unset, .unset, .unset, .unset, .unset, .unset, .unset, .unset, .unset] [])) t := fun t k => preS t (by
    show Steps p.tables e below (s₁.setTop (mkF m 0 #[.val (.int p0), .val (.int p1), .val (.int p2), .unset, .unset, .unset, .unset, .unset, .unset, .unset, .unset, .unset, .unset, .unset, .unset, .unset, .unset, .unset, .unset, .unset, .unset, .unset, .unset, .unset] [])) _
    refine XS.iloadN X0.here hx rfl (hb hby at_0) rfl ?_
    show Steps p.tables e below (s₁.setTop (mkF m 1 #[.val (.int p0), .val (.int p1), .val (.int p2), .unset, .unset, .unset, .unset, .unset, .unset, .unset, .unset, .unset, .unset, .unset, .unset, .unset, .unset, .unset, .unset, .unset, .unset, .unset, .unset, .unset] [(.int p0)])) _
    refine X0.ldcInt hx hown (mvT hZ (hw _ (List.mem_of_getElem? (i := 0) rfl))) (g := (mkF m 1 #[.val (.int p0), .val (.int p1), .val (.int p2), .unset, .unset, .unset, .unset, .unset, .unset, .unset, .unset, .unset, .unset, .unset, .unset, .unset, .unset, .unset, .unset, .unset, .unset, .unset, .unset, .unset] [(.int p0)])) rfl (hb hby at_1) _ ?_
    show Steps p.tables e below (s₁.setTop (mkF m 3 #[.val (.int p0), .val (.int p1), .val (.int p2), .unset, .unset, .unset, .unset, .unset, .unset, .unset, .unset, .unset, .unset, .unset, .unset, .unset, .unset, .unset, .unset, .unset, .unset, .unset, .unset, .unset] [(.int (2147483647 : Int32)), (.int p0)])) _
    refine XS.iand X0.here hx rfl (hb hby at_3) rfl ?_
    show Steps p.tables e below (s₁.setTop (mkF m 4 #[.val (.int p0), .val (.int p1), .val (.int p2), .unset, .unset, .unset, .unset, .unset, .unset, .unset, .unset, .unset, .unset, .unset, .unset, .unset, .unset, .unset, .unset, .unset, .unset, .unset, .unset, .unset] [(.int (p0 &&& (2147483647 : Int32)))])) _
    refine XS.bipush X0.here hx rfl (hb hby at_4) ?_
    show Steps p.tables e below (s₁.setTop (mkF m 6 #[.val (.int p0), .val (.int p1), .val (.int p2), .unset, .unset, .unset, .unset, .unset, .unset, .unset, .unset, .unset, .unset, .unset, .unset, .unset, .unset, .unset, .unset, .unset, .unset, .unset, .unset, .unset] [(.int (7 : Int32)), (.int (p0 &&& (2147483647 : Int32)))])) _
    refine Jvm.RoadKit.iremM (g := (mkF m 6 #[.val (.int p0), .val (.int p1), .val (.int p2), .unset, .unset, .unset, .unset, .unset, .unset, .unset, .unset, .unset, .unset, .unset, .unset, .unset, .unset, .unset, .unset, .unset, .unset, .unset, .unset, .unset] [(.int (7 : Int32)), (.int (p0 &&& (2147483647 : Int32)))])) X0 hx rfl (hb hby at_6) rfl (by decide) ?_
    show Steps p.tables e below (s₁.setTop (mkF m 7 #[.val (.int p0), .val (.int p1), .val (.int p2), .unset, .unset, .unset, .unset, .unset, .unset, .unset, .unset, .unset, .unset, .unset, .unset, .unset, .unset, .unset, .unset, .unset, .unset, .unset, .unset, .unset] [(.int ((p0 &&& (2147483647 : Int32)) % (7 : Int32)))])) _
    refine XS.istoreN X0.here hx rfl (hb hby at_7) rfl (l' := #[.val (.int p0), .val (.int p1), .val (.int p2), .val (.int ((p0 &&& (2147483647 : Int32)) % (7 : Int32))), .unset, .unset, .unset, .unset, .unset, .unset, .unset, .unset, .unset, .unset, .unset, .unset, .unset, .unset, .unset, .unset, .unset, .unset, .unset, .unset]) rfl ?_
    exact k)
  obtain ⟨ln, h_ln⟩ : ∃ z, z = ((p0 &&& (2147483647 : Int32)) % (7 : Int32)) := ⟨_, rfl⟩
  rw [← h_ln] at pre1
  have mln := own_mrem p0 (7 : Int32) 7 rfl
  rw [← h_ln] at mln
  obtain ⟨_, _, ⟨T2, L2, k2, n2⟩, -, X2, ⟨Lc2, hQ2, l2, y2, z2⟩, st2⟩ := Jvm.LawKit.callS X0 hx (y := (⟨"com/example/cranfield/cranfield/eval/RankedTopicAveragePrecisionPinLaw", "bit", "(III)I"⟩ : MethodName)) hown (mvT hZ (hw _ (List.mem_of_getElem? (i := 1) rfl))) (mvT hZ (hw _ (List.mem_of_getElem? (i := 2) rfl))) (mvT hZ (hw _ (List.mem_of_getElem? (i := 3) rfl))) (mvT hZ (hw _ (List.mem_of_getElem? (i := 4) rfl))) (by decide) (backOf (W := 0) (rm1 l Z a0 hw [] p1 (0 : Int32) ln h0 n0 Z0) hZ (hw _ (List.mem_of_getElem? (i := 4) rfl)) (hw _ (List.mem_of_getElem? (i := 3) rfl)) (by decide) (by decide)) (g := (mkF m 11 #[.val (.int p0), .val (.int p1), .val (.int p2), .val (.int ln), .unset, .unset, .unset, .unset, .unset, .unset, .unset, .unset, .unset, .unset, .unset, .unset, .unset, .unset, .unset, .unset, .unset, .unset, .unset, .unset] [(.int ln), (.int (0 : Int32)), (.int p1)])) rfl (by rw [hml]; rfl) (argsL := [(.int p1), (.int (0 : Int32)), (.int ln)]) (rest := []) (lenOf pd_0 rfl) rfl (by show 2 * 0 + _ ≤ _; exact Nat.le_of_eq rfl) (hb hby at_11) (fun _ _ => ⟨rfl, e0, (by decide : 0 + 0 ≤ _), (by decide : 0 + 0 ≤ _)⟩)
  dsimp only [Pt.U, Pt.locs, Pt.cells, Pt.slots] at X2 l2 y2 z2 st2 hQ2
  subst l2 y2 z2
  obtain ⟨bt0, rfl, Nq2, e2, r_bt0, u_bt0⟩ := hQ2
  rw [show (0 : Int32).toInt = 0 from rfl] at u_bt0
  have N2 := Fr.app N0 Nq2
  obtain ⟨_, _, ⟨T3, L3, k3, n3⟩, -, X3, ⟨Lc3, hQ3, l3, y3, z3⟩, st3⟩ := Jvm.LawKit.callS X2 hx (y := (⟨"com/example/cranfield/cranfield/eval/RankedTopicAveragePrecisionPinLaw", "bit", "(III)I"⟩ : MethodName)) hown (mvT hZ (hw _ (List.mem_of_getElem? (i := 1) rfl))) (mvT hZ (hw _ (List.mem_of_getElem? (i := 2) rfl))) (mvT hZ (hw _ (List.mem_of_getElem? (i := 3) rfl))) (mvT hZ (hw _ (List.mem_of_getElem? (i := 4) rfl))) (by decide) (backOf (W := 0) (rm1 l Z a0 hw [] p1 (1 : Int32) ln h0 n0 Z0) hZ (hw _ (List.mem_of_getElem? (i := 4) rfl)) (hw _ (List.mem_of_getElem? (i := 3) rfl)) (by decide) (by decide)) (g := (mkF m 19 #[.val (.int p0), .val (.int p1), .val (.int p2), .val (.int ln), .val (.int bt0), .unset, .unset, .unset, .unset, .unset, .unset, .unset, .unset, .unset, .unset, .unset, .unset, .unset, .unset, .unset, .unset, .unset, .unset, .unset] [(.int ln), (.int (1 : Int32)), (.int p1)])) rfl (by rw [hml]; rfl) (argsL := [(.int p1), (.int (1 : Int32)), (.int ln)]) (rest := []) (lenOf pd_0 rfl) rfl (by show 2 * 0 + _ ≤ _; exact Nat.le_of_eq rfl) (hb hby at_19) (fun _ _ => ⟨rfl, e2, (by decide : 0 + 0 ≤ _), (by decide : 0 + 0 ≤ _)⟩)
  dsimp only [Pt.U, Pt.locs, Pt.cells, Pt.slots] at X3 l3 y3 z3 st3 hQ3
  subst l3 y3 z3
  obtain ⟨bt1, rfl, Nq3, e3, r_bt1, u_bt1⟩ := hQ3
  rw [show (1 : Int32).toInt = 1 from rfl] at u_bt1
  have N3 := Fr.app N2 Nq3
  obtain ⟨_, _, ⟨T4, L4, k4, n4⟩, -, X4, ⟨Lc4, hQ4, l4, y4, z4⟩, st4⟩ := Jvm.LawKit.callS X3 hx (y := (⟨"com/example/cranfield/cranfield/eval/RankedTopicAveragePrecisionPinLaw", "bit", "(III)I"⟩ : MethodName)) hown (mvT hZ (hw _ (List.mem_of_getElem? (i := 1) rfl))) (mvT hZ (hw _ (List.mem_of_getElem? (i := 2) rfl))) (mvT hZ (hw _ (List.mem_of_getElem? (i := 3) rfl))) (mvT hZ (hw _ (List.mem_of_getElem? (i := 4) rfl))) (by decide) (backOf (W := 0) (rm1 l Z a0 hw [] p1 (2 : Int32) ln h0 n0 Z0) hZ (hw _ (List.mem_of_getElem? (i := 4) rfl)) (hw _ (List.mem_of_getElem? (i := 3) rfl)) (by decide) (by decide)) (g := (mkF m 27 #[.val (.int p0), .val (.int p1), .val (.int p2), .val (.int ln), .val (.int bt0), .val (.int bt1), .unset, .unset, .unset, .unset, .unset, .unset, .unset, .unset, .unset, .unset, .unset, .unset, .unset, .unset, .unset, .unset, .unset, .unset] [(.int ln), (.int (2 : Int32)), (.int p1)])) rfl (by rw [hml]; rfl) (argsL := [(.int p1), (.int (2 : Int32)), (.int ln)]) (rest := []) (lenOf pd_0 rfl) rfl (by show 2 * 0 + _ ≤ _; exact Nat.le_of_eq rfl) (hb hby at_27) (fun _ _ => ⟨rfl, e3, (by decide : 0 + 0 ≤ _), (by decide : 0 + 0 ≤ _)⟩)
  dsimp only [Pt.U, Pt.locs, Pt.cells, Pt.slots] at X4 l4 y4 z4 st4 hQ4
  subst l4 y4 z4
  obtain ⟨bt2, rfl, Nq4, e4, r_bt2, u_bt2⟩ := hQ4
  rw [show (2 : Int32).toInt = 2 from rfl] at u_bt2
  have N4 := Fr.app N3 Nq4
  obtain ⟨_, _, ⟨T5, L5, k5, n5⟩, -, X5, ⟨Lc5, hQ5, l5, y5, z5⟩, st5⟩ := Jvm.LawKit.callS X4 hx (y := (⟨"com/example/cranfield/cranfield/eval/RankedTopicAveragePrecisionPinLaw", "bit", "(III)I"⟩ : MethodName)) hown (mvT hZ (hw _ (List.mem_of_getElem? (i := 1) rfl))) (mvT hZ (hw _ (List.mem_of_getElem? (i := 2) rfl))) (mvT hZ (hw _ (List.mem_of_getElem? (i := 3) rfl))) (mvT hZ (hw _ (List.mem_of_getElem? (i := 4) rfl))) (by decide) (backOf (W := 0) (rm1 l Z a0 hw [] p1 (3 : Int32) ln h0 n0 Z0) hZ (hw _ (List.mem_of_getElem? (i := 4) rfl)) (hw _ (List.mem_of_getElem? (i := 3) rfl)) (by decide) (by decide)) (g := (mkF m 35 #[.val (.int p0), .val (.int p1), .val (.int p2), .val (.int ln), .val (.int bt0), .val (.int bt1), .val (.int bt2), .unset, .unset, .unset, .unset, .unset, .unset, .unset, .unset, .unset, .unset, .unset, .unset, .unset, .unset, .unset, .unset, .unset] [(.int ln), (.int (3 : Int32)), (.int p1)])) rfl (by rw [hml]; rfl) (argsL := [(.int p1), (.int (3 : Int32)), (.int ln)]) (rest := []) (lenOf pd_0 rfl) rfl (by show 2 * 0 + _ ≤ _; exact Nat.le_of_eq rfl) (hb hby at_35) (fun _ _ => ⟨rfl, e4, (by decide : 0 + 0 ≤ _), (by decide : 0 + 0 ≤ _)⟩)
  dsimp only [Pt.U, Pt.locs, Pt.cells, Pt.slots] at X5 l5 y5 z5 st5 hQ5
  subst l5 y5 z5
  obtain ⟨bt3, rfl, Nq5, e5, r_bt3, u_bt3⟩ := hQ5
  rw [show (3 : Int32).toInt = 3 from rfl] at u_bt3
  have N5 := Fr.app N4 Nq5
  obtain ⟨_, _, ⟨T6, L6, k6, n6⟩, -, X6, ⟨Lc6, hQ6, l6, y6, z6⟩, st6⟩ := Jvm.LawKit.callS X5 hx (y := (⟨"com/example/cranfield/cranfield/eval/RankedTopicAveragePrecisionPinLaw", "bit", "(III)I"⟩ : MethodName)) hown (mvT hZ (hw _ (List.mem_of_getElem? (i := 1) rfl))) (mvT hZ (hw _ (List.mem_of_getElem? (i := 2) rfl))) (mvT hZ (hw _ (List.mem_of_getElem? (i := 3) rfl))) (mvT hZ (hw _ (List.mem_of_getElem? (i := 4) rfl))) (by decide) (backOf (W := 0) (rm1 l Z a0 hw [] p1 (4 : Int32) ln h0 n0 Z0) hZ (hw _ (List.mem_of_getElem? (i := 4) rfl)) (hw _ (List.mem_of_getElem? (i := 3) rfl)) (by decide) (by decide)) (g := (mkF m 43 #[.val (.int p0), .val (.int p1), .val (.int p2), .val (.int ln), .val (.int bt0), .val (.int bt1), .val (.int bt2), .val (.int bt3), .unset, .unset, .unset, .unset, .unset, .unset, .unset, .unset, .unset, .unset, .unset, .unset, .unset, .unset, .unset, .unset] [(.int ln), (.int (4 : Int32)), (.int p1)])) rfl (by rw [hml]; rfl) (argsL := [(.int p1), (.int (4 : Int32)), (.int ln)]) (rest := []) (lenOf pd_0 rfl) rfl (by show 2 * 0 + _ ≤ _; exact Nat.le_of_eq rfl) (hb hby at_43) (fun _ _ => ⟨rfl, e5, (by decide : 0 + 0 ≤ _), (by decide : 0 + 0 ≤ _)⟩)
  dsimp only [Pt.U, Pt.locs, Pt.cells, Pt.slots] at X6 l6 y6 z6 st6 hQ6
  subst l6 y6 z6
  obtain ⟨bt4, rfl, Nq6, e6, r_bt4, u_bt4⟩ := hQ6
  rw [show (4 : Int32).toInt = 4 from rfl] at u_bt4
  have N6 := Fr.app N5 Nq6
  obtain ⟨_, _, ⟨T7, L7, k7, n7⟩, -, X7, ⟨Lc7, hQ7, l7, y7, z7⟩, st7⟩ := Jvm.LawKit.callS X6 hx (y := (⟨"com/example/cranfield/cranfield/eval/RankedTopicAveragePrecisionPinLaw", "bit", "(III)I"⟩ : MethodName)) hown (mvT hZ (hw _ (List.mem_of_getElem? (i := 1) rfl))) (mvT hZ (hw _ (List.mem_of_getElem? (i := 2) rfl))) (mvT hZ (hw _ (List.mem_of_getElem? (i := 3) rfl))) (mvT hZ (hw _ (List.mem_of_getElem? (i := 4) rfl))) (by decide) (backOf (W := 0) (rm1 l Z a0 hw [] p1 (5 : Int32) ln h0 n0 Z0) hZ (hw _ (List.mem_of_getElem? (i := 4) rfl)) (hw _ (List.mem_of_getElem? (i := 3) rfl)) (by decide) (by decide)) (g := (mkF m 51 #[.val (.int p0), .val (.int p1), .val (.int p2), .val (.int ln), .val (.int bt0), .val (.int bt1), .val (.int bt2), .val (.int bt3), .val (.int bt4), .unset, .unset, .unset, .unset, .unset, .unset, .unset, .unset, .unset, .unset, .unset, .unset, .unset, .unset, .unset] [(.int ln), (.int (5 : Int32)), (.int p1)])) rfl (by rw [hml]; rfl) (argsL := [(.int p1), (.int (5 : Int32)), (.int ln)]) (rest := []) (lenOf pd_0 rfl) rfl (by show 2 * 0 + _ ≤ _; exact Nat.le_of_eq rfl) (hb hby at_51) (fun _ _ => ⟨rfl, e6, (by decide : 0 + 0 ≤ _), (by decide : 0 + 0 ≤ _)⟩)
  dsimp only [Pt.U, Pt.locs, Pt.cells, Pt.slots] at X7 l7 y7 z7 st7 hQ7
  subst l7 y7 z7
  obtain ⟨bt5, rfl, Nq7, e7, r_bt5, u_bt5⟩ := hQ7
  rw [show (5 : Int32).toInt = 5 from rfl] at u_bt5
  have N7 := Fr.app N6 Nq7
  have pre8 : ∀ t, Steps p.tables e below (T7.setTop (mkF m 56 #[.val (.int p0), .val (.int p1), .val (.int p2), .val (.int ln), .val (.int bt0), .val (.int bt1), .val (.int bt2), .val (.int bt3), .val (.int bt4), .val (.int bt5), .unset, .unset, .unset, .unset, .unset, .unset, .unset, .unset, .unset, .unset, .unset, .unset, .unset, .unset] [])) t → Steps p.tables e below (s₁.setTop (mkF m 0 #[.val (.int p0), .val (.int p1), .val (.int p2), .unset, .unset, .unset, .unset, .unset, .unset, .unset, .unset, .unset, .unset, .unset, .unset, .unset, .unset, .unset, .unset, .unset, .unset, .unset, .unset, .unset] [])) t := fun t k => pre1 t (by
    show Steps p.tables e below (s₁.setTop (mkF m 8 #[.val (.int p0), .val (.int p1), .val (.int p2), .val (.int ln), .unset, .unset, .unset, .unset, .unset, .unset, .unset, .unset, .unset, .unset, .unset, .unset, .unset, .unset, .unset, .unset, .unset, .unset, .unset, .unset] [])) _
    refine XS.iloadN X0.here hx rfl (hb hby at_8) rfl ?_
    show Steps p.tables e below (s₁.setTop (mkF m 9 #[.val (.int p0), .val (.int p1), .val (.int p2), .val (.int ln), .unset, .unset, .unset, .unset, .unset, .unset, .unset, .unset, .unset, .unset, .unset, .unset, .unset, .unset, .unset, .unset, .unset, .unset, .unset, .unset] [(.int p1)])) _
    refine XS.iconst X0.here hx rfl (hb hby at_9) ?_
    show Steps p.tables e below (s₁.setTop (mkF m 10 #[.val (.int p0), .val (.int p1), .val (.int p2), .val (.int ln), .unset, .unset, .unset, .unset, .unset, .unset, .unset, .unset, .unset, .unset, .unset, .unset, .unset, .unset, .unset, .unset, .unset, .unset, .unset, .unset] [(.int (0 : Int32)), (.int p1)])) _
    refine XS.iloadN X0.here hx rfl (hb hby at_10) rfl ?_
    show Steps p.tables e below (s₁.setTop (mkF m 11 #[.val (.int p0), .val (.int p1), .val (.int p2), .val (.int ln), .unset, .unset, .unset, .unset, .unset, .unset, .unset, .unset, .unset, .unset, .unset, .unset, .unset, .unset, .unset, .unset, .unset, .unset, .unset, .unset] [(.int ln), (.int (0 : Int32)), (.int p1)])) _
    refine st2 _ ?_
    show Steps p.tables e below (T2.setTop (mkF m 14 #[.val (.int p0), .val (.int p1), .val (.int p2), .val (.int ln), .unset, .unset, .unset, .unset, .unset, .unset, .unset, .unset, .unset, .unset, .unset, .unset, .unset, .unset, .unset, .unset, .unset, .unset, .unset, .unset] [(.int bt0)])) _
    refine XS.istore X2.here hx rfl (hb hby at_14) rfl (l' := #[.val (.int p0), .val (.int p1), .val (.int p2), .val (.int ln), .val (.int bt0), .unset, .unset, .unset, .unset, .unset, .unset, .unset, .unset, .unset, .unset, .unset, .unset, .unset, .unset, .unset, .unset, .unset, .unset, .unset]) rfl ?_
    show Steps p.tables e below (T2.setTop (mkF m 16 #[.val (.int p0), .val (.int p1), .val (.int p2), .val (.int ln), .val (.int bt0), .unset, .unset, .unset, .unset, .unset, .unset, .unset, .unset, .unset, .unset, .unset, .unset, .unset, .unset, .unset, .unset, .unset, .unset, .unset] [])) _
    refine XS.iloadN X2.here hx rfl (hb hby at_16) rfl ?_
    show Steps p.tables e below (T2.setTop (mkF m 17 #[.val (.int p0), .val (.int p1), .val (.int p2), .val (.int ln), .val (.int bt0), .unset, .unset, .unset, .unset, .unset, .unset, .unset, .unset, .unset, .unset, .unset, .unset, .unset, .unset, .unset, .unset, .unset, .unset, .unset] [(.int p1)])) _
    refine XS.iconst X2.here hx rfl (hb hby at_17) ?_
    show Steps p.tables e below (T2.setTop (mkF m 18 #[.val (.int p0), .val (.int p1), .val (.int p2), .val (.int ln), .val (.int bt0), .unset, .unset, .unset, .unset, .unset, .unset, .unset, .unset, .unset, .unset, .unset, .unset, .unset, .unset, .unset, .unset, .unset, .unset, .unset] [(.int (1 : Int32)), (.int p1)])) _
    refine XS.iloadN X2.here hx rfl (hb hby at_18) rfl ?_
    show Steps p.tables e below (T2.setTop (mkF m 19 #[.val (.int p0), .val (.int p1), .val (.int p2), .val (.int ln), .val (.int bt0), .unset, .unset, .unset, .unset, .unset, .unset, .unset, .unset, .unset, .unset, .unset, .unset, .unset, .unset, .unset, .unset, .unset, .unset, .unset] [(.int ln), (.int (1 : Int32)), (.int p1)])) _
    refine st3 _ ?_
    show Steps p.tables e below (T3.setTop (mkF m 22 #[.val (.int p0), .val (.int p1), .val (.int p2), .val (.int ln), .val (.int bt0), .unset, .unset, .unset, .unset, .unset, .unset, .unset, .unset, .unset, .unset, .unset, .unset, .unset, .unset, .unset, .unset, .unset, .unset, .unset] [(.int bt1)])) _
    refine XS.istore X3.here hx rfl (hb hby at_22) rfl (l' := #[.val (.int p0), .val (.int p1), .val (.int p2), .val (.int ln), .val (.int bt0), .val (.int bt1), .unset, .unset, .unset, .unset, .unset, .unset, .unset, .unset, .unset, .unset, .unset, .unset, .unset, .unset, .unset, .unset, .unset, .unset]) rfl ?_
    show Steps p.tables e below (T3.setTop (mkF m 24 #[.val (.int p0), .val (.int p1), .val (.int p2), .val (.int ln), .val (.int bt0), .val (.int bt1), .unset, .unset, .unset, .unset, .unset, .unset, .unset, .unset, .unset, .unset, .unset, .unset, .unset, .unset, .unset, .unset, .unset, .unset] [])) _
    refine XS.iloadN X3.here hx rfl (hb hby at_24) rfl ?_
    show Steps p.tables e below (T3.setTop (mkF m 25 #[.val (.int p0), .val (.int p1), .val (.int p2), .val (.int ln), .val (.int bt0), .val (.int bt1), .unset, .unset, .unset, .unset, .unset, .unset, .unset, .unset, .unset, .unset, .unset, .unset, .unset, .unset, .unset, .unset, .unset, .unset] [(.int p1)])) _
    refine XS.iconst X3.here hx rfl (hb hby at_25) ?_
    show Steps p.tables e below (T3.setTop (mkF m 26 #[.val (.int p0), .val (.int p1), .val (.int p2), .val (.int ln), .val (.int bt0), .val (.int bt1), .unset, .unset, .unset, .unset, .unset, .unset, .unset, .unset, .unset, .unset, .unset, .unset, .unset, .unset, .unset, .unset, .unset, .unset] [(.int (2 : Int32)), (.int p1)])) _
    refine XS.iloadN X3.here hx rfl (hb hby at_26) rfl ?_
    show Steps p.tables e below (T3.setTop (mkF m 27 #[.val (.int p0), .val (.int p1), .val (.int p2), .val (.int ln), .val (.int bt0), .val (.int bt1), .unset, .unset, .unset, .unset, .unset, .unset, .unset, .unset, .unset, .unset, .unset, .unset, .unset, .unset, .unset, .unset, .unset, .unset] [(.int ln), (.int (2 : Int32)), (.int p1)])) _
    refine st4 _ ?_
    show Steps p.tables e below (T4.setTop (mkF m 30 #[.val (.int p0), .val (.int p1), .val (.int p2), .val (.int ln), .val (.int bt0), .val (.int bt1), .unset, .unset, .unset, .unset, .unset, .unset, .unset, .unset, .unset, .unset, .unset, .unset, .unset, .unset, .unset, .unset, .unset, .unset] [(.int bt2)])) _
    refine XS.istore X4.here hx rfl (hb hby at_30) rfl (l' := #[.val (.int p0), .val (.int p1), .val (.int p2), .val (.int ln), .val (.int bt0), .val (.int bt1), .val (.int bt2), .unset, .unset, .unset, .unset, .unset, .unset, .unset, .unset, .unset, .unset, .unset, .unset, .unset, .unset, .unset, .unset, .unset]) rfl ?_
    show Steps p.tables e below (T4.setTop (mkF m 32 #[.val (.int p0), .val (.int p1), .val (.int p2), .val (.int ln), .val (.int bt0), .val (.int bt1), .val (.int bt2), .unset, .unset, .unset, .unset, .unset, .unset, .unset, .unset, .unset, .unset, .unset, .unset, .unset, .unset, .unset, .unset, .unset] [])) _
    refine XS.iloadN X4.here hx rfl (hb hby at_32) rfl ?_
    show Steps p.tables e below (T4.setTop (mkF m 33 #[.val (.int p0), .val (.int p1), .val (.int p2), .val (.int ln), .val (.int bt0), .val (.int bt1), .val (.int bt2), .unset, .unset, .unset, .unset, .unset, .unset, .unset, .unset, .unset, .unset, .unset, .unset, .unset, .unset, .unset, .unset, .unset] [(.int p1)])) _
    refine XS.iconst X4.here hx rfl (hb hby at_33) ?_
    show Steps p.tables e below (T4.setTop (mkF m 34 #[.val (.int p0), .val (.int p1), .val (.int p2), .val (.int ln), .val (.int bt0), .val (.int bt1), .val (.int bt2), .unset, .unset, .unset, .unset, .unset, .unset, .unset, .unset, .unset, .unset, .unset, .unset, .unset, .unset, .unset, .unset, .unset] [(.int (3 : Int32)), (.int p1)])) _
    refine XS.iloadN X4.here hx rfl (hb hby at_34) rfl ?_
    show Steps p.tables e below (T4.setTop (mkF m 35 #[.val (.int p0), .val (.int p1), .val (.int p2), .val (.int ln), .val (.int bt0), .val (.int bt1), .val (.int bt2), .unset, .unset, .unset, .unset, .unset, .unset, .unset, .unset, .unset, .unset, .unset, .unset, .unset, .unset, .unset, .unset, .unset] [(.int ln), (.int (3 : Int32)), (.int p1)])) _
    refine st5 _ ?_
    show Steps p.tables e below (T5.setTop (mkF m 38 #[.val (.int p0), .val (.int p1), .val (.int p2), .val (.int ln), .val (.int bt0), .val (.int bt1), .val (.int bt2), .unset, .unset, .unset, .unset, .unset, .unset, .unset, .unset, .unset, .unset, .unset, .unset, .unset, .unset, .unset, .unset, .unset] [(.int bt3)])) _
    refine XS.istore X5.here hx rfl (hb hby at_38) rfl (l' := #[.val (.int p0), .val (.int p1), .val (.int p2), .val (.int ln), .val (.int bt0), .val (.int bt1), .val (.int bt2), .val (.int bt3), .unset, .unset, .unset, .unset, .unset, .unset, .unset, .unset, .unset, .unset, .unset, .unset, .unset, .unset, .unset, .unset]) rfl ?_
    show Steps p.tables e below (T5.setTop (mkF m 40 #[.val (.int p0), .val (.int p1), .val (.int p2), .val (.int ln), .val (.int bt0), .val (.int bt1), .val (.int bt2), .val (.int bt3), .unset, .unset, .unset, .unset, .unset, .unset, .unset, .unset, .unset, .unset, .unset, .unset, .unset, .unset, .unset, .unset] [])) _
    refine XS.iloadN X5.here hx rfl (hb hby at_40) rfl ?_
    show Steps p.tables e below (T5.setTop (mkF m 41 #[.val (.int p0), .val (.int p1), .val (.int p2), .val (.int ln), .val (.int bt0), .val (.int bt1), .val (.int bt2), .val (.int bt3), .unset, .unset, .unset, .unset, .unset, .unset, .unset, .unset, .unset, .unset, .unset, .unset, .unset, .unset, .unset, .unset] [(.int p1)])) _
    refine XS.iconst X5.here hx rfl (hb hby at_41) ?_
    show Steps p.tables e below (T5.setTop (mkF m 42 #[.val (.int p0), .val (.int p1), .val (.int p2), .val (.int ln), .val (.int bt0), .val (.int bt1), .val (.int bt2), .val (.int bt3), .unset, .unset, .unset, .unset, .unset, .unset, .unset, .unset, .unset, .unset, .unset, .unset, .unset, .unset, .unset, .unset] [(.int (4 : Int32)), (.int p1)])) _
    refine XS.iloadN X5.here hx rfl (hb hby at_42) rfl ?_
    show Steps p.tables e below (T5.setTop (mkF m 43 #[.val (.int p0), .val (.int p1), .val (.int p2), .val (.int ln), .val (.int bt0), .val (.int bt1), .val (.int bt2), .val (.int bt3), .unset, .unset, .unset, .unset, .unset, .unset, .unset, .unset, .unset, .unset, .unset, .unset, .unset, .unset, .unset, .unset] [(.int ln), (.int (4 : Int32)), (.int p1)])) _
    refine st6 _ ?_
    show Steps p.tables e below (T6.setTop (mkF m 46 #[.val (.int p0), .val (.int p1), .val (.int p2), .val (.int ln), .val (.int bt0), .val (.int bt1), .val (.int bt2), .val (.int bt3), .unset, .unset, .unset, .unset, .unset, .unset, .unset, .unset, .unset, .unset, .unset, .unset, .unset, .unset, .unset, .unset] [(.int bt4)])) _
    refine XS.istore X6.here hx rfl (hb hby at_46) rfl (l' := #[.val (.int p0), .val (.int p1), .val (.int p2), .val (.int ln), .val (.int bt0), .val (.int bt1), .val (.int bt2), .val (.int bt3), .val (.int bt4), .unset, .unset, .unset, .unset, .unset, .unset, .unset, .unset, .unset, .unset, .unset, .unset, .unset, .unset, .unset]) rfl ?_
    show Steps p.tables e below (T6.setTop (mkF m 48 #[.val (.int p0), .val (.int p1), .val (.int p2), .val (.int ln), .val (.int bt0), .val (.int bt1), .val (.int bt2), .val (.int bt3), .val (.int bt4), .unset, .unset, .unset, .unset, .unset, .unset, .unset, .unset, .unset, .unset, .unset, .unset, .unset, .unset, .unset] [])) _
    refine XS.iloadN X6.here hx rfl (hb hby at_48) rfl ?_
    show Steps p.tables e below (T6.setTop (mkF m 49 #[.val (.int p0), .val (.int p1), .val (.int p2), .val (.int ln), .val (.int bt0), .val (.int bt1), .val (.int bt2), .val (.int bt3), .val (.int bt4), .unset, .unset, .unset, .unset, .unset, .unset, .unset, .unset, .unset, .unset, .unset, .unset, .unset, .unset, .unset] [(.int p1)])) _
    refine XS.iconst X6.here hx rfl (hb hby at_49) ?_
    show Steps p.tables e below (T6.setTop (mkF m 50 #[.val (.int p0), .val (.int p1), .val (.int p2), .val (.int ln), .val (.int bt0), .val (.int bt1), .val (.int bt2), .val (.int bt3), .val (.int bt4), .unset, .unset, .unset, .unset, .unset, .unset, .unset, .unset, .unset, .unset, .unset, .unset, .unset, .unset, .unset] [(.int (5 : Int32)), (.int p1)])) _
    refine XS.iloadN X6.here hx rfl (hb hby at_50) rfl ?_
    show Steps p.tables e below (T6.setTop (mkF m 51 #[.val (.int p0), .val (.int p1), .val (.int p2), .val (.int ln), .val (.int bt0), .val (.int bt1), .val (.int bt2), .val (.int bt3), .val (.int bt4), .unset, .unset, .unset, .unset, .unset, .unset, .unset, .unset, .unset, .unset, .unset, .unset, .unset, .unset, .unset] [(.int ln), (.int (5 : Int32)), (.int p1)])) _
    refine st7 _ ?_
    show Steps p.tables e below (T7.setTop (mkF m 54 #[.val (.int p0), .val (.int p1), .val (.int p2), .val (.int ln), .val (.int bt0), .val (.int bt1), .val (.int bt2), .val (.int bt3), .val (.int bt4), .unset, .unset, .unset, .unset, .unset, .unset, .unset, .unset, .unset, .unset, .unset, .unset, .unset, .unset, .unset] [(.int bt5)])) _
    refine XS.istore X7.here hx rfl (hb hby at_54) rfl (l' := #[.val (.int p0), .val (.int p1), .val (.int p2), .val (.int ln), .val (.int bt0), .val (.int bt1), .val (.int bt2), .val (.int bt3), .val (.int bt4), .val (.int bt5), .unset, .unset, .unset, .unset, .unset, .unset, .unset, .unset, .unset, .unset, .unset, .unset, .unset, .unset]) rfl ?_
    exact k)
  obtain ⟨bb, cb, T9, L9, hh9, X9, e9, N9, Z9, K9, ⟨AB, SB, HB⟩, pre9⟩ : ∃ (bb : Addr) (cb : Cell) (T9 : State) (L9 : List Loc) (hh9 : Heap), Stand p l e room_1 s m #[(.int p0), (.int p1), (.int p2)] below meth c T9 L9 1 6 ∧ T9.heap = hh9 ∧ Fr n0 L9 ∧ n0 ≤ hh9.size ∧ Keep h0 hh9 [] ∧ (Arr Z hh9 bb cb .boolean ∧ cb.slots.size = ln.toNatClampNeg ∧ (∀ j : Nat, j < ln.toNatClampNeg → cb.slots[j]? = some (.int (own_B bt0 bt1 bt2 bt3 bt4 bt5 j)))) ∧ ∀ t, Steps p.tables e below (T9.setTop (mkF m 180 #[.val (.int p0), .val (.int p1), .val (.int p2), .val (.int ln), .val (.int bt0), .val (.int bt1), .val (.int bt2), .val (.int bt3), .val (.int bt4), .val (.int bt5), .val (.ref bb), .unset, .unset, .unset, .unset, .unset, .unset, .unset, .unset, .unset, .unset, .unset, .unset, .unset] [])) t → Steps p.tables e below (s₁.setTop (mkF m 0 #[.val (.int p0), .val (.int p1), .val (.int p2), .unset, .unset, .unset, .unset, .unset, .unset, .unset, .unset, .unset, .unset, .unset, .unset, .unset, .unset, .unset, .unset, .unset, .unset, .unset, .unset, .unset] [])) t := by
    rcases (show ln.toInt = 0 ∨ ln.toInt = 1 ∨ ln.toInt = 2 ∨ ln.toInt = 3 ∨ ln.toInt = 4 ∨ ln.toInt = 5 ∨ ln.toInt = 6 by omega) with hk_ln | hk_ln | hk_ln | hk_ln | hk_ln | hk_ln | hk_ln
    · skip
      obtain rfl : ln = (0 : Int32) := own_eq.mpr hk_ln
      obtain ⟨T10, h10, k10, X10, e10, E10, A10, st10⟩ := newP X7 hx hZ (hw _ (List.mem_of_getElem? (i := 5) rfl)) e7 (g := (mkF m 57 #[.val (.int p0), .val (.int p1), .val (.int p2), .val (.int (0 : Int32)), .val (.int bt0), .val (.int bt1), .val (.int bt2), .val (.int bt3), .val (.int bt4), .val (.int bt5), .unset, .unset, .unset, .unset, .unset, .unset, .unset, .unset, .unset, .unset, .unset, .unset, .unset, .unset] [(.int (0 : Int32))])) rfl (hb hby at_57) rfl (by decide) (cap := 0) (by decide) (by decide) (by decide) (by decide)
      obtain ⟨b10, g10⟩ : ∃ z, z = h0.size := ⟨_, rfl⟩
      rw [← g10] at A10 st10
      have g_b10 : n0 ≤ b10 := Nat.le_trans Z0 (Nat.le_of_eq g10.symm)
      skip
      have Z10 : n0 ≤ h10.size := Nat.le_trans Z0 E10.1
      have K10 : Keep h0 h10 [] := KR.ext E10
      have sz_b10 : h0.size ≤ b10 := Nat.le_trans KR.1 (Nat.le_of_eq g10.symm)
      have V10 : Arv Z h10 b10 k10 .boolean (0 : Int32) [] (.int (0 : Int32)) := (Arv.new A10 (by decide))
      have hc11 : ¬ ((0 : Int32) < (0 : Int32)) := by decide
      have hc12 : ¬ ((1 : Int32) < (0 : Int32)) := by decide
      have hc13 : ¬ ((2 : Int32) < (0 : Int32)) := by decide
      have hc14 : ¬ ((3 : Int32) < (0 : Int32)) := by decide
      have hc15 : ¬ ((4 : Int32) < (0 : Int32)) := by decide
      have hc16 : ¬ ((5 : Int32) < (0 : Int32)) := by decide
      obtain ⟨cl17, Ar17, -, Sz17, -, Hh17, -⟩ := V10
      refine ⟨b10, cl17, T10, _, h10, X10.more (by decide) (by decide), e10, N7, Z10, K10, ⟨Ar17, Sz17, fun j hj => by
        have q := Hh17 j (by rw [Sz17]; exact hj)
        have hj' : j < 0 := hj
        omega⟩, fun t k => pre8 t ?_⟩
      show Steps p.tables e below (T7.setTop (mkF m 56 #[.val (.int p0), .val (.int p1), .val (.int p2), .val (.int (0 : Int32)), .val (.int bt0), .val (.int bt1), .val (.int bt2), .val (.int bt3), .val (.int bt4), .val (.int bt5), .unset, .unset, .unset, .unset, .unset, .unset, .unset, .unset, .unset, .unset, .unset, .unset, .unset, .unset] [])) _
      refine XS.iloadN X7.here hx rfl (hb hby at_56) rfl ?_
      show Steps p.tables e below (T7.setTop (mkF m 57 #[.val (.int p0), .val (.int p1), .val (.int p2), .val (.int (0 : Int32)), .val (.int bt0), .val (.int bt1), .val (.int bt2), .val (.int bt3), .val (.int bt4), .val (.int bt5), .unset, .unset, .unset, .unset, .unset, .unset, .unset, .unset, .unset, .unset, .unset, .unset, .unset, .unset] [(.int (0 : Int32))])) _
      refine st10 _ ?_
      show Steps p.tables e below (T10.setTop (mkF m 59 #[.val (.int p0), .val (.int p1), .val (.int p2), .val (.int (0 : Int32)), .val (.int bt0), .val (.int bt1), .val (.int bt2), .val (.int bt3), .val (.int bt4), .val (.int bt5), .unset, .unset, .unset, .unset, .unset, .unset, .unset, .unset, .unset, .unset, .unset, .unset, .unset, .unset] [(.ref b10)])) _
      refine XS.astore X10.here hx rfl (hb hby at_59) rfl rfl (l' := #[.val (.int p0), .val (.int p1), .val (.int p2), .val (.int (0 : Int32)), .val (.int bt0), .val (.int bt1), .val (.int bt2), .val (.int bt3), .val (.int bt4), .val (.int bt5), .val (.ref b10), .unset, .unset, .unset, .unset, .unset, .unset, .unset, .unset, .unset, .unset, .unset, .unset, .unset]) rfl ?_
      show Steps p.tables e below (T10.setTop (mkF m 61 #[.val (.int p0), .val (.int p1), .val (.int p2), .val (.int (0 : Int32)), .val (.int bt0), .val (.int bt1), .val (.int bt2), .val (.int bt3), .val (.int bt4), .val (.int bt5), .val (.ref b10), .unset, .unset, .unset, .unset, .unset, .unset, .unset, .unset, .unset, .unset, .unset, .unset, .unset] [])) _
      refine XS.iloadN X10.here hx rfl (hb hby at_61) rfl ?_
      show Steps p.tables e below (T10.setTop (mkF m 62 #[.val (.int p0), .val (.int p1), .val (.int p2), .val (.int (0 : Int32)), .val (.int bt0), .val (.int bt1), .val (.int bt2), .val (.int bt3), .val (.int bt4), .val (.int bt5), .val (.ref b10), .unset, .unset, .unset, .unset, .unset, .unset, .unset, .unset, .unset, .unset, .unset, .unset, .unset] [(.int (0 : Int32))])) _
      refine XS.ifYes X10.here hx rfl (pc0 := 62) (pc' := 80) rfl (hb hby at_62) rfl ((if0 _ _).trans (flt hc11).2.2.2) (by decide) (by decide) ?_
      show Steps p.tables e below (T10.setTop (mkF m 80 #[.val (.int p0), .val (.int p1), .val (.int p2), .val (.int (0 : Int32)), .val (.int bt0), .val (.int bt1), .val (.int bt2), .val (.int bt3), .val (.int bt4), .val (.int bt5), .val (.ref b10), .unset, .unset, .unset, .unset, .unset, .unset, .unset, .unset, .unset, .unset, .unset, .unset, .unset] [])) _
      refine XS.iloadN X10.here hx rfl (hb hby at_80) rfl ?_
      show Steps p.tables e below (T10.setTop (mkF m 81 #[.val (.int p0), .val (.int p1), .val (.int p2), .val (.int (0 : Int32)), .val (.int bt0), .val (.int bt1), .val (.int bt2), .val (.int bt3), .val (.int bt4), .val (.int bt5), .val (.ref b10), .unset, .unset, .unset, .unset, .unset, .unset, .unset, .unset, .unset, .unset, .unset, .unset, .unset] [(.int (0 : Int32))])) _
      refine XS.iconst X10.here hx rfl (hb hby at_81) ?_
      show Steps p.tables e below (T10.setTop (mkF m 82 #[.val (.int p0), .val (.int p1), .val (.int p2), .val (.int (0 : Int32)), .val (.int bt0), .val (.int bt1), .val (.int bt2), .val (.int bt3), .val (.int bt4), .val (.int bt5), .val (.ref b10), .unset, .unset, .unset, .unset, .unset, .unset, .unset, .unset, .unset, .unset, .unset, .unset, .unset] [(.int (1 : Int32)), (.int (0 : Int32))])) _
      refine XS.icmpYes X10.here hx rfl (pc0 := 82) (pc' := 100) rfl (hb hby at_82) rfl (flt hc12).2.2.2 (by decide) (by decide) ?_
      show Steps p.tables e below (T10.setTop (mkF m 100 #[.val (.int p0), .val (.int p1), .val (.int p2), .val (.int (0 : Int32)), .val (.int bt0), .val (.int bt1), .val (.int bt2), .val (.int bt3), .val (.int bt4), .val (.int bt5), .val (.ref b10), .unset, .unset, .unset, .unset, .unset, .unset, .unset, .unset, .unset, .unset, .unset, .unset, .unset] [])) _
      refine XS.iloadN X10.here hx rfl (hb hby at_100) rfl ?_
      show Steps p.tables e below (T10.setTop (mkF m 101 #[.val (.int p0), .val (.int p1), .val (.int p2), .val (.int (0 : Int32)), .val (.int bt0), .val (.int bt1), .val (.int bt2), .val (.int bt3), .val (.int bt4), .val (.int bt5), .val (.ref b10), .unset, .unset, .unset, .unset, .unset, .unset, .unset, .unset, .unset, .unset, .unset, .unset, .unset] [(.int (0 : Int32))])) _
      refine XS.iconst X10.here hx rfl (hb hby at_101) ?_
      show Steps p.tables e below (T10.setTop (mkF m 102 #[.val (.int p0), .val (.int p1), .val (.int p2), .val (.int (0 : Int32)), .val (.int bt0), .val (.int bt1), .val (.int bt2), .val (.int bt3), .val (.int bt4), .val (.int bt5), .val (.ref b10), .unset, .unset, .unset, .unset, .unset, .unset, .unset, .unset, .unset, .unset, .unset, .unset, .unset] [(.int (2 : Int32)), (.int (0 : Int32))])) _
      refine XS.icmpYes X10.here hx rfl (pc0 := 102) (pc' := 120) rfl (hb hby at_102) rfl (flt hc13).2.2.2 (by decide) (by decide) ?_
      show Steps p.tables e below (T10.setTop (mkF m 120 #[.val (.int p0), .val (.int p1), .val (.int p2), .val (.int (0 : Int32)), .val (.int bt0), .val (.int bt1), .val (.int bt2), .val (.int bt3), .val (.int bt4), .val (.int bt5), .val (.ref b10), .unset, .unset, .unset, .unset, .unset, .unset, .unset, .unset, .unset, .unset, .unset, .unset, .unset] [])) _
      refine XS.iloadN X10.here hx rfl (hb hby at_120) rfl ?_
      show Steps p.tables e below (T10.setTop (mkF m 121 #[.val (.int p0), .val (.int p1), .val (.int p2), .val (.int (0 : Int32)), .val (.int bt0), .val (.int bt1), .val (.int bt2), .val (.int bt3), .val (.int bt4), .val (.int bt5), .val (.ref b10), .unset, .unset, .unset, .unset, .unset, .unset, .unset, .unset, .unset, .unset, .unset, .unset, .unset] [(.int (0 : Int32))])) _
      refine XS.iconst X10.here hx rfl (hb hby at_121) ?_
      show Steps p.tables e below (T10.setTop (mkF m 122 #[.val (.int p0), .val (.int p1), .val (.int p2), .val (.int (0 : Int32)), .val (.int bt0), .val (.int bt1), .val (.int bt2), .val (.int bt3), .val (.int bt4), .val (.int bt5), .val (.ref b10), .unset, .unset, .unset, .unset, .unset, .unset, .unset, .unset, .unset, .unset, .unset, .unset, .unset] [(.int (3 : Int32)), (.int (0 : Int32))])) _
      refine XS.icmpYes X10.here hx rfl (pc0 := 122) (pc' := 140) rfl (hb hby at_122) rfl (flt hc14).2.2.2 (by decide) (by decide) ?_
      show Steps p.tables e below (T10.setTop (mkF m 140 #[.val (.int p0), .val (.int p1), .val (.int p2), .val (.int (0 : Int32)), .val (.int bt0), .val (.int bt1), .val (.int bt2), .val (.int bt3), .val (.int bt4), .val (.int bt5), .val (.ref b10), .unset, .unset, .unset, .unset, .unset, .unset, .unset, .unset, .unset, .unset, .unset, .unset, .unset] [])) _
      refine XS.iloadN X10.here hx rfl (hb hby at_140) rfl ?_
      show Steps p.tables e below (T10.setTop (mkF m 141 #[.val (.int p0), .val (.int p1), .val (.int p2), .val (.int (0 : Int32)), .val (.int bt0), .val (.int bt1), .val (.int bt2), .val (.int bt3), .val (.int bt4), .val (.int bt5), .val (.ref b10), .unset, .unset, .unset, .unset, .unset, .unset, .unset, .unset, .unset, .unset, .unset, .unset, .unset] [(.int (0 : Int32))])) _
      refine XS.iconst X10.here hx rfl (hb hby at_141) ?_
      show Steps p.tables e below (T10.setTop (mkF m 142 #[.val (.int p0), .val (.int p1), .val (.int p2), .val (.int (0 : Int32)), .val (.int bt0), .val (.int bt1), .val (.int bt2), .val (.int bt3), .val (.int bt4), .val (.int bt5), .val (.ref b10), .unset, .unset, .unset, .unset, .unset, .unset, .unset, .unset, .unset, .unset, .unset, .unset, .unset] [(.int (4 : Int32)), (.int (0 : Int32))])) _
      refine XS.icmpYes X10.here hx rfl (pc0 := 142) (pc' := 160) rfl (hb hby at_142) rfl (flt hc15).2.2.2 (by decide) (by decide) ?_
      show Steps p.tables e below (T10.setTop (mkF m 160 #[.val (.int p0), .val (.int p1), .val (.int p2), .val (.int (0 : Int32)), .val (.int bt0), .val (.int bt1), .val (.int bt2), .val (.int bt3), .val (.int bt4), .val (.int bt5), .val (.ref b10), .unset, .unset, .unset, .unset, .unset, .unset, .unset, .unset, .unset, .unset, .unset, .unset, .unset] [])) _
      refine XS.iloadN X10.here hx rfl (hb hby at_160) rfl ?_
      show Steps p.tables e below (T10.setTop (mkF m 161 #[.val (.int p0), .val (.int p1), .val (.int p2), .val (.int (0 : Int32)), .val (.int bt0), .val (.int bt1), .val (.int bt2), .val (.int bt3), .val (.int bt4), .val (.int bt5), .val (.ref b10), .unset, .unset, .unset, .unset, .unset, .unset, .unset, .unset, .unset, .unset, .unset, .unset, .unset] [(.int (0 : Int32))])) _
      refine XS.iconst X10.here hx rfl (hb hby at_161) ?_
      show Steps p.tables e below (T10.setTop (mkF m 162 #[.val (.int p0), .val (.int p1), .val (.int p2), .val (.int (0 : Int32)), .val (.int bt0), .val (.int bt1), .val (.int bt2), .val (.int bt3), .val (.int bt4), .val (.int bt5), .val (.ref b10), .unset, .unset, .unset, .unset, .unset, .unset, .unset, .unset, .unset, .unset, .unset, .unset, .unset] [(.int (5 : Int32)), (.int (0 : Int32))])) _
      refine XS.icmpYes X10.here hx rfl (pc0 := 162) (pc' := 180) rfl (hb hby at_162) rfl (flt hc16).2.2.2 (by decide) (by decide) ?_
      exact k
    · skip
      obtain rfl : ln = (1 : Int32) := own_eq.mpr hk_ln
      obtain ⟨T18, h18, k18, X18, e18, E18, A18, st18⟩ := newP X7 hx hZ (hw _ (List.mem_of_getElem? (i := 5) rfl)) e7 (g := (mkF m 57 #[.val (.int p0), .val (.int p1), .val (.int p2), .val (.int (1 : Int32)), .val (.int bt0), .val (.int bt1), .val (.int bt2), .val (.int bt3), .val (.int bt4), .val (.int bt5), .unset, .unset, .unset, .unset, .unset, .unset, .unset, .unset, .unset, .unset, .unset, .unset, .unset, .unset] [(.int (1 : Int32))])) rfl (hb hby at_57) rfl (by decide) (cap := 1) (by decide) (by decide) (by decide) (by decide)
      obtain ⟨b18, g18⟩ : ∃ z, z = h0.size := ⟨_, rfl⟩
      rw [← g18] at A18 st18
      have g_b18 : n0 ≤ b18 := Nat.le_trans Z0 (Nat.le_of_eq g18.symm)
      skip
      have Z18 : n0 ≤ h18.size := Nat.le_trans Z0 E18.1
      have K18 : Keep h0 h18 [] := KR.ext E18
      have sz_b18 : h0.size ≤ b18 := Nat.le_trans KR.1 (Nat.le_of_eq g18.symm)
      have V18 : Arv Z h18 b18 k18 .boolean (1 : Int32) [(.int (0 : Int32))] (.int (0 : Int32)) := (Arv.new A18 (by decide)).pad (pad_rep [] (.int (0 : Int32)) 1)
      have hc19 : (0 : Int32) < (1 : Int32) := by decide
      have pre20 : ∀ t, Steps p.tables e below (T18.setTop (mkF m 68 #[.val (.int p0), .val (.int p1), .val (.int p2), .val (.int (1 : Int32)), .val (.int bt0), .val (.int bt1), .val (.int bt2), .val (.int bt3), .val (.int bt4), .val (.int bt5), .val (.ref b18), .unset, .unset, .unset, .unset, .unset, .unset, .unset, .unset, .unset, .unset, .unset, .unset, .unset] [(.int (0 : Int32)), (.ref b18)])) t → Steps p.tables e below (s₁.setTop (mkF m 0 #[.val (.int p0), .val (.int p1), .val (.int p2), .unset, .unset, .unset, .unset, .unset, .unset, .unset, .unset, .unset, .unset, .unset, .unset, .unset, .unset, .unset, .unset, .unset, .unset, .unset, .unset, .unset] [])) t := fun t k => pre8 t (by
        show Steps p.tables e below (T7.setTop (mkF m 56 #[.val (.int p0), .val (.int p1), .val (.int p2), .val (.int (1 : Int32)), .val (.int bt0), .val (.int bt1), .val (.int bt2), .val (.int bt3), .val (.int bt4), .val (.int bt5), .unset, .unset, .unset, .unset, .unset, .unset, .unset, .unset, .unset, .unset, .unset, .unset, .unset, .unset] [])) _
        refine XS.iloadN X7.here hx rfl (hb hby at_56) rfl ?_
        show Steps p.tables e below (T7.setTop (mkF m 57 #[.val (.int p0), .val (.int p1), .val (.int p2), .val (.int (1 : Int32)), .val (.int bt0), .val (.int bt1), .val (.int bt2), .val (.int bt3), .val (.int bt4), .val (.int bt5), .unset, .unset, .unset, .unset, .unset, .unset, .unset, .unset, .unset, .unset, .unset, .unset, .unset, .unset] [(.int (1 : Int32))])) _
        refine st18 _ ?_
        show Steps p.tables e below (T18.setTop (mkF m 59 #[.val (.int p0), .val (.int p1), .val (.int p2), .val (.int (1 : Int32)), .val (.int bt0), .val (.int bt1), .val (.int bt2), .val (.int bt3), .val (.int bt4), .val (.int bt5), .unset, .unset, .unset, .unset, .unset, .unset, .unset, .unset, .unset, .unset, .unset, .unset, .unset, .unset] [(.ref b18)])) _
        refine XS.astore X18.here hx rfl (hb hby at_59) rfl rfl (l' := #[.val (.int p0), .val (.int p1), .val (.int p2), .val (.int (1 : Int32)), .val (.int bt0), .val (.int bt1), .val (.int bt2), .val (.int bt3), .val (.int bt4), .val (.int bt5), .val (.ref b18), .unset, .unset, .unset, .unset, .unset, .unset, .unset, .unset, .unset, .unset, .unset, .unset, .unset]) rfl ?_
        show Steps p.tables e below (T18.setTop (mkF m 61 #[.val (.int p0), .val (.int p1), .val (.int p2), .val (.int (1 : Int32)), .val (.int bt0), .val (.int bt1), .val (.int bt2), .val (.int bt3), .val (.int bt4), .val (.int bt5), .val (.ref b18), .unset, .unset, .unset, .unset, .unset, .unset, .unset, .unset, .unset, .unset, .unset, .unset, .unset] [])) _
        refine XS.iloadN X18.here hx rfl (hb hby at_61) rfl ?_
        show Steps p.tables e below (T18.setTop (mkF m 62 #[.val (.int p0), .val (.int p1), .val (.int p2), .val (.int (1 : Int32)), .val (.int bt0), .val (.int bt1), .val (.int bt2), .val (.int bt3), .val (.int bt4), .val (.int bt5), .val (.ref b18), .unset, .unset, .unset, .unset, .unset, .unset, .unset, .unset, .unset, .unset, .unset, .unset, .unset] [(.int (1 : Int32))])) _
        refine XS.ifNo X18.here hx rfl (hb hby at_62) rfl ((if0 _ _).trans (tlt hc19).2.2.2) ?_
        show Steps p.tables e below (T18.setTop (mkF m 65 #[.val (.int p0), .val (.int p1), .val (.int p2), .val (.int (1 : Int32)), .val (.int bt0), .val (.int bt1), .val (.int bt2), .val (.int bt3), .val (.int bt4), .val (.int bt5), .val (.ref b18), .unset, .unset, .unset, .unset, .unset, .unset, .unset, .unset, .unset, .unset, .unset, .unset, .unset] [])) _
        refine XS.aload X18.here hx rfl (hb hby at_65) rfl rfl ?_
        show Steps p.tables e below (T18.setTop (mkF m 67 #[.val (.int p0), .val (.int p1), .val (.int p2), .val (.int (1 : Int32)), .val (.int bt0), .val (.int bt1), .val (.int bt2), .val (.int bt3), .val (.int bt4), .val (.int bt5), .val (.ref b18), .unset, .unset, .unset, .unset, .unset, .unset, .unset, .unset, .unset, .unset, .unset, .unset, .unset] [(.ref b18)])) _
        refine XS.iconst X18.here hx rfl (hb hby at_67) ?_
        exact k)
      obtain ⟨v0, rfl, pre21⟩ : ∃ (v0 : Int32), (v0 = bI (bt0.toInt = 1)) ∧ ∀ t, Steps p.tables e below (T18.setTop (mkF m 79 #[.val (.int p0), .val (.int p1), .val (.int p2), .val (.int (1 : Int32)), .val (.int bt0), .val (.int bt1), .val (.int bt2), .val (.int bt3), .val (.int bt4), .val (.int bt5), .val (.ref b18), .unset, .unset, .unset, .unset, .unset, .unset, .unset, .unset, .unset, .unset, .unset, .unset, .unset] [(.int v0), (.int (0 : Int32)), (.ref b18)])) t → Steps p.tables e below (s₁.setTop (mkF m 0 #[.val (.int p0), .val (.int p1), .val (.int p2), .unset, .unset, .unset, .unset, .unset, .unset, .unset, .unset, .unset, .unset, .unset, .unset, .unset, .unset, .unset, .unset, .unset, .unset, .unset, .unset, .unset] [])) t := by
        have pre23 : ∀ t, Steps p.tables e below (T18.setTop (mkF m 71 #[.val (.int p0), .val (.int p1), .val (.int p2), .val (.int (1 : Int32)), .val (.int bt0), .val (.int bt1), .val (.int bt2), .val (.int bt3), .val (.int bt4), .val (.int bt5), .val (.ref b18), .unset, .unset, .unset, .unset, .unset, .unset, .unset, .unset, .unset, .unset, .unset, .unset, .unset] [(.int (1 : Int32)), (.int bt0), (.int (0 : Int32)), (.ref b18)])) t → Steps p.tables e below (s₁.setTop (mkF m 0 #[.val (.int p0), .val (.int p1), .val (.int p2), .unset, .unset, .unset, .unset, .unset, .unset, .unset, .unset, .unset, .unset, .unset, .unset, .unset, .unset, .unset, .unset, .unset, .unset, .unset, .unset, .unset] [])) t := fun t k => pre20 t (by
          show Steps p.tables e below (T18.setTop (mkF m 68 #[.val (.int p0), .val (.int p1), .val (.int p2), .val (.int (1 : Int32)), .val (.int bt0), .val (.int bt1), .val (.int bt2), .val (.int bt3), .val (.int bt4), .val (.int bt5), .val (.ref b18), .unset, .unset, .unset, .unset, .unset, .unset, .unset, .unset, .unset, .unset, .unset, .unset, .unset] [(.int (0 : Int32)), (.ref b18)])) _
          refine XS.iload X18.here hx rfl (hb hby at_68) rfl ?_
          show Steps p.tables e below (T18.setTop (mkF m 70 #[.val (.int p0), .val (.int p1), .val (.int p2), .val (.int (1 : Int32)), .val (.int bt0), .val (.int bt1), .val (.int bt2), .val (.int bt3), .val (.int bt4), .val (.int bt5), .val (.ref b18), .unset, .unset, .unset, .unset, .unset, .unset, .unset, .unset, .unset, .unset, .unset, .unset, .unset] [(.int bt0), (.int (0 : Int32)), (.ref b18)])) _
          refine XS.iconst X18.here hx rfl (hb hby at_70) ?_
          exact k)
        by_cases hc22 : bt0 = (1 : Int32)
        · skip
          have ohc22 : bt0.toInt = 1 := own_eq.mp hc22
          refine ⟨(1 : Int32), ?_, fun t k => pre23 t ?_⟩
          · exact own_c1 (by omega)
          · skip
            show Steps p.tables e below (T18.setTop (mkF m 71 #[.val (.int p0), .val (.int p1), .val (.int p2), .val (.int (1 : Int32)), .val (.int bt0), .val (.int bt1), .val (.int bt2), .val (.int bt3), .val (.int bt4), .val (.int bt5), .val (.ref b18), .unset, .unset, .unset, .unset, .unset, .unset, .unset, .unset, .unset, .unset, .unset, .unset, .unset] [(.int (1 : Int32)), (.int bt0), (.int (0 : Int32)), (.ref b18)])) _
            refine XS.icmpNo X18.here hx rfl (hb hby at_71) rfl (teq hc22).2 ?_
            show Steps p.tables e below (T18.setTop (mkF m 74 #[.val (.int p0), .val (.int p1), .val (.int p2), .val (.int (1 : Int32)), .val (.int bt0), .val (.int bt1), .val (.int bt2), .val (.int bt3), .val (.int bt4), .val (.int bt5), .val (.ref b18), .unset, .unset, .unset, .unset, .unset, .unset, .unset, .unset, .unset, .unset, .unset, .unset, .unset] [(.int (0 : Int32)), (.ref b18)])) _
            refine XS.iconst X18.here hx rfl (hb hby at_74) ?_
            show Steps p.tables e below (T18.setTop (mkF m 75 #[.val (.int p0), .val (.int p1), .val (.int p2), .val (.int (1 : Int32)), .val (.int bt0), .val (.int bt1), .val (.int bt2), .val (.int bt3), .val (.int bt4), .val (.int bt5), .val (.ref b18), .unset, .unset, .unset, .unset, .unset, .unset, .unset, .unset, .unset, .unset, .unset, .unset, .unset] [(.int (1 : Int32)), (.int (0 : Int32)), (.ref b18)])) _
            refine XS.goto X18.here hx rfl (pc0 := 75) (pc' := 79) rfl (hb hby at_75) (by decide) (by decide) ?_
            exact k
        · skip
          have ohc22 : ¬ (bt0.toInt = 1) := own_neq.mp hc22
          refine ⟨(0 : Int32), ?_, fun t k => pre23 t ?_⟩
          · exact own_c0 (by omega)
          · skip
            show Steps p.tables e below (T18.setTop (mkF m 71 #[.val (.int p0), .val (.int p1), .val (.int p2), .val (.int (1 : Int32)), .val (.int bt0), .val (.int bt1), .val (.int bt2), .val (.int bt3), .val (.int bt4), .val (.int bt5), .val (.ref b18), .unset, .unset, .unset, .unset, .unset, .unset, .unset, .unset, .unset, .unset, .unset, .unset, .unset] [(.int (1 : Int32)), (.int bt0), (.int (0 : Int32)), (.ref b18)])) _
            refine XS.icmpYes X18.here hx rfl (pc0 := 71) (pc' := 78) rfl (hb hby at_71) rfl (feq hc22).2 (by decide) (by decide) ?_
            show Steps p.tables e below (T18.setTop (mkF m 78 #[.val (.int p0), .val (.int p1), .val (.int p2), .val (.int (1 : Int32)), .val (.int bt0), .val (.int bt1), .val (.int bt2), .val (.int bt3), .val (.int bt4), .val (.int bt5), .val (.ref b18), .unset, .unset, .unset, .unset, .unset, .unset, .unset, .unset, .unset, .unset, .unset, .unset, .unset] [(.int (0 : Int32)), (.ref b18)])) _
            refine XS.iconst X18.here hx rfl (hb hby at_78) ?_
            exact k
      obtain ⟨cl24, Ar24, q24, Sz24, Nn24, Hh24, Gg24⟩ := id V18
      have hin24 : ¬ ((0 : Int32) < 0 ∨ cl24.slots.size ≤ ((0 : Int32)).toNatClampNeg) := inb_of Sz24 ⟨by decide, by decide⟩
      obtain ⟨T25, h25, X25, e25, W25, st25⟩ := stZ X18 hx hZ e18 Ar24 (j := (0 : Int32)) hin24 (g := (mkF m 79 #[.val (.int p0), .val (.int p1), .val (.int p2), .val (.int (1 : Int32)), .val (.int bt0), .val (.int bt1), .val (.int bt2), .val (.int bt3), .val (.int bt4), .val (.int bt5), .val (.ref b18), .unset, .unset, .unset, .unset, .unset, .unset, .unset, .unset, .unset, .unset, .unset, .unset, .unset] [(.int (bI (bt0.toInt = 1))), (.int (0 : Int32)), (.ref b18)])) rfl rfl (hb hby at_79)
      have V25 : Arv Z h25 b18 k18 .boolean (1 : Int32) [(.int (nar .boolean (bI (bt0.toInt = 1))))] (.int (0 : Int32)) := Arv.set Ar24 q24 Sz24 Nn24 Hh24 Gg24 (fits_nar_bool _) W25 0 rfl (Nat.le_of_ble_eq_true rfl)
      have N25 := Fr.snoc X25 N7 g_b18
      have Z25 : n0 ≤ h25.size := Nat.le_trans Z18 (Keep.of_wr W25).1
      have K25 : Keep h0 h25 [] := K18.wr W25 (Or.inr sz_b18)
      have hc26 : ¬ ((1 : Int32) < (1 : Int32)) := by decide
      have hc27 : ¬ ((2 : Int32) < (1 : Int32)) := by decide
      have hc28 : ¬ ((3 : Int32) < (1 : Int32)) := by decide
      have hc29 : ¬ ((4 : Int32) < (1 : Int32)) := by decide
      have hc30 : ¬ ((5 : Int32) < (1 : Int32)) := by decide
      obtain ⟨cl31, Ar31, -, Sz31, -, Hh31, -⟩ := V25
      refine ⟨b18, cl31, T25, _, h25, X25.more (by decide) (by decide), e25, N25, Z25, K25, ⟨Ar31, Sz31, fun j hj => by
        have q := Hh31 j (by rw [Sz31]; exact hj)
        have hj' : j < 1 := hj
        obtain rfl : j = 0 := by omega
        exact q.trans (congrArg (fun z => some (Value.int z)) (own_nar (P := bt0.toInt = 1)))⟩, fun t k => pre21 t ?_⟩
      show Steps p.tables e below (T18.setTop (mkF m 79 #[.val (.int p0), .val (.int p1), .val (.int p2), .val (.int (1 : Int32)), .val (.int bt0), .val (.int bt1), .val (.int bt2), .val (.int bt3), .val (.int bt4), .val (.int bt5), .val (.ref b18), .unset, .unset, .unset, .unset, .unset, .unset, .unset, .unset, .unset, .unset, .unset, .unset, .unset] [(.int (bI (bt0.toInt = 1))), (.int (0 : Int32)), (.ref b18)])) _
      refine st25 _ ?_
      show Steps p.tables e below (T25.setTop (mkF m 80 #[.val (.int p0), .val (.int p1), .val (.int p2), .val (.int (1 : Int32)), .val (.int bt0), .val (.int bt1), .val (.int bt2), .val (.int bt3), .val (.int bt4), .val (.int bt5), .val (.ref b18), .unset, .unset, .unset, .unset, .unset, .unset, .unset, .unset, .unset, .unset, .unset, .unset, .unset] [])) _
      refine XS.iloadN X25.here hx rfl (hb hby at_80) rfl ?_
      show Steps p.tables e below (T25.setTop (mkF m 81 #[.val (.int p0), .val (.int p1), .val (.int p2), .val (.int (1 : Int32)), .val (.int bt0), .val (.int bt1), .val (.int bt2), .val (.int bt3), .val (.int bt4), .val (.int bt5), .val (.ref b18), .unset, .unset, .unset, .unset, .unset, .unset, .unset, .unset, .unset, .unset, .unset, .unset, .unset] [(.int (1 : Int32))])) _
      refine XS.iconst X25.here hx rfl (hb hby at_81) ?_
      show Steps p.tables e below (T25.setTop (mkF m 82 #[.val (.int p0), .val (.int p1), .val (.int p2), .val (.int (1 : Int32)), .val (.int bt0), .val (.int bt1), .val (.int bt2), .val (.int bt3), .val (.int bt4), .val (.int bt5), .val (.ref b18), .unset, .unset, .unset, .unset, .unset, .unset, .unset, .unset, .unset, .unset, .unset, .unset, .unset] [(.int (1 : Int32)), (.int (1 : Int32))])) _
      refine XS.icmpYes X25.here hx rfl (pc0 := 82) (pc' := 100) rfl (hb hby at_82) rfl (flt hc26).2.2.2 (by decide) (by decide) ?_
      show Steps p.tables e below (T25.setTop (mkF m 100 #[.val (.int p0), .val (.int p1), .val (.int p2), .val (.int (1 : Int32)), .val (.int bt0), .val (.int bt1), .val (.int bt2), .val (.int bt3), .val (.int bt4), .val (.int bt5), .val (.ref b18), .unset, .unset, .unset, .unset, .unset, .unset, .unset, .unset, .unset, .unset, .unset, .unset, .unset] [])) _
      refine XS.iloadN X25.here hx rfl (hb hby at_100) rfl ?_
      show Steps p.tables e below (T25.setTop (mkF m 101 #[.val (.int p0), .val (.int p1), .val (.int p2), .val (.int (1 : Int32)), .val (.int bt0), .val (.int bt1), .val (.int bt2), .val (.int bt3), .val (.int bt4), .val (.int bt5), .val (.ref b18), .unset, .unset, .unset, .unset, .unset, .unset, .unset, .unset, .unset, .unset, .unset, .unset, .unset] [(.int (1 : Int32))])) _
      refine XS.iconst X25.here hx rfl (hb hby at_101) ?_
      show Steps p.tables e below (T25.setTop (mkF m 102 #[.val (.int p0), .val (.int p1), .val (.int p2), .val (.int (1 : Int32)), .val (.int bt0), .val (.int bt1), .val (.int bt2), .val (.int bt3), .val (.int bt4), .val (.int bt5), .val (.ref b18), .unset, .unset, .unset, .unset, .unset, .unset, .unset, .unset, .unset, .unset, .unset, .unset, .unset] [(.int (2 : Int32)), (.int (1 : Int32))])) _
      refine XS.icmpYes X25.here hx rfl (pc0 := 102) (pc' := 120) rfl (hb hby at_102) rfl (flt hc27).2.2.2 (by decide) (by decide) ?_
      show Steps p.tables e below (T25.setTop (mkF m 120 #[.val (.int p0), .val (.int p1), .val (.int p2), .val (.int (1 : Int32)), .val (.int bt0), .val (.int bt1), .val (.int bt2), .val (.int bt3), .val (.int bt4), .val (.int bt5), .val (.ref b18), .unset, .unset, .unset, .unset, .unset, .unset, .unset, .unset, .unset, .unset, .unset, .unset, .unset] [])) _
      refine XS.iloadN X25.here hx rfl (hb hby at_120) rfl ?_
      show Steps p.tables e below (T25.setTop (mkF m 121 #[.val (.int p0), .val (.int p1), .val (.int p2), .val (.int (1 : Int32)), .val (.int bt0), .val (.int bt1), .val (.int bt2), .val (.int bt3), .val (.int bt4), .val (.int bt5), .val (.ref b18), .unset, .unset, .unset, .unset, .unset, .unset, .unset, .unset, .unset, .unset, .unset, .unset, .unset] [(.int (1 : Int32))])) _
      refine XS.iconst X25.here hx rfl (hb hby at_121) ?_
      show Steps p.tables e below (T25.setTop (mkF m 122 #[.val (.int p0), .val (.int p1), .val (.int p2), .val (.int (1 : Int32)), .val (.int bt0), .val (.int bt1), .val (.int bt2), .val (.int bt3), .val (.int bt4), .val (.int bt5), .val (.ref b18), .unset, .unset, .unset, .unset, .unset, .unset, .unset, .unset, .unset, .unset, .unset, .unset, .unset] [(.int (3 : Int32)), (.int (1 : Int32))])) _
      refine XS.icmpYes X25.here hx rfl (pc0 := 122) (pc' := 140) rfl (hb hby at_122) rfl (flt hc28).2.2.2 (by decide) (by decide) ?_
      show Steps p.tables e below (T25.setTop (mkF m 140 #[.val (.int p0), .val (.int p1), .val (.int p2), .val (.int (1 : Int32)), .val (.int bt0), .val (.int bt1), .val (.int bt2), .val (.int bt3), .val (.int bt4), .val (.int bt5), .val (.ref b18), .unset, .unset, .unset, .unset, .unset, .unset, .unset, .unset, .unset, .unset, .unset, .unset, .unset] [])) _
      refine XS.iloadN X25.here hx rfl (hb hby at_140) rfl ?_
      show Steps p.tables e below (T25.setTop (mkF m 141 #[.val (.int p0), .val (.int p1), .val (.int p2), .val (.int (1 : Int32)), .val (.int bt0), .val (.int bt1), .val (.int bt2), .val (.int bt3), .val (.int bt4), .val (.int bt5), .val (.ref b18), .unset, .unset, .unset, .unset, .unset, .unset, .unset, .unset, .unset, .unset, .unset, .unset, .unset] [(.int (1 : Int32))])) _
      refine XS.iconst X25.here hx rfl (hb hby at_141) ?_
      show Steps p.tables e below (T25.setTop (mkF m 142 #[.val (.int p0), .val (.int p1), .val (.int p2), .val (.int (1 : Int32)), .val (.int bt0), .val (.int bt1), .val (.int bt2), .val (.int bt3), .val (.int bt4), .val (.int bt5), .val (.ref b18), .unset, .unset, .unset, .unset, .unset, .unset, .unset, .unset, .unset, .unset, .unset, .unset, .unset] [(.int (4 : Int32)), (.int (1 : Int32))])) _
      refine XS.icmpYes X25.here hx rfl (pc0 := 142) (pc' := 160) rfl (hb hby at_142) rfl (flt hc29).2.2.2 (by decide) (by decide) ?_
      show Steps p.tables e below (T25.setTop (mkF m 160 #[.val (.int p0), .val (.int p1), .val (.int p2), .val (.int (1 : Int32)), .val (.int bt0), .val (.int bt1), .val (.int bt2), .val (.int bt3), .val (.int bt4), .val (.int bt5), .val (.ref b18), .unset, .unset, .unset, .unset, .unset, .unset, .unset, .unset, .unset, .unset, .unset, .unset, .unset] [])) _
      refine XS.iloadN X25.here hx rfl (hb hby at_160) rfl ?_
      show Steps p.tables e below (T25.setTop (mkF m 161 #[.val (.int p0), .val (.int p1), .val (.int p2), .val (.int (1 : Int32)), .val (.int bt0), .val (.int bt1), .val (.int bt2), .val (.int bt3), .val (.int bt4), .val (.int bt5), .val (.ref b18), .unset, .unset, .unset, .unset, .unset, .unset, .unset, .unset, .unset, .unset, .unset, .unset, .unset] [(.int (1 : Int32))])) _
      refine XS.iconst X25.here hx rfl (hb hby at_161) ?_
      show Steps p.tables e below (T25.setTop (mkF m 162 #[.val (.int p0), .val (.int p1), .val (.int p2), .val (.int (1 : Int32)), .val (.int bt0), .val (.int bt1), .val (.int bt2), .val (.int bt3), .val (.int bt4), .val (.int bt5), .val (.ref b18), .unset, .unset, .unset, .unset, .unset, .unset, .unset, .unset, .unset, .unset, .unset, .unset, .unset] [(.int (5 : Int32)), (.int (1 : Int32))])) _
      refine XS.icmpYes X25.here hx rfl (pc0 := 162) (pc' := 180) rfl (hb hby at_162) rfl (flt hc30).2.2.2 (by decide) (by decide) ?_
      exact k
    · skip
      obtain rfl : ln = (2 : Int32) := own_eq.mpr hk_ln
      obtain ⟨T32, h32, k32, X32, e32, E32, A32, st32⟩ := newP X7 hx hZ (hw _ (List.mem_of_getElem? (i := 5) rfl)) e7 (g := (mkF m 57 #[.val (.int p0), .val (.int p1), .val (.int p2), .val (.int (2 : Int32)), .val (.int bt0), .val (.int bt1), .val (.int bt2), .val (.int bt3), .val (.int bt4), .val (.int bt5), .unset, .unset, .unset, .unset, .unset, .unset, .unset, .unset, .unset, .unset, .unset, .unset, .unset, .unset] [(.int (2 : Int32))])) rfl (hb hby at_57) rfl (by decide) (cap := 2) (by decide) (by decide) (by decide) (by decide)
      obtain ⟨b32, g32⟩ : ∃ z, z = h0.size := ⟨_, rfl⟩
      rw [← g32] at A32 st32
      have g_b32 : n0 ≤ b32 := Nat.le_trans Z0 (Nat.le_of_eq g32.symm)
      skip
      have Z32 : n0 ≤ h32.size := Nat.le_trans Z0 E32.1
      have K32 : Keep h0 h32 [] := KR.ext E32
      have sz_b32 : h0.size ≤ b32 := Nat.le_trans KR.1 (Nat.le_of_eq g32.symm)
      have V32 : Arv Z h32 b32 k32 .boolean (2 : Int32) [(.int (0 : Int32)), (.int (0 : Int32))] (.int (0 : Int32)) := (Arv.new A32 (by decide)).pad (pad_rep [] (.int (0 : Int32)) 2)
      have hc33 : (0 : Int32) < (2 : Int32) := by decide
      have pre34 : ∀ t, Steps p.tables e below (T32.setTop (mkF m 68 #[.val (.int p0), .val (.int p1), .val (.int p2), .val (.int (2 : Int32)), .val (.int bt0), .val (.int bt1), .val (.int bt2), .val (.int bt3), .val (.int bt4), .val (.int bt5), .val (.ref b32), .unset, .unset, .unset, .unset, .unset, .unset, .unset, .unset, .unset, .unset, .unset, .unset, .unset] [(.int (0 : Int32)), (.ref b32)])) t → Steps p.tables e below (s₁.setTop (mkF m 0 #[.val (.int p0), .val (.int p1), .val (.int p2), .unset, .unset, .unset, .unset, .unset, .unset, .unset, .unset, .unset, .unset, .unset, .unset, .unset, .unset, .unset, .unset, .unset, .unset, .unset, .unset, .unset] [])) t := fun t k => pre8 t (by
        show Steps p.tables e below (T7.setTop (mkF m 56 #[.val (.int p0), .val (.int p1), .val (.int p2), .val (.int (2 : Int32)), .val (.int bt0), .val (.int bt1), .val (.int bt2), .val (.int bt3), .val (.int bt4), .val (.int bt5), .unset, .unset, .unset, .unset, .unset, .unset, .unset, .unset, .unset, .unset, .unset, .unset, .unset, .unset] [])) _
        refine XS.iloadN X7.here hx rfl (hb hby at_56) rfl ?_
        show Steps p.tables e below (T7.setTop (mkF m 57 #[.val (.int p0), .val (.int p1), .val (.int p2), .val (.int (2 : Int32)), .val (.int bt0), .val (.int bt1), .val (.int bt2), .val (.int bt3), .val (.int bt4), .val (.int bt5), .unset, .unset, .unset, .unset, .unset, .unset, .unset, .unset, .unset, .unset, .unset, .unset, .unset, .unset] [(.int (2 : Int32))])) _
        refine st32 _ ?_
        show Steps p.tables e below (T32.setTop (mkF m 59 #[.val (.int p0), .val (.int p1), .val (.int p2), .val (.int (2 : Int32)), .val (.int bt0), .val (.int bt1), .val (.int bt2), .val (.int bt3), .val (.int bt4), .val (.int bt5), .unset, .unset, .unset, .unset, .unset, .unset, .unset, .unset, .unset, .unset, .unset, .unset, .unset, .unset] [(.ref b32)])) _
        refine XS.astore X32.here hx rfl (hb hby at_59) rfl rfl (l' := #[.val (.int p0), .val (.int p1), .val (.int p2), .val (.int (2 : Int32)), .val (.int bt0), .val (.int bt1), .val (.int bt2), .val (.int bt3), .val (.int bt4), .val (.int bt5), .val (.ref b32), .unset, .unset, .unset, .unset, .unset, .unset, .unset, .unset, .unset, .unset, .unset, .unset, .unset]) rfl ?_
        show Steps p.tables e below (T32.setTop (mkF m 61 #[.val (.int p0), .val (.int p1), .val (.int p2), .val (.int (2 : Int32)), .val (.int bt0), .val (.int bt1), .val (.int bt2), .val (.int bt3), .val (.int bt4), .val (.int bt5), .val (.ref b32), .unset, .unset, .unset, .unset, .unset, .unset, .unset, .unset, .unset, .unset, .unset, .unset, .unset] [])) _
        refine XS.iloadN X32.here hx rfl (hb hby at_61) rfl ?_
        show Steps p.tables e below (T32.setTop (mkF m 62 #[.val (.int p0), .val (.int p1), .val (.int p2), .val (.int (2 : Int32)), .val (.int bt0), .val (.int bt1), .val (.int bt2), .val (.int bt3), .val (.int bt4), .val (.int bt5), .val (.ref b32), .unset, .unset, .unset, .unset, .unset, .unset, .unset, .unset, .unset, .unset, .unset, .unset, .unset] [(.int (2 : Int32))])) _
        refine XS.ifNo X32.here hx rfl (hb hby at_62) rfl ((if0 _ _).trans (tlt hc33).2.2.2) ?_
        show Steps p.tables e below (T32.setTop (mkF m 65 #[.val (.int p0), .val (.int p1), .val (.int p2), .val (.int (2 : Int32)), .val (.int bt0), .val (.int bt1), .val (.int bt2), .val (.int bt3), .val (.int bt4), .val (.int bt5), .val (.ref b32), .unset, .unset, .unset, .unset, .unset, .unset, .unset, .unset, .unset, .unset, .unset, .unset, .unset] [])) _
        refine XS.aload X32.here hx rfl (hb hby at_65) rfl rfl ?_
        show Steps p.tables e below (T32.setTop (mkF m 67 #[.val (.int p0), .val (.int p1), .val (.int p2), .val (.int (2 : Int32)), .val (.int bt0), .val (.int bt1), .val (.int bt2), .val (.int bt3), .val (.int bt4), .val (.int bt5), .val (.ref b32), .unset, .unset, .unset, .unset, .unset, .unset, .unset, .unset, .unset, .unset, .unset, .unset, .unset] [(.ref b32)])) _
        refine XS.iconst X32.here hx rfl (hb hby at_67) ?_
        exact k)
      obtain ⟨v0, rfl, pre35⟩ : ∃ (v0 : Int32), (v0 = bI (bt0.toInt = 1)) ∧ ∀ t, Steps p.tables e below (T32.setTop (mkF m 79 #[.val (.int p0), .val (.int p1), .val (.int p2), .val (.int (2 : Int32)), .val (.int bt0), .val (.int bt1), .val (.int bt2), .val (.int bt3), .val (.int bt4), .val (.int bt5), .val (.ref b32), .unset, .unset, .unset, .unset, .unset, .unset, .unset, .unset, .unset, .unset, .unset, .unset, .unset] [(.int v0), (.int (0 : Int32)), (.ref b32)])) t → Steps p.tables e below (s₁.setTop (mkF m 0 #[.val (.int p0), .val (.int p1), .val (.int p2), .unset, .unset, .unset, .unset, .unset, .unset, .unset, .unset, .unset, .unset, .unset, .unset, .unset, .unset, .unset, .unset, .unset, .unset, .unset, .unset, .unset] [])) t := by
        have pre37 : ∀ t, Steps p.tables e below (T32.setTop (mkF m 71 #[.val (.int p0), .val (.int p1), .val (.int p2), .val (.int (2 : Int32)), .val (.int bt0), .val (.int bt1), .val (.int bt2), .val (.int bt3), .val (.int bt4), .val (.int bt5), .val (.ref b32), .unset, .unset, .unset, .unset, .unset, .unset, .unset, .unset, .unset, .unset, .unset, .unset, .unset] [(.int (1 : Int32)), (.int bt0), (.int (0 : Int32)), (.ref b32)])) t → Steps p.tables e below (s₁.setTop (mkF m 0 #[.val (.int p0), .val (.int p1), .val (.int p2), .unset, .unset, .unset, .unset, .unset, .unset, .unset, .unset, .unset, .unset, .unset, .unset, .unset, .unset, .unset, .unset, .unset, .unset, .unset, .unset, .unset] [])) t := fun t k => pre34 t (by
          show Steps p.tables e below (T32.setTop (mkF m 68 #[.val (.int p0), .val (.int p1), .val (.int p2), .val (.int (2 : Int32)), .val (.int bt0), .val (.int bt1), .val (.int bt2), .val (.int bt3), .val (.int bt4), .val (.int bt5), .val (.ref b32), .unset, .unset, .unset, .unset, .unset, .unset, .unset, .unset, .unset, .unset, .unset, .unset, .unset] [(.int (0 : Int32)), (.ref b32)])) _
          refine XS.iload X32.here hx rfl (hb hby at_68) rfl ?_
          show Steps p.tables e below (T32.setTop (mkF m 70 #[.val (.int p0), .val (.int p1), .val (.int p2), .val (.int (2 : Int32)), .val (.int bt0), .val (.int bt1), .val (.int bt2), .val (.int bt3), .val (.int bt4), .val (.int bt5), .val (.ref b32), .unset, .unset, .unset, .unset, .unset, .unset, .unset, .unset, .unset, .unset, .unset, .unset, .unset] [(.int bt0), (.int (0 : Int32)), (.ref b32)])) _
          refine XS.iconst X32.here hx rfl (hb hby at_70) ?_
          exact k)
        by_cases hc36 : bt0 = (1 : Int32)
        · skip
          have ohc36 : bt0.toInt = 1 := own_eq.mp hc36
          refine ⟨(1 : Int32), ?_, fun t k => pre37 t ?_⟩
          · exact own_c1 (by omega)
          · skip
            show Steps p.tables e below (T32.setTop (mkF m 71 #[.val (.int p0), .val (.int p1), .val (.int p2), .val (.int (2 : Int32)), .val (.int bt0), .val (.int bt1), .val (.int bt2), .val (.int bt3), .val (.int bt4), .val (.int bt5), .val (.ref b32), .unset, .unset, .unset, .unset, .unset, .unset, .unset, .unset, .unset, .unset, .unset, .unset, .unset] [(.int (1 : Int32)), (.int bt0), (.int (0 : Int32)), (.ref b32)])) _
            refine XS.icmpNo X32.here hx rfl (hb hby at_71) rfl (teq hc36).2 ?_
            show Steps p.tables e below (T32.setTop (mkF m 74 #[.val (.int p0), .val (.int p1), .val (.int p2), .val (.int (2 : Int32)), .val (.int bt0), .val (.int bt1), .val (.int bt2), .val (.int bt3), .val (.int bt4), .val (.int bt5), .val (.ref b32), .unset, .unset, .unset, .unset, .unset, .unset, .unset, .unset, .unset, .unset, .unset, .unset, .unset] [(.int (0 : Int32)), (.ref b32)])) _
            refine XS.iconst X32.here hx rfl (hb hby at_74) ?_
            show Steps p.tables e below (T32.setTop (mkF m 75 #[.val (.int p0), .val (.int p1), .val (.int p2), .val (.int (2 : Int32)), .val (.int bt0), .val (.int bt1), .val (.int bt2), .val (.int bt3), .val (.int bt4), .val (.int bt5), .val (.ref b32), .unset, .unset, .unset, .unset, .unset, .unset, .unset, .unset, .unset, .unset, .unset, .unset, .unset] [(.int (1 : Int32)), (.int (0 : Int32)), (.ref b32)])) _
            refine XS.goto X32.here hx rfl (pc0 := 75) (pc' := 79) rfl (hb hby at_75) (by decide) (by decide) ?_
            exact k
        · skip
          have ohc36 : ¬ (bt0.toInt = 1) := own_neq.mp hc36
          refine ⟨(0 : Int32), ?_, fun t k => pre37 t ?_⟩
          · exact own_c0 (by omega)
          · skip
            show Steps p.tables e below (T32.setTop (mkF m 71 #[.val (.int p0), .val (.int p1), .val (.int p2), .val (.int (2 : Int32)), .val (.int bt0), .val (.int bt1), .val (.int bt2), .val (.int bt3), .val (.int bt4), .val (.int bt5), .val (.ref b32), .unset, .unset, .unset, .unset, .unset, .unset, .unset, .unset, .unset, .unset, .unset, .unset, .unset] [(.int (1 : Int32)), (.int bt0), (.int (0 : Int32)), (.ref b32)])) _
            refine XS.icmpYes X32.here hx rfl (pc0 := 71) (pc' := 78) rfl (hb hby at_71) rfl (feq hc36).2 (by decide) (by decide) ?_
            show Steps p.tables e below (T32.setTop (mkF m 78 #[.val (.int p0), .val (.int p1), .val (.int p2), .val (.int (2 : Int32)), .val (.int bt0), .val (.int bt1), .val (.int bt2), .val (.int bt3), .val (.int bt4), .val (.int bt5), .val (.ref b32), .unset, .unset, .unset, .unset, .unset, .unset, .unset, .unset, .unset, .unset, .unset, .unset, .unset] [(.int (0 : Int32)), (.ref b32)])) _
            refine XS.iconst X32.here hx rfl (hb hby at_78) ?_
            exact k
      obtain ⟨cl38, Ar38, q38, Sz38, Nn38, Hh38, Gg38⟩ := id V32
      have hin38 : ¬ ((0 : Int32) < 0 ∨ cl38.slots.size ≤ ((0 : Int32)).toNatClampNeg) := inb_of Sz38 ⟨by decide, by decide⟩
      obtain ⟨T39, h39, X39, e39, W39, st39⟩ := stZ X32 hx hZ e32 Ar38 (j := (0 : Int32)) hin38 (g := (mkF m 79 #[.val (.int p0), .val (.int p1), .val (.int p2), .val (.int (2 : Int32)), .val (.int bt0), .val (.int bt1), .val (.int bt2), .val (.int bt3), .val (.int bt4), .val (.int bt5), .val (.ref b32), .unset, .unset, .unset, .unset, .unset, .unset, .unset, .unset, .unset, .unset, .unset, .unset, .unset] [(.int (bI (bt0.toInt = 1))), (.int (0 : Int32)), (.ref b32)])) rfl rfl (hb hby at_79)
      have V39 : Arv Z h39 b32 k32 .boolean (2 : Int32) [(.int (nar .boolean (bI (bt0.toInt = 1)))), (.int (0 : Int32))] (.int (0 : Int32)) := Arv.set Ar38 q38 Sz38 Nn38 Hh38 Gg38 (fits_nar_bool _) W39 0 rfl (Nat.le_of_ble_eq_true rfl)
      have N39 := Fr.snoc X39 N7 g_b32
      have Z39 : n0 ≤ h39.size := Nat.le_trans Z32 (Keep.of_wr W39).1
      have K39 : Keep h0 h39 [] := K32.wr W39 (Or.inr sz_b32)
      have hc40 : (1 : Int32) < (2 : Int32) := by decide
      have pre41 : ∀ t, Steps p.tables e below (T39.setTop (mkF m 88 #[.val (.int p0), .val (.int p1), .val (.int p2), .val (.int (2 : Int32)), .val (.int bt0), .val (.int bt1), .val (.int bt2), .val (.int bt3), .val (.int bt4), .val (.int bt5), .val (.ref b32), .unset, .unset, .unset, .unset, .unset, .unset, .unset, .unset, .unset, .unset, .unset, .unset, .unset] [(.int (1 : Int32)), (.ref b32)])) t → Steps p.tables e below (s₁.setTop (mkF m 0 #[.val (.int p0), .val (.int p1), .val (.int p2), .unset, .unset, .unset, .unset, .unset, .unset, .unset, .unset, .unset, .unset, .unset, .unset, .unset, .unset, .unset, .unset, .unset, .unset, .unset, .unset, .unset] [])) t := fun t k => pre35 t (by
        show Steps p.tables e below (T32.setTop (mkF m 79 #[.val (.int p0), .val (.int p1), .val (.int p2), .val (.int (2 : Int32)), .val (.int bt0), .val (.int bt1), .val (.int bt2), .val (.int bt3), .val (.int bt4), .val (.int bt5), .val (.ref b32), .unset, .unset, .unset, .unset, .unset, .unset, .unset, .unset, .unset, .unset, .unset, .unset, .unset] [(.int (bI (bt0.toInt = 1))), (.int (0 : Int32)), (.ref b32)])) _
        refine st39 _ ?_
        show Steps p.tables e below (T39.setTop (mkF m 80 #[.val (.int p0), .val (.int p1), .val (.int p2), .val (.int (2 : Int32)), .val (.int bt0), .val (.int bt1), .val (.int bt2), .val (.int bt3), .val (.int bt4), .val (.int bt5), .val (.ref b32), .unset, .unset, .unset, .unset, .unset, .unset, .unset, .unset, .unset, .unset, .unset, .unset, .unset] [])) _
        refine XS.iloadN X39.here hx rfl (hb hby at_80) rfl ?_
        show Steps p.tables e below (T39.setTop (mkF m 81 #[.val (.int p0), .val (.int p1), .val (.int p2), .val (.int (2 : Int32)), .val (.int bt0), .val (.int bt1), .val (.int bt2), .val (.int bt3), .val (.int bt4), .val (.int bt5), .val (.ref b32), .unset, .unset, .unset, .unset, .unset, .unset, .unset, .unset, .unset, .unset, .unset, .unset, .unset] [(.int (2 : Int32))])) _
        refine XS.iconst X39.here hx rfl (hb hby at_81) ?_
        show Steps p.tables e below (T39.setTop (mkF m 82 #[.val (.int p0), .val (.int p1), .val (.int p2), .val (.int (2 : Int32)), .val (.int bt0), .val (.int bt1), .val (.int bt2), .val (.int bt3), .val (.int bt4), .val (.int bt5), .val (.ref b32), .unset, .unset, .unset, .unset, .unset, .unset, .unset, .unset, .unset, .unset, .unset, .unset, .unset] [(.int (1 : Int32)), (.int (2 : Int32))])) _
        refine XS.icmpNo X39.here hx rfl (hb hby at_82) rfl (tlt hc40).2.2.2 ?_
        show Steps p.tables e below (T39.setTop (mkF m 85 #[.val (.int p0), .val (.int p1), .val (.int p2), .val (.int (2 : Int32)), .val (.int bt0), .val (.int bt1), .val (.int bt2), .val (.int bt3), .val (.int bt4), .val (.int bt5), .val (.ref b32), .unset, .unset, .unset, .unset, .unset, .unset, .unset, .unset, .unset, .unset, .unset, .unset, .unset] [])) _
        refine XS.aload X39.here hx rfl (hb hby at_85) rfl rfl ?_
        show Steps p.tables e below (T39.setTop (mkF m 87 #[.val (.int p0), .val (.int p1), .val (.int p2), .val (.int (2 : Int32)), .val (.int bt0), .val (.int bt1), .val (.int bt2), .val (.int bt3), .val (.int bt4), .val (.int bt5), .val (.ref b32), .unset, .unset, .unset, .unset, .unset, .unset, .unset, .unset, .unset, .unset, .unset, .unset, .unset] [(.ref b32)])) _
        refine XS.iconst X39.here hx rfl (hb hby at_87) ?_
        exact k)
      obtain ⟨v1, rfl, pre42⟩ : ∃ (v1 : Int32), (v1 = bI (bt1.toInt = 1)) ∧ ∀ t, Steps p.tables e below (T39.setTop (mkF m 99 #[.val (.int p0), .val (.int p1), .val (.int p2), .val (.int (2 : Int32)), .val (.int bt0), .val (.int bt1), .val (.int bt2), .val (.int bt3), .val (.int bt4), .val (.int bt5), .val (.ref b32), .unset, .unset, .unset, .unset, .unset, .unset, .unset, .unset, .unset, .unset, .unset, .unset, .unset] [(.int v1), (.int (1 : Int32)), (.ref b32)])) t → Steps p.tables e below (s₁.setTop (mkF m 0 #[.val (.int p0), .val (.int p1), .val (.int p2), .unset, .unset, .unset, .unset, .unset, .unset, .unset, .unset, .unset, .unset, .unset, .unset, .unset, .unset, .unset, .unset, .unset, .unset, .unset, .unset, .unset] [])) t := by
        have pre44 : ∀ t, Steps p.tables e below (T39.setTop (mkF m 91 #[.val (.int p0), .val (.int p1), .val (.int p2), .val (.int (2 : Int32)), .val (.int bt0), .val (.int bt1), .val (.int bt2), .val (.int bt3), .val (.int bt4), .val (.int bt5), .val (.ref b32), .unset, .unset, .unset, .unset, .unset, .unset, .unset, .unset, .unset, .unset, .unset, .unset, .unset] [(.int (1 : Int32)), (.int bt1), (.int (1 : Int32)), (.ref b32)])) t → Steps p.tables e below (s₁.setTop (mkF m 0 #[.val (.int p0), .val (.int p1), .val (.int p2), .unset, .unset, .unset, .unset, .unset, .unset, .unset, .unset, .unset, .unset, .unset, .unset, .unset, .unset, .unset, .unset, .unset, .unset, .unset, .unset, .unset] [])) t := fun t k => pre41 t (by
          show Steps p.tables e below (T39.setTop (mkF m 88 #[.val (.int p0), .val (.int p1), .val (.int p2), .val (.int (2 : Int32)), .val (.int bt0), .val (.int bt1), .val (.int bt2), .val (.int bt3), .val (.int bt4), .val (.int bt5), .val (.ref b32), .unset, .unset, .unset, .unset, .unset, .unset, .unset, .unset, .unset, .unset, .unset, .unset, .unset] [(.int (1 : Int32)), (.ref b32)])) _
          refine XS.iload X39.here hx rfl (hb hby at_88) rfl ?_
          show Steps p.tables e below (T39.setTop (mkF m 90 #[.val (.int p0), .val (.int p1), .val (.int p2), .val (.int (2 : Int32)), .val (.int bt0), .val (.int bt1), .val (.int bt2), .val (.int bt3), .val (.int bt4), .val (.int bt5), .val (.ref b32), .unset, .unset, .unset, .unset, .unset, .unset, .unset, .unset, .unset, .unset, .unset, .unset, .unset] [(.int bt1), (.int (1 : Int32)), (.ref b32)])) _
          refine XS.iconst X39.here hx rfl (hb hby at_90) ?_
          exact k)
        by_cases hc43 : bt1 = (1 : Int32)
        · skip
          have ohc43 : bt1.toInt = 1 := own_eq.mp hc43
          refine ⟨(1 : Int32), ?_, fun t k => pre44 t ?_⟩
          · exact own_c1 (by omega)
          · skip
            show Steps p.tables e below (T39.setTop (mkF m 91 #[.val (.int p0), .val (.int p1), .val (.int p2), .val (.int (2 : Int32)), .val (.int bt0), .val (.int bt1), .val (.int bt2), .val (.int bt3), .val (.int bt4), .val (.int bt5), .val (.ref b32), .unset, .unset, .unset, .unset, .unset, .unset, .unset, .unset, .unset, .unset, .unset, .unset, .unset] [(.int (1 : Int32)), (.int bt1), (.int (1 : Int32)), (.ref b32)])) _
            refine XS.icmpNo X39.here hx rfl (hb hby at_91) rfl (teq hc43).2 ?_
            show Steps p.tables e below (T39.setTop (mkF m 94 #[.val (.int p0), .val (.int p1), .val (.int p2), .val (.int (2 : Int32)), .val (.int bt0), .val (.int bt1), .val (.int bt2), .val (.int bt3), .val (.int bt4), .val (.int bt5), .val (.ref b32), .unset, .unset, .unset, .unset, .unset, .unset, .unset, .unset, .unset, .unset, .unset, .unset, .unset] [(.int (1 : Int32)), (.ref b32)])) _
            refine XS.iconst X39.here hx rfl (hb hby at_94) ?_
            show Steps p.tables e below (T39.setTop (mkF m 95 #[.val (.int p0), .val (.int p1), .val (.int p2), .val (.int (2 : Int32)), .val (.int bt0), .val (.int bt1), .val (.int bt2), .val (.int bt3), .val (.int bt4), .val (.int bt5), .val (.ref b32), .unset, .unset, .unset, .unset, .unset, .unset, .unset, .unset, .unset, .unset, .unset, .unset, .unset] [(.int (1 : Int32)), (.int (1 : Int32)), (.ref b32)])) _
            refine XS.goto X39.here hx rfl (pc0 := 95) (pc' := 99) rfl (hb hby at_95) (by decide) (by decide) ?_
            exact k
        · skip
          have ohc43 : ¬ (bt1.toInt = 1) := own_neq.mp hc43
          refine ⟨(0 : Int32), ?_, fun t k => pre44 t ?_⟩
          · exact own_c0 (by omega)
          · skip
            show Steps p.tables e below (T39.setTop (mkF m 91 #[.val (.int p0), .val (.int p1), .val (.int p2), .val (.int (2 : Int32)), .val (.int bt0), .val (.int bt1), .val (.int bt2), .val (.int bt3), .val (.int bt4), .val (.int bt5), .val (.ref b32), .unset, .unset, .unset, .unset, .unset, .unset, .unset, .unset, .unset, .unset, .unset, .unset, .unset] [(.int (1 : Int32)), (.int bt1), (.int (1 : Int32)), (.ref b32)])) _
            refine XS.icmpYes X39.here hx rfl (pc0 := 91) (pc' := 98) rfl (hb hby at_91) rfl (feq hc43).2 (by decide) (by decide) ?_
            show Steps p.tables e below (T39.setTop (mkF m 98 #[.val (.int p0), .val (.int p1), .val (.int p2), .val (.int (2 : Int32)), .val (.int bt0), .val (.int bt1), .val (.int bt2), .val (.int bt3), .val (.int bt4), .val (.int bt5), .val (.ref b32), .unset, .unset, .unset, .unset, .unset, .unset, .unset, .unset, .unset, .unset, .unset, .unset, .unset] [(.int (1 : Int32)), (.ref b32)])) _
            refine XS.iconst X39.here hx rfl (hb hby at_98) ?_
            exact k
      obtain ⟨cl45, Ar45, q45, Sz45, Nn45, Hh45, Gg45⟩ := id V39
      have hin45 : ¬ ((1 : Int32) < 0 ∨ cl45.slots.size ≤ ((1 : Int32)).toNatClampNeg) := inb_of Sz45 ⟨by decide, by decide⟩
      obtain ⟨T46, h46, X46, e46, W46, st46⟩ := stZ X39 hx hZ e39 Ar45 (j := (1 : Int32)) hin45 (g := (mkF m 99 #[.val (.int p0), .val (.int p1), .val (.int p2), .val (.int (2 : Int32)), .val (.int bt0), .val (.int bt1), .val (.int bt2), .val (.int bt3), .val (.int bt4), .val (.int bt5), .val (.ref b32), .unset, .unset, .unset, .unset, .unset, .unset, .unset, .unset, .unset, .unset, .unset, .unset, .unset] [(.int (bI (bt1.toInt = 1))), (.int (1 : Int32)), (.ref b32)])) rfl rfl (hb hby at_99)
      have V46 : Arv Z h46 b32 k32 .boolean (2 : Int32) [(.int (nar .boolean (bI (bt0.toInt = 1)))), (.int (nar .boolean (bI (bt1.toInt = 1))))] (.int (0 : Int32)) := Arv.set Ar45 q45 Sz45 Nn45 Hh45 Gg45 (fits_nar_bool _) W46 1 rfl (Nat.le_of_ble_eq_true rfl)
      have N46 := Fr.snoc X46 N39 g_b32
      have Z46 : n0 ≤ h46.size := Nat.le_trans Z39 (Keep.of_wr W46).1
      have K46 : Keep h0 h46 [] := K39.wr W46 (Or.inr sz_b32)
      have hc47 : ¬ ((2 : Int32) < (2 : Int32)) := by decide
      have hc48 : ¬ ((3 : Int32) < (2 : Int32)) := by decide
      have hc49 : ¬ ((4 : Int32) < (2 : Int32)) := by decide
      have hc50 : ¬ ((5 : Int32) < (2 : Int32)) := by decide
      obtain ⟨cl51, Ar51, -, Sz51, -, Hh51, -⟩ := V46
      refine ⟨b32, cl51, T46, _, h46, X46.more (by decide) (by decide), e46, N46, Z46, K46, ⟨Ar51, Sz51, fun j hj => by
        have q := Hh51 j (by rw [Sz51]; exact hj)
        have hj' : j < 2 := hj
        rcases (show j = 0 ∨ j = 1 by omega) with rfl | rfl
        · exact q.trans (congrArg (fun z => some (Value.int z)) (own_nar (P := bt0.toInt = 1)))
        · exact q.trans (congrArg (fun z => some (Value.int z)) (own_nar (P := bt1.toInt = 1)))⟩, fun t k => pre42 t ?_⟩
      show Steps p.tables e below (T39.setTop (mkF m 99 #[.val (.int p0), .val (.int p1), .val (.int p2), .val (.int (2 : Int32)), .val (.int bt0), .val (.int bt1), .val (.int bt2), .val (.int bt3), .val (.int bt4), .val (.int bt5), .val (.ref b32), .unset, .unset, .unset, .unset, .unset, .unset, .unset, .unset, .unset, .unset, .unset, .unset, .unset] [(.int (bI (bt1.toInt = 1))), (.int (1 : Int32)), (.ref b32)])) _
      refine st46 _ ?_
      show Steps p.tables e below (T46.setTop (mkF m 100 #[.val (.int p0), .val (.int p1), .val (.int p2), .val (.int (2 : Int32)), .val (.int bt0), .val (.int bt1), .val (.int bt2), .val (.int bt3), .val (.int bt4), .val (.int bt5), .val (.ref b32), .unset, .unset, .unset, .unset, .unset, .unset, .unset, .unset, .unset, .unset, .unset, .unset, .unset] [])) _
      refine XS.iloadN X46.here hx rfl (hb hby at_100) rfl ?_
      show Steps p.tables e below (T46.setTop (mkF m 101 #[.val (.int p0), .val (.int p1), .val (.int p2), .val (.int (2 : Int32)), .val (.int bt0), .val (.int bt1), .val (.int bt2), .val (.int bt3), .val (.int bt4), .val (.int bt5), .val (.ref b32), .unset, .unset, .unset, .unset, .unset, .unset, .unset, .unset, .unset, .unset, .unset, .unset, .unset] [(.int (2 : Int32))])) _
      refine XS.iconst X46.here hx rfl (hb hby at_101) ?_
      show Steps p.tables e below (T46.setTop (mkF m 102 #[.val (.int p0), .val (.int p1), .val (.int p2), .val (.int (2 : Int32)), .val (.int bt0), .val (.int bt1), .val (.int bt2), .val (.int bt3), .val (.int bt4), .val (.int bt5), .val (.ref b32), .unset, .unset, .unset, .unset, .unset, .unset, .unset, .unset, .unset, .unset, .unset, .unset, .unset] [(.int (2 : Int32)), (.int (2 : Int32))])) _
      refine XS.icmpYes X46.here hx rfl (pc0 := 102) (pc' := 120) rfl (hb hby at_102) rfl (flt hc47).2.2.2 (by decide) (by decide) ?_
      show Steps p.tables e below (T46.setTop (mkF m 120 #[.val (.int p0), .val (.int p1), .val (.int p2), .val (.int (2 : Int32)), .val (.int bt0), .val (.int bt1), .val (.int bt2), .val (.int bt3), .val (.int bt4), .val (.int bt5), .val (.ref b32), .unset, .unset, .unset, .unset, .unset, .unset, .unset, .unset, .unset, .unset, .unset, .unset, .unset] [])) _
      refine XS.iloadN X46.here hx rfl (hb hby at_120) rfl ?_
      show Steps p.tables e below (T46.setTop (mkF m 121 #[.val (.int p0), .val (.int p1), .val (.int p2), .val (.int (2 : Int32)), .val (.int bt0), .val (.int bt1), .val (.int bt2), .val (.int bt3), .val (.int bt4), .val (.int bt5), .val (.ref b32), .unset, .unset, .unset, .unset, .unset, .unset, .unset, .unset, .unset, .unset, .unset, .unset, .unset] [(.int (2 : Int32))])) _
      refine XS.iconst X46.here hx rfl (hb hby at_121) ?_
      show Steps p.tables e below (T46.setTop (mkF m 122 #[.val (.int p0), .val (.int p1), .val (.int p2), .val (.int (2 : Int32)), .val (.int bt0), .val (.int bt1), .val (.int bt2), .val (.int bt3), .val (.int bt4), .val (.int bt5), .val (.ref b32), .unset, .unset, .unset, .unset, .unset, .unset, .unset, .unset, .unset, .unset, .unset, .unset, .unset] [(.int (3 : Int32)), (.int (2 : Int32))])) _
      refine XS.icmpYes X46.here hx rfl (pc0 := 122) (pc' := 140) rfl (hb hby at_122) rfl (flt hc48).2.2.2 (by decide) (by decide) ?_
      show Steps p.tables e below (T46.setTop (mkF m 140 #[.val (.int p0), .val (.int p1), .val (.int p2), .val (.int (2 : Int32)), .val (.int bt0), .val (.int bt1), .val (.int bt2), .val (.int bt3), .val (.int bt4), .val (.int bt5), .val (.ref b32), .unset, .unset, .unset, .unset, .unset, .unset, .unset, .unset, .unset, .unset, .unset, .unset, .unset] [])) _
      refine XS.iloadN X46.here hx rfl (hb hby at_140) rfl ?_
      show Steps p.tables e below (T46.setTop (mkF m 141 #[.val (.int p0), .val (.int p1), .val (.int p2), .val (.int (2 : Int32)), .val (.int bt0), .val (.int bt1), .val (.int bt2), .val (.int bt3), .val (.int bt4), .val (.int bt5), .val (.ref b32), .unset, .unset, .unset, .unset, .unset, .unset, .unset, .unset, .unset, .unset, .unset, .unset, .unset] [(.int (2 : Int32))])) _
      refine XS.iconst X46.here hx rfl (hb hby at_141) ?_
      show Steps p.tables e below (T46.setTop (mkF m 142 #[.val (.int p0), .val (.int p1), .val (.int p2), .val (.int (2 : Int32)), .val (.int bt0), .val (.int bt1), .val (.int bt2), .val (.int bt3), .val (.int bt4), .val (.int bt5), .val (.ref b32), .unset, .unset, .unset, .unset, .unset, .unset, .unset, .unset, .unset, .unset, .unset, .unset, .unset] [(.int (4 : Int32)), (.int (2 : Int32))])) _
      refine XS.icmpYes X46.here hx rfl (pc0 := 142) (pc' := 160) rfl (hb hby at_142) rfl (flt hc49).2.2.2 (by decide) (by decide) ?_
      show Steps p.tables e below (T46.setTop (mkF m 160 #[.val (.int p0), .val (.int p1), .val (.int p2), .val (.int (2 : Int32)), .val (.int bt0), .val (.int bt1), .val (.int bt2), .val (.int bt3), .val (.int bt4), .val (.int bt5), .val (.ref b32), .unset, .unset, .unset, .unset, .unset, .unset, .unset, .unset, .unset, .unset, .unset, .unset, .unset] [])) _
      refine XS.iloadN X46.here hx rfl (hb hby at_160) rfl ?_
      show Steps p.tables e below (T46.setTop (mkF m 161 #[.val (.int p0), .val (.int p1), .val (.int p2), .val (.int (2 : Int32)), .val (.int bt0), .val (.int bt1), .val (.int bt2), .val (.int bt3), .val (.int bt4), .val (.int bt5), .val (.ref b32), .unset, .unset, .unset, .unset, .unset, .unset, .unset, .unset, .unset, .unset, .unset, .unset, .unset] [(.int (2 : Int32))])) _
      refine XS.iconst X46.here hx rfl (hb hby at_161) ?_
      show Steps p.tables e below (T46.setTop (mkF m 162 #[.val (.int p0), .val (.int p1), .val (.int p2), .val (.int (2 : Int32)), .val (.int bt0), .val (.int bt1), .val (.int bt2), .val (.int bt3), .val (.int bt4), .val (.int bt5), .val (.ref b32), .unset, .unset, .unset, .unset, .unset, .unset, .unset, .unset, .unset, .unset, .unset, .unset, .unset] [(.int (5 : Int32)), (.int (2 : Int32))])) _
      refine XS.icmpYes X46.here hx rfl (pc0 := 162) (pc' := 180) rfl (hb hby at_162) rfl (flt hc50).2.2.2 (by decide) (by decide) ?_
      exact k
    · skip
      obtain rfl : ln = (3 : Int32) := own_eq.mpr hk_ln
      obtain ⟨T52, h52, k52, X52, e52, E52, A52, st52⟩ := newP X7 hx hZ (hw _ (List.mem_of_getElem? (i := 5) rfl)) e7 (g := (mkF m 57 #[.val (.int p0), .val (.int p1), .val (.int p2), .val (.int (3 : Int32)), .val (.int bt0), .val (.int bt1), .val (.int bt2), .val (.int bt3), .val (.int bt4), .val (.int bt5), .unset, .unset, .unset, .unset, .unset, .unset, .unset, .unset, .unset, .unset, .unset, .unset, .unset, .unset] [(.int (3 : Int32))])) rfl (hb hby at_57) rfl (by decide) (cap := 3) (by decide) (by decide) (by decide) (by decide)
      obtain ⟨b52, g52⟩ : ∃ z, z = h0.size := ⟨_, rfl⟩
      rw [← g52] at A52 st52
      have g_b52 : n0 ≤ b52 := Nat.le_trans Z0 (Nat.le_of_eq g52.symm)
      skip
      have Z52 : n0 ≤ h52.size := Nat.le_trans Z0 E52.1
      have K52 : Keep h0 h52 [] := KR.ext E52
      have sz_b52 : h0.size ≤ b52 := Nat.le_trans KR.1 (Nat.le_of_eq g52.symm)
      have V52 : Arv Z h52 b52 k52 .boolean (3 : Int32) [(.int (0 : Int32)), (.int (0 : Int32)), (.int (0 : Int32))] (.int (0 : Int32)) := (Arv.new A52 (by decide)).pad (pad_rep [] (.int (0 : Int32)) 3)
      have hc53 : (0 : Int32) < (3 : Int32) := by decide
      have pre54 : ∀ t, Steps p.tables e below (T52.setTop (mkF m 68 #[.val (.int p0), .val (.int p1), .val (.int p2), .val (.int (3 : Int32)), .val (.int bt0), .val (.int bt1), .val (.int bt2), .val (.int bt3), .val (.int bt4), .val (.int bt5), .val (.ref b52), .unset, .unset, .unset, .unset, .unset, .unset, .unset, .unset, .unset, .unset, .unset, .unset, .unset] [(.int (0 : Int32)), (.ref b52)])) t → Steps p.tables e below (s₁.setTop (mkF m 0 #[.val (.int p0), .val (.int p1), .val (.int p2), .unset, .unset, .unset, .unset, .unset, .unset, .unset, .unset, .unset, .unset, .unset, .unset, .unset, .unset, .unset, .unset, .unset, .unset, .unset, .unset, .unset] [])) t := fun t k => pre8 t (by
        show Steps p.tables e below (T7.setTop (mkF m 56 #[.val (.int p0), .val (.int p1), .val (.int p2), .val (.int (3 : Int32)), .val (.int bt0), .val (.int bt1), .val (.int bt2), .val (.int bt3), .val (.int bt4), .val (.int bt5), .unset, .unset, .unset, .unset, .unset, .unset, .unset, .unset, .unset, .unset, .unset, .unset, .unset, .unset] [])) _
        refine XS.iloadN X7.here hx rfl (hb hby at_56) rfl ?_
        show Steps p.tables e below (T7.setTop (mkF m 57 #[.val (.int p0), .val (.int p1), .val (.int p2), .val (.int (3 : Int32)), .val (.int bt0), .val (.int bt1), .val (.int bt2), .val (.int bt3), .val (.int bt4), .val (.int bt5), .unset, .unset, .unset, .unset, .unset, .unset, .unset, .unset, .unset, .unset, .unset, .unset, .unset, .unset] [(.int (3 : Int32))])) _
        refine st52 _ ?_
        show Steps p.tables e below (T52.setTop (mkF m 59 #[.val (.int p0), .val (.int p1), .val (.int p2), .val (.int (3 : Int32)), .val (.int bt0), .val (.int bt1), .val (.int bt2), .val (.int bt3), .val (.int bt4), .val (.int bt5), .unset, .unset, .unset, .unset, .unset, .unset, .unset, .unset, .unset, .unset, .unset, .unset, .unset, .unset] [(.ref b52)])) _
        refine XS.astore X52.here hx rfl (hb hby at_59) rfl rfl (l' := #[.val (.int p0), .val (.int p1), .val (.int p2), .val (.int (3 : Int32)), .val (.int bt0), .val (.int bt1), .val (.int bt2), .val (.int bt3), .val (.int bt4), .val (.int bt5), .val (.ref b52), .unset, .unset, .unset, .unset, .unset, .unset, .unset, .unset, .unset, .unset, .unset, .unset, .unset]) rfl ?_
        show Steps p.tables e below (T52.setTop (mkF m 61 #[.val (.int p0), .val (.int p1), .val (.int p2), .val (.int (3 : Int32)), .val (.int bt0), .val (.int bt1), .val (.int bt2), .val (.int bt3), .val (.int bt4), .val (.int bt5), .val (.ref b52), .unset, .unset, .unset, .unset, .unset, .unset, .unset, .unset, .unset, .unset, .unset, .unset, .unset] [])) _
        refine XS.iloadN X52.here hx rfl (hb hby at_61) rfl ?_
        show Steps p.tables e below (T52.setTop (mkF m 62 #[.val (.int p0), .val (.int p1), .val (.int p2), .val (.int (3 : Int32)), .val (.int bt0), .val (.int bt1), .val (.int bt2), .val (.int bt3), .val (.int bt4), .val (.int bt5), .val (.ref b52), .unset, .unset, .unset, .unset, .unset, .unset, .unset, .unset, .unset, .unset, .unset, .unset, .unset] [(.int (3 : Int32))])) _
        refine XS.ifNo X52.here hx rfl (hb hby at_62) rfl ((if0 _ _).trans (tlt hc53).2.2.2) ?_
        show Steps p.tables e below (T52.setTop (mkF m 65 #[.val (.int p0), .val (.int p1), .val (.int p2), .val (.int (3 : Int32)), .val (.int bt0), .val (.int bt1), .val (.int bt2), .val (.int bt3), .val (.int bt4), .val (.int bt5), .val (.ref b52), .unset, .unset, .unset, .unset, .unset, .unset, .unset, .unset, .unset, .unset, .unset, .unset, .unset] [])) _
        refine XS.aload X52.here hx rfl (hb hby at_65) rfl rfl ?_
        show Steps p.tables e below (T52.setTop (mkF m 67 #[.val (.int p0), .val (.int p1), .val (.int p2), .val (.int (3 : Int32)), .val (.int bt0), .val (.int bt1), .val (.int bt2), .val (.int bt3), .val (.int bt4), .val (.int bt5), .val (.ref b52), .unset, .unset, .unset, .unset, .unset, .unset, .unset, .unset, .unset, .unset, .unset, .unset, .unset] [(.ref b52)])) _
        refine XS.iconst X52.here hx rfl (hb hby at_67) ?_
        exact k)
      obtain ⟨v0, rfl, pre55⟩ : ∃ (v0 : Int32), (v0 = bI (bt0.toInt = 1)) ∧ ∀ t, Steps p.tables e below (T52.setTop (mkF m 79 #[.val (.int p0), .val (.int p1), .val (.int p2), .val (.int (3 : Int32)), .val (.int bt0), .val (.int bt1), .val (.int bt2), .val (.int bt3), .val (.int bt4), .val (.int bt5), .val (.ref b52), .unset, .unset, .unset, .unset, .unset, .unset, .unset, .unset, .unset, .unset, .unset, .unset, .unset] [(.int v0), (.int (0 : Int32)), (.ref b52)])) t → Steps p.tables e below (s₁.setTop (mkF m 0 #[.val (.int p0), .val (.int p1), .val (.int p2), .unset, .unset, .unset, .unset, .unset, .unset, .unset, .unset, .unset, .unset, .unset, .unset, .unset, .unset, .unset, .unset, .unset, .unset, .unset, .unset, .unset] [])) t := by
        have pre57 : ∀ t, Steps p.tables e below (T52.setTop (mkF m 71 #[.val (.int p0), .val (.int p1), .val (.int p2), .val (.int (3 : Int32)), .val (.int bt0), .val (.int bt1), .val (.int bt2), .val (.int bt3), .val (.int bt4), .val (.int bt5), .val (.ref b52), .unset, .unset, .unset, .unset, .unset, .unset, .unset, .unset, .unset, .unset, .unset, .unset, .unset] [(.int (1 : Int32)), (.int bt0), (.int (0 : Int32)), (.ref b52)])) t → Steps p.tables e below (s₁.setTop (mkF m 0 #[.val (.int p0), .val (.int p1), .val (.int p2), .unset, .unset, .unset, .unset, .unset, .unset, .unset, .unset, .unset, .unset, .unset, .unset, .unset, .unset, .unset, .unset, .unset, .unset, .unset, .unset, .unset] [])) t := fun t k => pre54 t (by
          show Steps p.tables e below (T52.setTop (mkF m 68 #[.val (.int p0), .val (.int p1), .val (.int p2), .val (.int (3 : Int32)), .val (.int bt0), .val (.int bt1), .val (.int bt2), .val (.int bt3), .val (.int bt4), .val (.int bt5), .val (.ref b52), .unset, .unset, .unset, .unset, .unset, .unset, .unset, .unset, .unset, .unset, .unset, .unset, .unset] [(.int (0 : Int32)), (.ref b52)])) _
          refine XS.iload X52.here hx rfl (hb hby at_68) rfl ?_
          show Steps p.tables e below (T52.setTop (mkF m 70 #[.val (.int p0), .val (.int p1), .val (.int p2), .val (.int (3 : Int32)), .val (.int bt0), .val (.int bt1), .val (.int bt2), .val (.int bt3), .val (.int bt4), .val (.int bt5), .val (.ref b52), .unset, .unset, .unset, .unset, .unset, .unset, .unset, .unset, .unset, .unset, .unset, .unset, .unset] [(.int bt0), (.int (0 : Int32)), (.ref b52)])) _
          refine XS.iconst X52.here hx rfl (hb hby at_70) ?_
          exact k)
        by_cases hc56 : bt0 = (1 : Int32)
        · skip
          have ohc56 : bt0.toInt = 1 := own_eq.mp hc56
          refine ⟨(1 : Int32), ?_, fun t k => pre57 t ?_⟩
          · exact own_c1 (by omega)
          · skip
            show Steps p.tables e below (T52.setTop (mkF m 71 #[.val (.int p0), .val (.int p1), .val (.int p2), .val (.int (3 : Int32)), .val (.int bt0), .val (.int bt1), .val (.int bt2), .val (.int bt3), .val (.int bt4), .val (.int bt5), .val (.ref b52), .unset, .unset, .unset, .unset, .unset, .unset, .unset, .unset, .unset, .unset, .unset, .unset, .unset] [(.int (1 : Int32)), (.int bt0), (.int (0 : Int32)), (.ref b52)])) _
            refine XS.icmpNo X52.here hx rfl (hb hby at_71) rfl (teq hc56).2 ?_
            show Steps p.tables e below (T52.setTop (mkF m 74 #[.val (.int p0), .val (.int p1), .val (.int p2), .val (.int (3 : Int32)), .val (.int bt0), .val (.int bt1), .val (.int bt2), .val (.int bt3), .val (.int bt4), .val (.int bt5), .val (.ref b52), .unset, .unset, .unset, .unset, .unset, .unset, .unset, .unset, .unset, .unset, .unset, .unset, .unset] [(.int (0 : Int32)), (.ref b52)])) _
            refine XS.iconst X52.here hx rfl (hb hby at_74) ?_
            show Steps p.tables e below (T52.setTop (mkF m 75 #[.val (.int p0), .val (.int p1), .val (.int p2), .val (.int (3 : Int32)), .val (.int bt0), .val (.int bt1), .val (.int bt2), .val (.int bt3), .val (.int bt4), .val (.int bt5), .val (.ref b52), .unset, .unset, .unset, .unset, .unset, .unset, .unset, .unset, .unset, .unset, .unset, .unset, .unset] [(.int (1 : Int32)), (.int (0 : Int32)), (.ref b52)])) _
            refine XS.goto X52.here hx rfl (pc0 := 75) (pc' := 79) rfl (hb hby at_75) (by decide) (by decide) ?_
            exact k
        · skip
          have ohc56 : ¬ (bt0.toInt = 1) := own_neq.mp hc56
          refine ⟨(0 : Int32), ?_, fun t k => pre57 t ?_⟩
          · exact own_c0 (by omega)
          · skip
            show Steps p.tables e below (T52.setTop (mkF m 71 #[.val (.int p0), .val (.int p1), .val (.int p2), .val (.int (3 : Int32)), .val (.int bt0), .val (.int bt1), .val (.int bt2), .val (.int bt3), .val (.int bt4), .val (.int bt5), .val (.ref b52), .unset, .unset, .unset, .unset, .unset, .unset, .unset, .unset, .unset, .unset, .unset, .unset, .unset] [(.int (1 : Int32)), (.int bt0), (.int (0 : Int32)), (.ref b52)])) _
            refine XS.icmpYes X52.here hx rfl (pc0 := 71) (pc' := 78) rfl (hb hby at_71) rfl (feq hc56).2 (by decide) (by decide) ?_
            show Steps p.tables e below (T52.setTop (mkF m 78 #[.val (.int p0), .val (.int p1), .val (.int p2), .val (.int (3 : Int32)), .val (.int bt0), .val (.int bt1), .val (.int bt2), .val (.int bt3), .val (.int bt4), .val (.int bt5), .val (.ref b52), .unset, .unset, .unset, .unset, .unset, .unset, .unset, .unset, .unset, .unset, .unset, .unset, .unset] [(.int (0 : Int32)), (.ref b52)])) _
            refine XS.iconst X52.here hx rfl (hb hby at_78) ?_
            exact k
      obtain ⟨cl58, Ar58, q58, Sz58, Nn58, Hh58, Gg58⟩ := id V52
      have hin58 : ¬ ((0 : Int32) < 0 ∨ cl58.slots.size ≤ ((0 : Int32)).toNatClampNeg) := inb_of Sz58 ⟨by decide, by decide⟩
      obtain ⟨T59, h59, X59, e59, W59, st59⟩ := stZ X52 hx hZ e52 Ar58 (j := (0 : Int32)) hin58 (g := (mkF m 79 #[.val (.int p0), .val (.int p1), .val (.int p2), .val (.int (3 : Int32)), .val (.int bt0), .val (.int bt1), .val (.int bt2), .val (.int bt3), .val (.int bt4), .val (.int bt5), .val (.ref b52), .unset, .unset, .unset, .unset, .unset, .unset, .unset, .unset, .unset, .unset, .unset, .unset, .unset] [(.int (bI (bt0.toInt = 1))), (.int (0 : Int32)), (.ref b52)])) rfl rfl (hb hby at_79)
      have V59 : Arv Z h59 b52 k52 .boolean (3 : Int32) [(.int (nar .boolean (bI (bt0.toInt = 1)))), (.int (0 : Int32)), (.int (0 : Int32))] (.int (0 : Int32)) := Arv.set Ar58 q58 Sz58 Nn58 Hh58 Gg58 (fits_nar_bool _) W59 0 rfl (Nat.le_of_ble_eq_true rfl)
      have N59 := Fr.snoc X59 N7 g_b52
      have Z59 : n0 ≤ h59.size := Nat.le_trans Z52 (Keep.of_wr W59).1
      have K59 : Keep h0 h59 [] := K52.wr W59 (Or.inr sz_b52)
      have hc60 : (1 : Int32) < (3 : Int32) := by decide
      have pre61 : ∀ t, Steps p.tables e below (T59.setTop (mkF m 88 #[.val (.int p0), .val (.int p1), .val (.int p2), .val (.int (3 : Int32)), .val (.int bt0), .val (.int bt1), .val (.int bt2), .val (.int bt3), .val (.int bt4), .val (.int bt5), .val (.ref b52), .unset, .unset, .unset, .unset, .unset, .unset, .unset, .unset, .unset, .unset, .unset, .unset, .unset] [(.int (1 : Int32)), (.ref b52)])) t → Steps p.tables e below (s₁.setTop (mkF m 0 #[.val (.int p0), .val (.int p1), .val (.int p2), .unset, .unset, .unset, .unset, .unset, .unset, .unset, .unset, .unset, .unset, .unset, .unset, .unset, .unset, .unset, .unset, .unset, .unset, .unset, .unset, .unset] [])) t := fun t k => pre55 t (by
        show Steps p.tables e below (T52.setTop (mkF m 79 #[.val (.int p0), .val (.int p1), .val (.int p2), .val (.int (3 : Int32)), .val (.int bt0), .val (.int bt1), .val (.int bt2), .val (.int bt3), .val (.int bt4), .val (.int bt5), .val (.ref b52), .unset, .unset, .unset, .unset, .unset, .unset, .unset, .unset, .unset, .unset, .unset, .unset, .unset] [(.int (bI (bt0.toInt = 1))), (.int (0 : Int32)), (.ref b52)])) _
        refine st59 _ ?_
        show Steps p.tables e below (T59.setTop (mkF m 80 #[.val (.int p0), .val (.int p1), .val (.int p2), .val (.int (3 : Int32)), .val (.int bt0), .val (.int bt1), .val (.int bt2), .val (.int bt3), .val (.int bt4), .val (.int bt5), .val (.ref b52), .unset, .unset, .unset, .unset, .unset, .unset, .unset, .unset, .unset, .unset, .unset, .unset, .unset] [])) _
        refine XS.iloadN X59.here hx rfl (hb hby at_80) rfl ?_
        show Steps p.tables e below (T59.setTop (mkF m 81 #[.val (.int p0), .val (.int p1), .val (.int p2), .val (.int (3 : Int32)), .val (.int bt0), .val (.int bt1), .val (.int bt2), .val (.int bt3), .val (.int bt4), .val (.int bt5), .val (.ref b52), .unset, .unset, .unset, .unset, .unset, .unset, .unset, .unset, .unset, .unset, .unset, .unset, .unset] [(.int (3 : Int32))])) _
        refine XS.iconst X59.here hx rfl (hb hby at_81) ?_
        show Steps p.tables e below (T59.setTop (mkF m 82 #[.val (.int p0), .val (.int p1), .val (.int p2), .val (.int (3 : Int32)), .val (.int bt0), .val (.int bt1), .val (.int bt2), .val (.int bt3), .val (.int bt4), .val (.int bt5), .val (.ref b52), .unset, .unset, .unset, .unset, .unset, .unset, .unset, .unset, .unset, .unset, .unset, .unset, .unset] [(.int (1 : Int32)), (.int (3 : Int32))])) _
        refine XS.icmpNo X59.here hx rfl (hb hby at_82) rfl (tlt hc60).2.2.2 ?_
        show Steps p.tables e below (T59.setTop (mkF m 85 #[.val (.int p0), .val (.int p1), .val (.int p2), .val (.int (3 : Int32)), .val (.int bt0), .val (.int bt1), .val (.int bt2), .val (.int bt3), .val (.int bt4), .val (.int bt5), .val (.ref b52), .unset, .unset, .unset, .unset, .unset, .unset, .unset, .unset, .unset, .unset, .unset, .unset, .unset] [])) _
        refine XS.aload X59.here hx rfl (hb hby at_85) rfl rfl ?_
        show Steps p.tables e below (T59.setTop (mkF m 87 #[.val (.int p0), .val (.int p1), .val (.int p2), .val (.int (3 : Int32)), .val (.int bt0), .val (.int bt1), .val (.int bt2), .val (.int bt3), .val (.int bt4), .val (.int bt5), .val (.ref b52), .unset, .unset, .unset, .unset, .unset, .unset, .unset, .unset, .unset, .unset, .unset, .unset, .unset] [(.ref b52)])) _
        refine XS.iconst X59.here hx rfl (hb hby at_87) ?_
        exact k)
      obtain ⟨v1, rfl, pre62⟩ : ∃ (v1 : Int32), (v1 = bI (bt1.toInt = 1)) ∧ ∀ t, Steps p.tables e below (T59.setTop (mkF m 99 #[.val (.int p0), .val (.int p1), .val (.int p2), .val (.int (3 : Int32)), .val (.int bt0), .val (.int bt1), .val (.int bt2), .val (.int bt3), .val (.int bt4), .val (.int bt5), .val (.ref b52), .unset, .unset, .unset, .unset, .unset, .unset, .unset, .unset, .unset, .unset, .unset, .unset, .unset] [(.int v1), (.int (1 : Int32)), (.ref b52)])) t → Steps p.tables e below (s₁.setTop (mkF m 0 #[.val (.int p0), .val (.int p1), .val (.int p2), .unset, .unset, .unset, .unset, .unset, .unset, .unset, .unset, .unset, .unset, .unset, .unset, .unset, .unset, .unset, .unset, .unset, .unset, .unset, .unset, .unset] [])) t := by
        have pre64 : ∀ t, Steps p.tables e below (T59.setTop (mkF m 91 #[.val (.int p0), .val (.int p1), .val (.int p2), .val (.int (3 : Int32)), .val (.int bt0), .val (.int bt1), .val (.int bt2), .val (.int bt3), .val (.int bt4), .val (.int bt5), .val (.ref b52), .unset, .unset, .unset, .unset, .unset, .unset, .unset, .unset, .unset, .unset, .unset, .unset, .unset] [(.int (1 : Int32)), (.int bt1), (.int (1 : Int32)), (.ref b52)])) t → Steps p.tables e below (s₁.setTop (mkF m 0 #[.val (.int p0), .val (.int p1), .val (.int p2), .unset, .unset, .unset, .unset, .unset, .unset, .unset, .unset, .unset, .unset, .unset, .unset, .unset, .unset, .unset, .unset, .unset, .unset, .unset, .unset, .unset] [])) t := fun t k => pre61 t (by
          show Steps p.tables e below (T59.setTop (mkF m 88 #[.val (.int p0), .val (.int p1), .val (.int p2), .val (.int (3 : Int32)), .val (.int bt0), .val (.int bt1), .val (.int bt2), .val (.int bt3), .val (.int bt4), .val (.int bt5), .val (.ref b52), .unset, .unset, .unset, .unset, .unset, .unset, .unset, .unset, .unset, .unset, .unset, .unset, .unset] [(.int (1 : Int32)), (.ref b52)])) _
          refine XS.iload X59.here hx rfl (hb hby at_88) rfl ?_
          show Steps p.tables e below (T59.setTop (mkF m 90 #[.val (.int p0), .val (.int p1), .val (.int p2), .val (.int (3 : Int32)), .val (.int bt0), .val (.int bt1), .val (.int bt2), .val (.int bt3), .val (.int bt4), .val (.int bt5), .val (.ref b52), .unset, .unset, .unset, .unset, .unset, .unset, .unset, .unset, .unset, .unset, .unset, .unset, .unset] [(.int bt1), (.int (1 : Int32)), (.ref b52)])) _
          refine XS.iconst X59.here hx rfl (hb hby at_90) ?_
          exact k)
        by_cases hc63 : bt1 = (1 : Int32)
        · skip
          have ohc63 : bt1.toInt = 1 := own_eq.mp hc63
          refine ⟨(1 : Int32), ?_, fun t k => pre64 t ?_⟩
          · exact own_c1 (by omega)
          · skip
            show Steps p.tables e below (T59.setTop (mkF m 91 #[.val (.int p0), .val (.int p1), .val (.int p2), .val (.int (3 : Int32)), .val (.int bt0), .val (.int bt1), .val (.int bt2), .val (.int bt3), .val (.int bt4), .val (.int bt5), .val (.ref b52), .unset, .unset, .unset, .unset, .unset, .unset, .unset, .unset, .unset, .unset, .unset, .unset, .unset] [(.int (1 : Int32)), (.int bt1), (.int (1 : Int32)), (.ref b52)])) _
            refine XS.icmpNo X59.here hx rfl (hb hby at_91) rfl (teq hc63).2 ?_
            show Steps p.tables e below (T59.setTop (mkF m 94 #[.val (.int p0), .val (.int p1), .val (.int p2), .val (.int (3 : Int32)), .val (.int bt0), .val (.int bt1), .val (.int bt2), .val (.int bt3), .val (.int bt4), .val (.int bt5), .val (.ref b52), .unset, .unset, .unset, .unset, .unset, .unset, .unset, .unset, .unset, .unset, .unset, .unset, .unset] [(.int (1 : Int32)), (.ref b52)])) _
            refine XS.iconst X59.here hx rfl (hb hby at_94) ?_
            show Steps p.tables e below (T59.setTop (mkF m 95 #[.val (.int p0), .val (.int p1), .val (.int p2), .val (.int (3 : Int32)), .val (.int bt0), .val (.int bt1), .val (.int bt2), .val (.int bt3), .val (.int bt4), .val (.int bt5), .val (.ref b52), .unset, .unset, .unset, .unset, .unset, .unset, .unset, .unset, .unset, .unset, .unset, .unset, .unset] [(.int (1 : Int32)), (.int (1 : Int32)), (.ref b52)])) _
            refine XS.goto X59.here hx rfl (pc0 := 95) (pc' := 99) rfl (hb hby at_95) (by decide) (by decide) ?_
            exact k
        · skip
          have ohc63 : ¬ (bt1.toInt = 1) := own_neq.mp hc63
          refine ⟨(0 : Int32), ?_, fun t k => pre64 t ?_⟩
          · exact own_c0 (by omega)
          · skip
            show Steps p.tables e below (T59.setTop (mkF m 91 #[.val (.int p0), .val (.int p1), .val (.int p2), .val (.int (3 : Int32)), .val (.int bt0), .val (.int bt1), .val (.int bt2), .val (.int bt3), .val (.int bt4), .val (.int bt5), .val (.ref b52), .unset, .unset, .unset, .unset, .unset, .unset, .unset, .unset, .unset, .unset, .unset, .unset, .unset] [(.int (1 : Int32)), (.int bt1), (.int (1 : Int32)), (.ref b52)])) _
            refine XS.icmpYes X59.here hx rfl (pc0 := 91) (pc' := 98) rfl (hb hby at_91) rfl (feq hc63).2 (by decide) (by decide) ?_
            show Steps p.tables e below (T59.setTop (mkF m 98 #[.val (.int p0), .val (.int p1), .val (.int p2), .val (.int (3 : Int32)), .val (.int bt0), .val (.int bt1), .val (.int bt2), .val (.int bt3), .val (.int bt4), .val (.int bt5), .val (.ref b52), .unset, .unset, .unset, .unset, .unset, .unset, .unset, .unset, .unset, .unset, .unset, .unset, .unset] [(.int (1 : Int32)), (.ref b52)])) _
            refine XS.iconst X59.here hx rfl (hb hby at_98) ?_
            exact k
      obtain ⟨cl65, Ar65, q65, Sz65, Nn65, Hh65, Gg65⟩ := id V59
      have hin65 : ¬ ((1 : Int32) < 0 ∨ cl65.slots.size ≤ ((1 : Int32)).toNatClampNeg) := inb_of Sz65 ⟨by decide, by decide⟩
      obtain ⟨T66, h66, X66, e66, W66, st66⟩ := stZ X59 hx hZ e59 Ar65 (j := (1 : Int32)) hin65 (g := (mkF m 99 #[.val (.int p0), .val (.int p1), .val (.int p2), .val (.int (3 : Int32)), .val (.int bt0), .val (.int bt1), .val (.int bt2), .val (.int bt3), .val (.int bt4), .val (.int bt5), .val (.ref b52), .unset, .unset, .unset, .unset, .unset, .unset, .unset, .unset, .unset, .unset, .unset, .unset, .unset] [(.int (bI (bt1.toInt = 1))), (.int (1 : Int32)), (.ref b52)])) rfl rfl (hb hby at_99)
      have V66 : Arv Z h66 b52 k52 .boolean (3 : Int32) [(.int (nar .boolean (bI (bt0.toInt = 1)))), (.int (nar .boolean (bI (bt1.toInt = 1)))), (.int (0 : Int32))] (.int (0 : Int32)) := Arv.set Ar65 q65 Sz65 Nn65 Hh65 Gg65 (fits_nar_bool _) W66 1 rfl (Nat.le_of_ble_eq_true rfl)
      have N66 := Fr.snoc X66 N59 g_b52
      have Z66 : n0 ≤ h66.size := Nat.le_trans Z59 (Keep.of_wr W66).1
      have K66 : Keep h0 h66 [] := K59.wr W66 (Or.inr sz_b52)
      have hc67 : (2 : Int32) < (3 : Int32) := by decide
      have pre68 : ∀ t, Steps p.tables e below (T66.setTop (mkF m 108 #[.val (.int p0), .val (.int p1), .val (.int p2), .val (.int (3 : Int32)), .val (.int bt0), .val (.int bt1), .val (.int bt2), .val (.int bt3), .val (.int bt4), .val (.int bt5), .val (.ref b52), .unset, .unset, .unset, .unset, .unset, .unset, .unset, .unset, .unset, .unset, .unset, .unset, .unset] [(.int (2 : Int32)), (.ref b52)])) t → Steps p.tables e below (s₁.setTop (mkF m 0 #[.val (.int p0), .val (.int p1), .val (.int p2), .unset, .unset, .unset, .unset, .unset, .unset, .unset, .unset, .unset, .unset, .unset, .unset, .unset, .unset, .unset, .unset, .unset, .unset, .unset, .unset, .unset] [])) t := fun t k => pre62 t (by
        show Steps p.tables e below (T59.setTop (mkF m 99 #[.val (.int p0), .val (.int p1), .val (.int p2), .val (.int (3 : Int32)), .val (.int bt0), .val (.int bt1), .val (.int bt2), .val (.int bt3), .val (.int bt4), .val (.int bt5), .val (.ref b52), .unset, .unset, .unset, .unset, .unset, .unset, .unset, .unset, .unset, .unset, .unset, .unset, .unset] [(.int (bI (bt1.toInt = 1))), (.int (1 : Int32)), (.ref b52)])) _
        refine st66 _ ?_
        show Steps p.tables e below (T66.setTop (mkF m 100 #[.val (.int p0), .val (.int p1), .val (.int p2), .val (.int (3 : Int32)), .val (.int bt0), .val (.int bt1), .val (.int bt2), .val (.int bt3), .val (.int bt4), .val (.int bt5), .val (.ref b52), .unset, .unset, .unset, .unset, .unset, .unset, .unset, .unset, .unset, .unset, .unset, .unset, .unset] [])) _
        refine XS.iloadN X66.here hx rfl (hb hby at_100) rfl ?_
        show Steps p.tables e below (T66.setTop (mkF m 101 #[.val (.int p0), .val (.int p1), .val (.int p2), .val (.int (3 : Int32)), .val (.int bt0), .val (.int bt1), .val (.int bt2), .val (.int bt3), .val (.int bt4), .val (.int bt5), .val (.ref b52), .unset, .unset, .unset, .unset, .unset, .unset, .unset, .unset, .unset, .unset, .unset, .unset, .unset] [(.int (3 : Int32))])) _
        refine XS.iconst X66.here hx rfl (hb hby at_101) ?_
        show Steps p.tables e below (T66.setTop (mkF m 102 #[.val (.int p0), .val (.int p1), .val (.int p2), .val (.int (3 : Int32)), .val (.int bt0), .val (.int bt1), .val (.int bt2), .val (.int bt3), .val (.int bt4), .val (.int bt5), .val (.ref b52), .unset, .unset, .unset, .unset, .unset, .unset, .unset, .unset, .unset, .unset, .unset, .unset, .unset] [(.int (2 : Int32)), (.int (3 : Int32))])) _
        refine XS.icmpNo X66.here hx rfl (hb hby at_102) rfl (tlt hc67).2.2.2 ?_
        show Steps p.tables e below (T66.setTop (mkF m 105 #[.val (.int p0), .val (.int p1), .val (.int p2), .val (.int (3 : Int32)), .val (.int bt0), .val (.int bt1), .val (.int bt2), .val (.int bt3), .val (.int bt4), .val (.int bt5), .val (.ref b52), .unset, .unset, .unset, .unset, .unset, .unset, .unset, .unset, .unset, .unset, .unset, .unset, .unset] [])) _
        refine XS.aload X66.here hx rfl (hb hby at_105) rfl rfl ?_
        show Steps p.tables e below (T66.setTop (mkF m 107 #[.val (.int p0), .val (.int p1), .val (.int p2), .val (.int (3 : Int32)), .val (.int bt0), .val (.int bt1), .val (.int bt2), .val (.int bt3), .val (.int bt4), .val (.int bt5), .val (.ref b52), .unset, .unset, .unset, .unset, .unset, .unset, .unset, .unset, .unset, .unset, .unset, .unset, .unset] [(.ref b52)])) _
        refine XS.iconst X66.here hx rfl (hb hby at_107) ?_
        exact k)
      obtain ⟨v2, rfl, pre69⟩ : ∃ (v2 : Int32), (v2 = bI (bt2.toInt = 1)) ∧ ∀ t, Steps p.tables e below (T66.setTop (mkF m 119 #[.val (.int p0), .val (.int p1), .val (.int p2), .val (.int (3 : Int32)), .val (.int bt0), .val (.int bt1), .val (.int bt2), .val (.int bt3), .val (.int bt4), .val (.int bt5), .val (.ref b52), .unset, .unset, .unset, .unset, .unset, .unset, .unset, .unset, .unset, .unset, .unset, .unset, .unset] [(.int v2), (.int (2 : Int32)), (.ref b52)])) t → Steps p.tables e below (s₁.setTop (mkF m 0 #[.val (.int p0), .val (.int p1), .val (.int p2), .unset, .unset, .unset, .unset, .unset, .unset, .unset, .unset, .unset, .unset, .unset, .unset, .unset, .unset, .unset, .unset, .unset, .unset, .unset, .unset, .unset] [])) t := by
        have pre71 : ∀ t, Steps p.tables e below (T66.setTop (mkF m 111 #[.val (.int p0), .val (.int p1), .val (.int p2), .val (.int (3 : Int32)), .val (.int bt0), .val (.int bt1), .val (.int bt2), .val (.int bt3), .val (.int bt4), .val (.int bt5), .val (.ref b52), .unset, .unset, .unset, .unset, .unset, .unset, .unset, .unset, .unset, .unset, .unset, .unset, .unset] [(.int (1 : Int32)), (.int bt2), (.int (2 : Int32)), (.ref b52)])) t → Steps p.tables e below (s₁.setTop (mkF m 0 #[.val (.int p0), .val (.int p1), .val (.int p2), .unset, .unset, .unset, .unset, .unset, .unset, .unset, .unset, .unset, .unset, .unset, .unset, .unset, .unset, .unset, .unset, .unset, .unset, .unset, .unset, .unset] [])) t := fun t k => pre68 t (by
          show Steps p.tables e below (T66.setTop (mkF m 108 #[.val (.int p0), .val (.int p1), .val (.int p2), .val (.int (3 : Int32)), .val (.int bt0), .val (.int bt1), .val (.int bt2), .val (.int bt3), .val (.int bt4), .val (.int bt5), .val (.ref b52), .unset, .unset, .unset, .unset, .unset, .unset, .unset, .unset, .unset, .unset, .unset, .unset, .unset] [(.int (2 : Int32)), (.ref b52)])) _
          refine XS.iload X66.here hx rfl (hb hby at_108) rfl ?_
          show Steps p.tables e below (T66.setTop (mkF m 110 #[.val (.int p0), .val (.int p1), .val (.int p2), .val (.int (3 : Int32)), .val (.int bt0), .val (.int bt1), .val (.int bt2), .val (.int bt3), .val (.int bt4), .val (.int bt5), .val (.ref b52), .unset, .unset, .unset, .unset, .unset, .unset, .unset, .unset, .unset, .unset, .unset, .unset, .unset] [(.int bt2), (.int (2 : Int32)), (.ref b52)])) _
          refine XS.iconst X66.here hx rfl (hb hby at_110) ?_
          exact k)
        by_cases hc70 : bt2 = (1 : Int32)
        · skip
          have ohc70 : bt2.toInt = 1 := own_eq.mp hc70
          refine ⟨(1 : Int32), ?_, fun t k => pre71 t ?_⟩
          · exact own_c1 (by omega)
          · skip
            show Steps p.tables e below (T66.setTop (mkF m 111 #[.val (.int p0), .val (.int p1), .val (.int p2), .val (.int (3 : Int32)), .val (.int bt0), .val (.int bt1), .val (.int bt2), .val (.int bt3), .val (.int bt4), .val (.int bt5), .val (.ref b52), .unset, .unset, .unset, .unset, .unset, .unset, .unset, .unset, .unset, .unset, .unset, .unset, .unset] [(.int (1 : Int32)), (.int bt2), (.int (2 : Int32)), (.ref b52)])) _
            refine XS.icmpNo X66.here hx rfl (hb hby at_111) rfl (teq hc70).2 ?_
            show Steps p.tables e below (T66.setTop (mkF m 114 #[.val (.int p0), .val (.int p1), .val (.int p2), .val (.int (3 : Int32)), .val (.int bt0), .val (.int bt1), .val (.int bt2), .val (.int bt3), .val (.int bt4), .val (.int bt5), .val (.ref b52), .unset, .unset, .unset, .unset, .unset, .unset, .unset, .unset, .unset, .unset, .unset, .unset, .unset] [(.int (2 : Int32)), (.ref b52)])) _
            refine XS.iconst X66.here hx rfl (hb hby at_114) ?_
            show Steps p.tables e below (T66.setTop (mkF m 115 #[.val (.int p0), .val (.int p1), .val (.int p2), .val (.int (3 : Int32)), .val (.int bt0), .val (.int bt1), .val (.int bt2), .val (.int bt3), .val (.int bt4), .val (.int bt5), .val (.ref b52), .unset, .unset, .unset, .unset, .unset, .unset, .unset, .unset, .unset, .unset, .unset, .unset, .unset] [(.int (1 : Int32)), (.int (2 : Int32)), (.ref b52)])) _
            refine XS.goto X66.here hx rfl (pc0 := 115) (pc' := 119) rfl (hb hby at_115) (by decide) (by decide) ?_
            exact k
        · skip
          have ohc70 : ¬ (bt2.toInt = 1) := own_neq.mp hc70
          refine ⟨(0 : Int32), ?_, fun t k => pre71 t ?_⟩
          · exact own_c0 (by omega)
          · skip
            show Steps p.tables e below (T66.setTop (mkF m 111 #[.val (.int p0), .val (.int p1), .val (.int p2), .val (.int (3 : Int32)), .val (.int bt0), .val (.int bt1), .val (.int bt2), .val (.int bt3), .val (.int bt4), .val (.int bt5), .val (.ref b52), .unset, .unset, .unset, .unset, .unset, .unset, .unset, .unset, .unset, .unset, .unset, .unset, .unset] [(.int (1 : Int32)), (.int bt2), (.int (2 : Int32)), (.ref b52)])) _
            refine XS.icmpYes X66.here hx rfl (pc0 := 111) (pc' := 118) rfl (hb hby at_111) rfl (feq hc70).2 (by decide) (by decide) ?_
            show Steps p.tables e below (T66.setTop (mkF m 118 #[.val (.int p0), .val (.int p1), .val (.int p2), .val (.int (3 : Int32)), .val (.int bt0), .val (.int bt1), .val (.int bt2), .val (.int bt3), .val (.int bt4), .val (.int bt5), .val (.ref b52), .unset, .unset, .unset, .unset, .unset, .unset, .unset, .unset, .unset, .unset, .unset, .unset, .unset] [(.int (2 : Int32)), (.ref b52)])) _
            refine XS.iconst X66.here hx rfl (hb hby at_118) ?_
            exact k
      obtain ⟨cl72, Ar72, q72, Sz72, Nn72, Hh72, Gg72⟩ := id V66
      have hin72 : ¬ ((2 : Int32) < 0 ∨ cl72.slots.size ≤ ((2 : Int32)).toNatClampNeg) := inb_of Sz72 ⟨by decide, by decide⟩
      obtain ⟨T73, h73, X73, e73, W73, st73⟩ := stZ X66 hx hZ e66 Ar72 (j := (2 : Int32)) hin72 (g := (mkF m 119 #[.val (.int p0), .val (.int p1), .val (.int p2), .val (.int (3 : Int32)), .val (.int bt0), .val (.int bt1), .val (.int bt2), .val (.int bt3), .val (.int bt4), .val (.int bt5), .val (.ref b52), .unset, .unset, .unset, .unset, .unset, .unset, .unset, .unset, .unset, .unset, .unset, .unset, .unset] [(.int (bI (bt2.toInt = 1))), (.int (2 : Int32)), (.ref b52)])) rfl rfl (hb hby at_119)
      have V73 : Arv Z h73 b52 k52 .boolean (3 : Int32) [(.int (nar .boolean (bI (bt0.toInt = 1)))), (.int (nar .boolean (bI (bt1.toInt = 1)))), (.int (nar .boolean (bI (bt2.toInt = 1))))] (.int (0 : Int32)) := Arv.set Ar72 q72 Sz72 Nn72 Hh72 Gg72 (fits_nar_bool _) W73 2 rfl (Nat.le_of_ble_eq_true rfl)
      have N73 := Fr.snoc X73 N66 g_b52
      have Z73 : n0 ≤ h73.size := Nat.le_trans Z66 (Keep.of_wr W73).1
      have K73 : Keep h0 h73 [] := K66.wr W73 (Or.inr sz_b52)
      have hc74 : ¬ ((3 : Int32) < (3 : Int32)) := by decide
      have hc75 : ¬ ((4 : Int32) < (3 : Int32)) := by decide
      have hc76 : ¬ ((5 : Int32) < (3 : Int32)) := by decide
      obtain ⟨cl77, Ar77, -, Sz77, -, Hh77, -⟩ := V73
      refine ⟨b52, cl77, T73, _, h73, X73.more (by decide) (by decide), e73, N73, Z73, K73, ⟨Ar77, Sz77, fun j hj => by
        have q := Hh77 j (by rw [Sz77]; exact hj)
        have hj' : j < 3 := hj
        rcases (show j = 0 ∨ j = 1 ∨ j = 2 by omega) with rfl | rfl | rfl
        · exact q.trans (congrArg (fun z => some (Value.int z)) (own_nar (P := bt0.toInt = 1)))
        · exact q.trans (congrArg (fun z => some (Value.int z)) (own_nar (P := bt1.toInt = 1)))
        · exact q.trans (congrArg (fun z => some (Value.int z)) (own_nar (P := bt2.toInt = 1)))⟩, fun t k => pre69 t ?_⟩
      show Steps p.tables e below (T66.setTop (mkF m 119 #[.val (.int p0), .val (.int p1), .val (.int p2), .val (.int (3 : Int32)), .val (.int bt0), .val (.int bt1), .val (.int bt2), .val (.int bt3), .val (.int bt4), .val (.int bt5), .val (.ref b52), .unset, .unset, .unset, .unset, .unset, .unset, .unset, .unset, .unset, .unset, .unset, .unset, .unset] [(.int (bI (bt2.toInt = 1))), (.int (2 : Int32)), (.ref b52)])) _
      refine st73 _ ?_
      show Steps p.tables e below (T73.setTop (mkF m 120 #[.val (.int p0), .val (.int p1), .val (.int p2), .val (.int (3 : Int32)), .val (.int bt0), .val (.int bt1), .val (.int bt2), .val (.int bt3), .val (.int bt4), .val (.int bt5), .val (.ref b52), .unset, .unset, .unset, .unset, .unset, .unset, .unset, .unset, .unset, .unset, .unset, .unset, .unset] [])) _
      refine XS.iloadN X73.here hx rfl (hb hby at_120) rfl ?_
      show Steps p.tables e below (T73.setTop (mkF m 121 #[.val (.int p0), .val (.int p1), .val (.int p2), .val (.int (3 : Int32)), .val (.int bt0), .val (.int bt1), .val (.int bt2), .val (.int bt3), .val (.int bt4), .val (.int bt5), .val (.ref b52), .unset, .unset, .unset, .unset, .unset, .unset, .unset, .unset, .unset, .unset, .unset, .unset, .unset] [(.int (3 : Int32))])) _
      refine XS.iconst X73.here hx rfl (hb hby at_121) ?_
      show Steps p.tables e below (T73.setTop (mkF m 122 #[.val (.int p0), .val (.int p1), .val (.int p2), .val (.int (3 : Int32)), .val (.int bt0), .val (.int bt1), .val (.int bt2), .val (.int bt3), .val (.int bt4), .val (.int bt5), .val (.ref b52), .unset, .unset, .unset, .unset, .unset, .unset, .unset, .unset, .unset, .unset, .unset, .unset, .unset] [(.int (3 : Int32)), (.int (3 : Int32))])) _
      refine XS.icmpYes X73.here hx rfl (pc0 := 122) (pc' := 140) rfl (hb hby at_122) rfl (flt hc74).2.2.2 (by decide) (by decide) ?_
      show Steps p.tables e below (T73.setTop (mkF m 140 #[.val (.int p0), .val (.int p1), .val (.int p2), .val (.int (3 : Int32)), .val (.int bt0), .val (.int bt1), .val (.int bt2), .val (.int bt3), .val (.int bt4), .val (.int bt5), .val (.ref b52), .unset, .unset, .unset, .unset, .unset, .unset, .unset, .unset, .unset, .unset, .unset, .unset, .unset] [])) _
      refine XS.iloadN X73.here hx rfl (hb hby at_140) rfl ?_
      show Steps p.tables e below (T73.setTop (mkF m 141 #[.val (.int p0), .val (.int p1), .val (.int p2), .val (.int (3 : Int32)), .val (.int bt0), .val (.int bt1), .val (.int bt2), .val (.int bt3), .val (.int bt4), .val (.int bt5), .val (.ref b52), .unset, .unset, .unset, .unset, .unset, .unset, .unset, .unset, .unset, .unset, .unset, .unset, .unset] [(.int (3 : Int32))])) _
      refine XS.iconst X73.here hx rfl (hb hby at_141) ?_
      show Steps p.tables e below (T73.setTop (mkF m 142 #[.val (.int p0), .val (.int p1), .val (.int p2), .val (.int (3 : Int32)), .val (.int bt0), .val (.int bt1), .val (.int bt2), .val (.int bt3), .val (.int bt4), .val (.int bt5), .val (.ref b52), .unset, .unset, .unset, .unset, .unset, .unset, .unset, .unset, .unset, .unset, .unset, .unset, .unset] [(.int (4 : Int32)), (.int (3 : Int32))])) _
      refine XS.icmpYes X73.here hx rfl (pc0 := 142) (pc' := 160) rfl (hb hby at_142) rfl (flt hc75).2.2.2 (by decide) (by decide) ?_
      show Steps p.tables e below (T73.setTop (mkF m 160 #[.val (.int p0), .val (.int p1), .val (.int p2), .val (.int (3 : Int32)), .val (.int bt0), .val (.int bt1), .val (.int bt2), .val (.int bt3), .val (.int bt4), .val (.int bt5), .val (.ref b52), .unset, .unset, .unset, .unset, .unset, .unset, .unset, .unset, .unset, .unset, .unset, .unset, .unset] [])) _
      refine XS.iloadN X73.here hx rfl (hb hby at_160) rfl ?_
      show Steps p.tables e below (T73.setTop (mkF m 161 #[.val (.int p0), .val (.int p1), .val (.int p2), .val (.int (3 : Int32)), .val (.int bt0), .val (.int bt1), .val (.int bt2), .val (.int bt3), .val (.int bt4), .val (.int bt5), .val (.ref b52), .unset, .unset, .unset, .unset, .unset, .unset, .unset, .unset, .unset, .unset, .unset, .unset, .unset] [(.int (3 : Int32))])) _
      refine XS.iconst X73.here hx rfl (hb hby at_161) ?_
      show Steps p.tables e below (T73.setTop (mkF m 162 #[.val (.int p0), .val (.int p1), .val (.int p2), .val (.int (3 : Int32)), .val (.int bt0), .val (.int bt1), .val (.int bt2), .val (.int bt3), .val (.int bt4), .val (.int bt5), .val (.ref b52), .unset, .unset, .unset, .unset, .unset, .unset, .unset, .unset, .unset, .unset, .unset, .unset, .unset] [(.int (5 : Int32)), (.int (3 : Int32))])) _
      refine XS.icmpYes X73.here hx rfl (pc0 := 162) (pc' := 180) rfl (hb hby at_162) rfl (flt hc76).2.2.2 (by decide) (by decide) ?_
      exact k
    · skip
      obtain rfl : ln = (4 : Int32) := own_eq.mpr hk_ln
      obtain ⟨T78, h78, k78, X78, e78, E78, A78, st78⟩ := newP X7 hx hZ (hw _ (List.mem_of_getElem? (i := 5) rfl)) e7 (g := (mkF m 57 #[.val (.int p0), .val (.int p1), .val (.int p2), .val (.int (4 : Int32)), .val (.int bt0), .val (.int bt1), .val (.int bt2), .val (.int bt3), .val (.int bt4), .val (.int bt5), .unset, .unset, .unset, .unset, .unset, .unset, .unset, .unset, .unset, .unset, .unset, .unset, .unset, .unset] [(.int (4 : Int32))])) rfl (hb hby at_57) rfl (by decide) (cap := 4) (by decide) (by decide) (by decide) (by decide)
      obtain ⟨b78, g78⟩ : ∃ z, z = h0.size := ⟨_, rfl⟩
      rw [← g78] at A78 st78
      have g_b78 : n0 ≤ b78 := Nat.le_trans Z0 (Nat.le_of_eq g78.symm)
      skip
      have Z78 : n0 ≤ h78.size := Nat.le_trans Z0 E78.1
      have K78 : Keep h0 h78 [] := KR.ext E78
      have sz_b78 : h0.size ≤ b78 := Nat.le_trans KR.1 (Nat.le_of_eq g78.symm)
      have V78 : Arv Z h78 b78 k78 .boolean (4 : Int32) [(.int (0 : Int32)), (.int (0 : Int32)), (.int (0 : Int32)), (.int (0 : Int32))] (.int (0 : Int32)) := (Arv.new A78 (by decide)).pad (pad_rep [] (.int (0 : Int32)) 4)
      have hc79 : (0 : Int32) < (4 : Int32) := by decide
      have pre80 : ∀ t, Steps p.tables e below (T78.setTop (mkF m 68 #[.val (.int p0), .val (.int p1), .val (.int p2), .val (.int (4 : Int32)), .val (.int bt0), .val (.int bt1), .val (.int bt2), .val (.int bt3), .val (.int bt4), .val (.int bt5), .val (.ref b78), .unset, .unset, .unset, .unset, .unset, .unset, .unset, .unset, .unset, .unset, .unset, .unset, .unset] [(.int (0 : Int32)), (.ref b78)])) t → Steps p.tables e below (s₁.setTop (mkF m 0 #[.val (.int p0), .val (.int p1), .val (.int p2), .unset, .unset, .unset, .unset, .unset, .unset, .unset, .unset, .unset, .unset, .unset, .unset, .unset, .unset, .unset, .unset, .unset, .unset, .unset, .unset, .unset] [])) t := fun t k => pre8 t (by
        show Steps p.tables e below (T7.setTop (mkF m 56 #[.val (.int p0), .val (.int p1), .val (.int p2), .val (.int (4 : Int32)), .val (.int bt0), .val (.int bt1), .val (.int bt2), .val (.int bt3), .val (.int bt4), .val (.int bt5), .unset, .unset, .unset, .unset, .unset, .unset, .unset, .unset, .unset, .unset, .unset, .unset, .unset, .unset] [])) _
        refine XS.iloadN X7.here hx rfl (hb hby at_56) rfl ?_
        show Steps p.tables e below (T7.setTop (mkF m 57 #[.val (.int p0), .val (.int p1), .val (.int p2), .val (.int (4 : Int32)), .val (.int bt0), .val (.int bt1), .val (.int bt2), .val (.int bt3), .val (.int bt4), .val (.int bt5), .unset, .unset, .unset, .unset, .unset, .unset, .unset, .unset, .unset, .unset, .unset, .unset, .unset, .unset] [(.int (4 : Int32))])) _
        refine st78 _ ?_
        show Steps p.tables e below (T78.setTop (mkF m 59 #[.val (.int p0), .val (.int p1), .val (.int p2), .val (.int (4 : Int32)), .val (.int bt0), .val (.int bt1), .val (.int bt2), .val (.int bt3), .val (.int bt4), .val (.int bt5), .unset, .unset, .unset, .unset, .unset, .unset, .unset, .unset, .unset, .unset, .unset, .unset, .unset, .unset] [(.ref b78)])) _
        refine XS.astore X78.here hx rfl (hb hby at_59) rfl rfl (l' := #[.val (.int p0), .val (.int p1), .val (.int p2), .val (.int (4 : Int32)), .val (.int bt0), .val (.int bt1), .val (.int bt2), .val (.int bt3), .val (.int bt4), .val (.int bt5), .val (.ref b78), .unset, .unset, .unset, .unset, .unset, .unset, .unset, .unset, .unset, .unset, .unset, .unset, .unset]) rfl ?_
        show Steps p.tables e below (T78.setTop (mkF m 61 #[.val (.int p0), .val (.int p1), .val (.int p2), .val (.int (4 : Int32)), .val (.int bt0), .val (.int bt1), .val (.int bt2), .val (.int bt3), .val (.int bt4), .val (.int bt5), .val (.ref b78), .unset, .unset, .unset, .unset, .unset, .unset, .unset, .unset, .unset, .unset, .unset, .unset, .unset] [])) _
        refine XS.iloadN X78.here hx rfl (hb hby at_61) rfl ?_
        show Steps p.tables e below (T78.setTop (mkF m 62 #[.val (.int p0), .val (.int p1), .val (.int p2), .val (.int (4 : Int32)), .val (.int bt0), .val (.int bt1), .val (.int bt2), .val (.int bt3), .val (.int bt4), .val (.int bt5), .val (.ref b78), .unset, .unset, .unset, .unset, .unset, .unset, .unset, .unset, .unset, .unset, .unset, .unset, .unset] [(.int (4 : Int32))])) _
        refine XS.ifNo X78.here hx rfl (hb hby at_62) rfl ((if0 _ _).trans (tlt hc79).2.2.2) ?_
        show Steps p.tables e below (T78.setTop (mkF m 65 #[.val (.int p0), .val (.int p1), .val (.int p2), .val (.int (4 : Int32)), .val (.int bt0), .val (.int bt1), .val (.int bt2), .val (.int bt3), .val (.int bt4), .val (.int bt5), .val (.ref b78), .unset, .unset, .unset, .unset, .unset, .unset, .unset, .unset, .unset, .unset, .unset, .unset, .unset] [])) _
        refine XS.aload X78.here hx rfl (hb hby at_65) rfl rfl ?_
        show Steps p.tables e below (T78.setTop (mkF m 67 #[.val (.int p0), .val (.int p1), .val (.int p2), .val (.int (4 : Int32)), .val (.int bt0), .val (.int bt1), .val (.int bt2), .val (.int bt3), .val (.int bt4), .val (.int bt5), .val (.ref b78), .unset, .unset, .unset, .unset, .unset, .unset, .unset, .unset, .unset, .unset, .unset, .unset, .unset] [(.ref b78)])) _
        refine XS.iconst X78.here hx rfl (hb hby at_67) ?_
        exact k)
      obtain ⟨v0, rfl, pre81⟩ : ∃ (v0 : Int32), (v0 = bI (bt0.toInt = 1)) ∧ ∀ t, Steps p.tables e below (T78.setTop (mkF m 79 #[.val (.int p0), .val (.int p1), .val (.int p2), .val (.int (4 : Int32)), .val (.int bt0), .val (.int bt1), .val (.int bt2), .val (.int bt3), .val (.int bt4), .val (.int bt5), .val (.ref b78), .unset, .unset, .unset, .unset, .unset, .unset, .unset, .unset, .unset, .unset, .unset, .unset, .unset] [(.int v0), (.int (0 : Int32)), (.ref b78)])) t → Steps p.tables e below (s₁.setTop (mkF m 0 #[.val (.int p0), .val (.int p1), .val (.int p2), .unset, .unset, .unset, .unset, .unset, .unset, .unset, .unset, .unset, .unset, .unset, .unset, .unset, .unset, .unset, .unset, .unset, .unset, .unset, .unset, .unset] [])) t := by
        have pre83 : ∀ t, Steps p.tables e below (T78.setTop (mkF m 71 #[.val (.int p0), .val (.int p1), .val (.int p2), .val (.int (4 : Int32)), .val (.int bt0), .val (.int bt1), .val (.int bt2), .val (.int bt3), .val (.int bt4), .val (.int bt5), .val (.ref b78), .unset, .unset, .unset, .unset, .unset, .unset, .unset, .unset, .unset, .unset, .unset, .unset, .unset] [(.int (1 : Int32)), (.int bt0), (.int (0 : Int32)), (.ref b78)])) t → Steps p.tables e below (s₁.setTop (mkF m 0 #[.val (.int p0), .val (.int p1), .val (.int p2), .unset, .unset, .unset, .unset, .unset, .unset, .unset, .unset, .unset, .unset, .unset, .unset, .unset, .unset, .unset, .unset, .unset, .unset, .unset, .unset, .unset] [])) t := fun t k => pre80 t (by
          show Steps p.tables e below (T78.setTop (mkF m 68 #[.val (.int p0), .val (.int p1), .val (.int p2), .val (.int (4 : Int32)), .val (.int bt0), .val (.int bt1), .val (.int bt2), .val (.int bt3), .val (.int bt4), .val (.int bt5), .val (.ref b78), .unset, .unset, .unset, .unset, .unset, .unset, .unset, .unset, .unset, .unset, .unset, .unset, .unset] [(.int (0 : Int32)), (.ref b78)])) _
          refine XS.iload X78.here hx rfl (hb hby at_68) rfl ?_
          show Steps p.tables e below (T78.setTop (mkF m 70 #[.val (.int p0), .val (.int p1), .val (.int p2), .val (.int (4 : Int32)), .val (.int bt0), .val (.int bt1), .val (.int bt2), .val (.int bt3), .val (.int bt4), .val (.int bt5), .val (.ref b78), .unset, .unset, .unset, .unset, .unset, .unset, .unset, .unset, .unset, .unset, .unset, .unset, .unset] [(.int bt0), (.int (0 : Int32)), (.ref b78)])) _
          refine XS.iconst X78.here hx rfl (hb hby at_70) ?_
          exact k)
        by_cases hc82 : bt0 = (1 : Int32)
        · skip
          have ohc82 : bt0.toInt = 1 := own_eq.mp hc82
          refine ⟨(1 : Int32), ?_, fun t k => pre83 t ?_⟩
          · exact own_c1 (by omega)
          · skip
            show Steps p.tables e below (T78.setTop (mkF m 71 #[.val (.int p0), .val (.int p1), .val (.int p2), .val (.int (4 : Int32)), .val (.int bt0), .val (.int bt1), .val (.int bt2), .val (.int bt3), .val (.int bt4), .val (.int bt5), .val (.ref b78), .unset, .unset, .unset, .unset, .unset, .unset, .unset, .unset, .unset, .unset, .unset, .unset, .unset] [(.int (1 : Int32)), (.int bt0), (.int (0 : Int32)), (.ref b78)])) _
            refine XS.icmpNo X78.here hx rfl (hb hby at_71) rfl (teq hc82).2 ?_
            show Steps p.tables e below (T78.setTop (mkF m 74 #[.val (.int p0), .val (.int p1), .val (.int p2), .val (.int (4 : Int32)), .val (.int bt0), .val (.int bt1), .val (.int bt2), .val (.int bt3), .val (.int bt4), .val (.int bt5), .val (.ref b78), .unset, .unset, .unset, .unset, .unset, .unset, .unset, .unset, .unset, .unset, .unset, .unset, .unset] [(.int (0 : Int32)), (.ref b78)])) _
            refine XS.iconst X78.here hx rfl (hb hby at_74) ?_
            show Steps p.tables e below (T78.setTop (mkF m 75 #[.val (.int p0), .val (.int p1), .val (.int p2), .val (.int (4 : Int32)), .val (.int bt0), .val (.int bt1), .val (.int bt2), .val (.int bt3), .val (.int bt4), .val (.int bt5), .val (.ref b78), .unset, .unset, .unset, .unset, .unset, .unset, .unset, .unset, .unset, .unset, .unset, .unset, .unset] [(.int (1 : Int32)), (.int (0 : Int32)), (.ref b78)])) _
            refine XS.goto X78.here hx rfl (pc0 := 75) (pc' := 79) rfl (hb hby at_75) (by decide) (by decide) ?_
            exact k
        · skip
          have ohc82 : ¬ (bt0.toInt = 1) := own_neq.mp hc82
          refine ⟨(0 : Int32), ?_, fun t k => pre83 t ?_⟩
          · exact own_c0 (by omega)
          · skip
            show Steps p.tables e below (T78.setTop (mkF m 71 #[.val (.int p0), .val (.int p1), .val (.int p2), .val (.int (4 : Int32)), .val (.int bt0), .val (.int bt1), .val (.int bt2), .val (.int bt3), .val (.int bt4), .val (.int bt5), .val (.ref b78), .unset, .unset, .unset, .unset, .unset, .unset, .unset, .unset, .unset, .unset, .unset, .unset, .unset] [(.int (1 : Int32)), (.int bt0), (.int (0 : Int32)), (.ref b78)])) _
            refine XS.icmpYes X78.here hx rfl (pc0 := 71) (pc' := 78) rfl (hb hby at_71) rfl (feq hc82).2 (by decide) (by decide) ?_
            show Steps p.tables e below (T78.setTop (mkF m 78 #[.val (.int p0), .val (.int p1), .val (.int p2), .val (.int (4 : Int32)), .val (.int bt0), .val (.int bt1), .val (.int bt2), .val (.int bt3), .val (.int bt4), .val (.int bt5), .val (.ref b78), .unset, .unset, .unset, .unset, .unset, .unset, .unset, .unset, .unset, .unset, .unset, .unset, .unset] [(.int (0 : Int32)), (.ref b78)])) _
            refine XS.iconst X78.here hx rfl (hb hby at_78) ?_
            exact k
      obtain ⟨cl84, Ar84, q84, Sz84, Nn84, Hh84, Gg84⟩ := id V78
      have hin84 : ¬ ((0 : Int32) < 0 ∨ cl84.slots.size ≤ ((0 : Int32)).toNatClampNeg) := inb_of Sz84 ⟨by decide, by decide⟩
      obtain ⟨T85, h85, X85, e85, W85, st85⟩ := stZ X78 hx hZ e78 Ar84 (j := (0 : Int32)) hin84 (g := (mkF m 79 #[.val (.int p0), .val (.int p1), .val (.int p2), .val (.int (4 : Int32)), .val (.int bt0), .val (.int bt1), .val (.int bt2), .val (.int bt3), .val (.int bt4), .val (.int bt5), .val (.ref b78), .unset, .unset, .unset, .unset, .unset, .unset, .unset, .unset, .unset, .unset, .unset, .unset, .unset] [(.int (bI (bt0.toInt = 1))), (.int (0 : Int32)), (.ref b78)])) rfl rfl (hb hby at_79)
      have V85 : Arv Z h85 b78 k78 .boolean (4 : Int32) [(.int (nar .boolean (bI (bt0.toInt = 1)))), (.int (0 : Int32)), (.int (0 : Int32)), (.int (0 : Int32))] (.int (0 : Int32)) := Arv.set Ar84 q84 Sz84 Nn84 Hh84 Gg84 (fits_nar_bool _) W85 0 rfl (Nat.le_of_ble_eq_true rfl)
      have N85 := Fr.snoc X85 N7 g_b78
      have Z85 : n0 ≤ h85.size := Nat.le_trans Z78 (Keep.of_wr W85).1
      have K85 : Keep h0 h85 [] := K78.wr W85 (Or.inr sz_b78)
      have hc86 : (1 : Int32) < (4 : Int32) := by decide
      have pre87 : ∀ t, Steps p.tables e below (T85.setTop (mkF m 88 #[.val (.int p0), .val (.int p1), .val (.int p2), .val (.int (4 : Int32)), .val (.int bt0), .val (.int bt1), .val (.int bt2), .val (.int bt3), .val (.int bt4), .val (.int bt5), .val (.ref b78), .unset, .unset, .unset, .unset, .unset, .unset, .unset, .unset, .unset, .unset, .unset, .unset, .unset] [(.int (1 : Int32)), (.ref b78)])) t → Steps p.tables e below (s₁.setTop (mkF m 0 #[.val (.int p0), .val (.int p1), .val (.int p2), .unset, .unset, .unset, .unset, .unset, .unset, .unset, .unset, .unset, .unset, .unset, .unset, .unset, .unset, .unset, .unset, .unset, .unset, .unset, .unset, .unset] [])) t := fun t k => pre81 t (by
        show Steps p.tables e below (T78.setTop (mkF m 79 #[.val (.int p0), .val (.int p1), .val (.int p2), .val (.int (4 : Int32)), .val (.int bt0), .val (.int bt1), .val (.int bt2), .val (.int bt3), .val (.int bt4), .val (.int bt5), .val (.ref b78), .unset, .unset, .unset, .unset, .unset, .unset, .unset, .unset, .unset, .unset, .unset, .unset, .unset] [(.int (bI (bt0.toInt = 1))), (.int (0 : Int32)), (.ref b78)])) _
        refine st85 _ ?_
        show Steps p.tables e below (T85.setTop (mkF m 80 #[.val (.int p0), .val (.int p1), .val (.int p2), .val (.int (4 : Int32)), .val (.int bt0), .val (.int bt1), .val (.int bt2), .val (.int bt3), .val (.int bt4), .val (.int bt5), .val (.ref b78), .unset, .unset, .unset, .unset, .unset, .unset, .unset, .unset, .unset, .unset, .unset, .unset, .unset] [])) _
        refine XS.iloadN X85.here hx rfl (hb hby at_80) rfl ?_
        show Steps p.tables e below (T85.setTop (mkF m 81 #[.val (.int p0), .val (.int p1), .val (.int p2), .val (.int (4 : Int32)), .val (.int bt0), .val (.int bt1), .val (.int bt2), .val (.int bt3), .val (.int bt4), .val (.int bt5), .val (.ref b78), .unset, .unset, .unset, .unset, .unset, .unset, .unset, .unset, .unset, .unset, .unset, .unset, .unset] [(.int (4 : Int32))])) _
        refine XS.iconst X85.here hx rfl (hb hby at_81) ?_
        show Steps p.tables e below (T85.setTop (mkF m 82 #[.val (.int p0), .val (.int p1), .val (.int p2), .val (.int (4 : Int32)), .val (.int bt0), .val (.int bt1), .val (.int bt2), .val (.int bt3), .val (.int bt4), .val (.int bt5), .val (.ref b78), .unset, .unset, .unset, .unset, .unset, .unset, .unset, .unset, .unset, .unset, .unset, .unset, .unset] [(.int (1 : Int32)), (.int (4 : Int32))])) _
        refine XS.icmpNo X85.here hx rfl (hb hby at_82) rfl (tlt hc86).2.2.2 ?_
        show Steps p.tables e below (T85.setTop (mkF m 85 #[.val (.int p0), .val (.int p1), .val (.int p2), .val (.int (4 : Int32)), .val (.int bt0), .val (.int bt1), .val (.int bt2), .val (.int bt3), .val (.int bt4), .val (.int bt5), .val (.ref b78), .unset, .unset, .unset, .unset, .unset, .unset, .unset, .unset, .unset, .unset, .unset, .unset, .unset] [])) _
        refine XS.aload X85.here hx rfl (hb hby at_85) rfl rfl ?_
        show Steps p.tables e below (T85.setTop (mkF m 87 #[.val (.int p0), .val (.int p1), .val (.int p2), .val (.int (4 : Int32)), .val (.int bt0), .val (.int bt1), .val (.int bt2), .val (.int bt3), .val (.int bt4), .val (.int bt5), .val (.ref b78), .unset, .unset, .unset, .unset, .unset, .unset, .unset, .unset, .unset, .unset, .unset, .unset, .unset] [(.ref b78)])) _
        refine XS.iconst X85.here hx rfl (hb hby at_87) ?_
        exact k)
      obtain ⟨v1, rfl, pre88⟩ : ∃ (v1 : Int32), (v1 = bI (bt1.toInt = 1)) ∧ ∀ t, Steps p.tables e below (T85.setTop (mkF m 99 #[.val (.int p0), .val (.int p1), .val (.int p2), .val (.int (4 : Int32)), .val (.int bt0), .val (.int bt1), .val (.int bt2), .val (.int bt3), .val (.int bt4), .val (.int bt5), .val (.ref b78), .unset, .unset, .unset, .unset, .unset, .unset, .unset, .unset, .unset, .unset, .unset, .unset, .unset] [(.int v1), (.int (1 : Int32)), (.ref b78)])) t → Steps p.tables e below (s₁.setTop (mkF m 0 #[.val (.int p0), .val (.int p1), .val (.int p2), .unset, .unset, .unset, .unset, .unset, .unset, .unset, .unset, .unset, .unset, .unset, .unset, .unset, .unset, .unset, .unset, .unset, .unset, .unset, .unset, .unset] [])) t := by
        have pre90 : ∀ t, Steps p.tables e below (T85.setTop (mkF m 91 #[.val (.int p0), .val (.int p1), .val (.int p2), .val (.int (4 : Int32)), .val (.int bt0), .val (.int bt1), .val (.int bt2), .val (.int bt3), .val (.int bt4), .val (.int bt5), .val (.ref b78), .unset, .unset, .unset, .unset, .unset, .unset, .unset, .unset, .unset, .unset, .unset, .unset, .unset] [(.int (1 : Int32)), (.int bt1), (.int (1 : Int32)), (.ref b78)])) t → Steps p.tables e below (s₁.setTop (mkF m 0 #[.val (.int p0), .val (.int p1), .val (.int p2), .unset, .unset, .unset, .unset, .unset, .unset, .unset, .unset, .unset, .unset, .unset, .unset, .unset, .unset, .unset, .unset, .unset, .unset, .unset, .unset, .unset] [])) t := fun t k => pre87 t (by
          show Steps p.tables e below (T85.setTop (mkF m 88 #[.val (.int p0), .val (.int p1), .val (.int p2), .val (.int (4 : Int32)), .val (.int bt0), .val (.int bt1), .val (.int bt2), .val (.int bt3), .val (.int bt4), .val (.int bt5), .val (.ref b78), .unset, .unset, .unset, .unset, .unset, .unset, .unset, .unset, .unset, .unset, .unset, .unset, .unset] [(.int (1 : Int32)), (.ref b78)])) _
          refine XS.iload X85.here hx rfl (hb hby at_88) rfl ?_
          show Steps p.tables e below (T85.setTop (mkF m 90 #[.val (.int p0), .val (.int p1), .val (.int p2), .val (.int (4 : Int32)), .val (.int bt0), .val (.int bt1), .val (.int bt2), .val (.int bt3), .val (.int bt4), .val (.int bt5), .val (.ref b78), .unset, .unset, .unset, .unset, .unset, .unset, .unset, .unset, .unset, .unset, .unset, .unset, .unset] [(.int bt1), (.int (1 : Int32)), (.ref b78)])) _
          refine XS.iconst X85.here hx rfl (hb hby at_90) ?_
          exact k)
        by_cases hc89 : bt1 = (1 : Int32)
        · skip
          have ohc89 : bt1.toInt = 1 := own_eq.mp hc89
          refine ⟨(1 : Int32), ?_, fun t k => pre90 t ?_⟩
          · exact own_c1 (by omega)
          · skip
            show Steps p.tables e below (T85.setTop (mkF m 91 #[.val (.int p0), .val (.int p1), .val (.int p2), .val (.int (4 : Int32)), .val (.int bt0), .val (.int bt1), .val (.int bt2), .val (.int bt3), .val (.int bt4), .val (.int bt5), .val (.ref b78), .unset, .unset, .unset, .unset, .unset, .unset, .unset, .unset, .unset, .unset, .unset, .unset, .unset] [(.int (1 : Int32)), (.int bt1), (.int (1 : Int32)), (.ref b78)])) _
            refine XS.icmpNo X85.here hx rfl (hb hby at_91) rfl (teq hc89).2 ?_
            show Steps p.tables e below (T85.setTop (mkF m 94 #[.val (.int p0), .val (.int p1), .val (.int p2), .val (.int (4 : Int32)), .val (.int bt0), .val (.int bt1), .val (.int bt2), .val (.int bt3), .val (.int bt4), .val (.int bt5), .val (.ref b78), .unset, .unset, .unset, .unset, .unset, .unset, .unset, .unset, .unset, .unset, .unset, .unset, .unset] [(.int (1 : Int32)), (.ref b78)])) _
            refine XS.iconst X85.here hx rfl (hb hby at_94) ?_
            show Steps p.tables e below (T85.setTop (mkF m 95 #[.val (.int p0), .val (.int p1), .val (.int p2), .val (.int (4 : Int32)), .val (.int bt0), .val (.int bt1), .val (.int bt2), .val (.int bt3), .val (.int bt4), .val (.int bt5), .val (.ref b78), .unset, .unset, .unset, .unset, .unset, .unset, .unset, .unset, .unset, .unset, .unset, .unset, .unset] [(.int (1 : Int32)), (.int (1 : Int32)), (.ref b78)])) _
            refine XS.goto X85.here hx rfl (pc0 := 95) (pc' := 99) rfl (hb hby at_95) (by decide) (by decide) ?_
            exact k
        · skip
          have ohc89 : ¬ (bt1.toInt = 1) := own_neq.mp hc89
          refine ⟨(0 : Int32), ?_, fun t k => pre90 t ?_⟩
          · exact own_c0 (by omega)
          · skip
            show Steps p.tables e below (T85.setTop (mkF m 91 #[.val (.int p0), .val (.int p1), .val (.int p2), .val (.int (4 : Int32)), .val (.int bt0), .val (.int bt1), .val (.int bt2), .val (.int bt3), .val (.int bt4), .val (.int bt5), .val (.ref b78), .unset, .unset, .unset, .unset, .unset, .unset, .unset, .unset, .unset, .unset, .unset, .unset, .unset] [(.int (1 : Int32)), (.int bt1), (.int (1 : Int32)), (.ref b78)])) _
            refine XS.icmpYes X85.here hx rfl (pc0 := 91) (pc' := 98) rfl (hb hby at_91) rfl (feq hc89).2 (by decide) (by decide) ?_
            show Steps p.tables e below (T85.setTop (mkF m 98 #[.val (.int p0), .val (.int p1), .val (.int p2), .val (.int (4 : Int32)), .val (.int bt0), .val (.int bt1), .val (.int bt2), .val (.int bt3), .val (.int bt4), .val (.int bt5), .val (.ref b78), .unset, .unset, .unset, .unset, .unset, .unset, .unset, .unset, .unset, .unset, .unset, .unset, .unset] [(.int (1 : Int32)), (.ref b78)])) _
            refine XS.iconst X85.here hx rfl (hb hby at_98) ?_
            exact k
      obtain ⟨cl91, Ar91, q91, Sz91, Nn91, Hh91, Gg91⟩ := id V85
      have hin91 : ¬ ((1 : Int32) < 0 ∨ cl91.slots.size ≤ ((1 : Int32)).toNatClampNeg) := inb_of Sz91 ⟨by decide, by decide⟩
      obtain ⟨T92, h92, X92, e92, W92, st92⟩ := stZ X85 hx hZ e85 Ar91 (j := (1 : Int32)) hin91 (g := (mkF m 99 #[.val (.int p0), .val (.int p1), .val (.int p2), .val (.int (4 : Int32)), .val (.int bt0), .val (.int bt1), .val (.int bt2), .val (.int bt3), .val (.int bt4), .val (.int bt5), .val (.ref b78), .unset, .unset, .unset, .unset, .unset, .unset, .unset, .unset, .unset, .unset, .unset, .unset, .unset] [(.int (bI (bt1.toInt = 1))), (.int (1 : Int32)), (.ref b78)])) rfl rfl (hb hby at_99)
      have V92 : Arv Z h92 b78 k78 .boolean (4 : Int32) [(.int (nar .boolean (bI (bt0.toInt = 1)))), (.int (nar .boolean (bI (bt1.toInt = 1)))), (.int (0 : Int32)), (.int (0 : Int32))] (.int (0 : Int32)) := Arv.set Ar91 q91 Sz91 Nn91 Hh91 Gg91 (fits_nar_bool _) W92 1 rfl (Nat.le_of_ble_eq_true rfl)
      have N92 := Fr.snoc X92 N85 g_b78
      have Z92 : n0 ≤ h92.size := Nat.le_trans Z85 (Keep.of_wr W92).1
      have K92 : Keep h0 h92 [] := K85.wr W92 (Or.inr sz_b78)
      have hc93 : (2 : Int32) < (4 : Int32) := by decide
      have pre94 : ∀ t, Steps p.tables e below (T92.setTop (mkF m 108 #[.val (.int p0), .val (.int p1), .val (.int p2), .val (.int (4 : Int32)), .val (.int bt0), .val (.int bt1), .val (.int bt2), .val (.int bt3), .val (.int bt4), .val (.int bt5), .val (.ref b78), .unset, .unset, .unset, .unset, .unset, .unset, .unset, .unset, .unset, .unset, .unset, .unset, .unset] [(.int (2 : Int32)), (.ref b78)])) t → Steps p.tables e below (s₁.setTop (mkF m 0 #[.val (.int p0), .val (.int p1), .val (.int p2), .unset, .unset, .unset, .unset, .unset, .unset, .unset, .unset, .unset, .unset, .unset, .unset, .unset, .unset, .unset, .unset, .unset, .unset, .unset, .unset, .unset] [])) t := fun t k => pre88 t (by
        show Steps p.tables e below (T85.setTop (mkF m 99 #[.val (.int p0), .val (.int p1), .val (.int p2), .val (.int (4 : Int32)), .val (.int bt0), .val (.int bt1), .val (.int bt2), .val (.int bt3), .val (.int bt4), .val (.int bt5), .val (.ref b78), .unset, .unset, .unset, .unset, .unset, .unset, .unset, .unset, .unset, .unset, .unset, .unset, .unset] [(.int (bI (bt1.toInt = 1))), (.int (1 : Int32)), (.ref b78)])) _
        refine st92 _ ?_
        show Steps p.tables e below (T92.setTop (mkF m 100 #[.val (.int p0), .val (.int p1), .val (.int p2), .val (.int (4 : Int32)), .val (.int bt0), .val (.int bt1), .val (.int bt2), .val (.int bt3), .val (.int bt4), .val (.int bt5), .val (.ref b78), .unset, .unset, .unset, .unset, .unset, .unset, .unset, .unset, .unset, .unset, .unset, .unset, .unset] [])) _
        refine XS.iloadN X92.here hx rfl (hb hby at_100) rfl ?_
        show Steps p.tables e below (T92.setTop (mkF m 101 #[.val (.int p0), .val (.int p1), .val (.int p2), .val (.int (4 : Int32)), .val (.int bt0), .val (.int bt1), .val (.int bt2), .val (.int bt3), .val (.int bt4), .val (.int bt5), .val (.ref b78), .unset, .unset, .unset, .unset, .unset, .unset, .unset, .unset, .unset, .unset, .unset, .unset, .unset] [(.int (4 : Int32))])) _
        refine XS.iconst X92.here hx rfl (hb hby at_101) ?_
        show Steps p.tables e below (T92.setTop (mkF m 102 #[.val (.int p0), .val (.int p1), .val (.int p2), .val (.int (4 : Int32)), .val (.int bt0), .val (.int bt1), .val (.int bt2), .val (.int bt3), .val (.int bt4), .val (.int bt5), .val (.ref b78), .unset, .unset, .unset, .unset, .unset, .unset, .unset, .unset, .unset, .unset, .unset, .unset, .unset] [(.int (2 : Int32)), (.int (4 : Int32))])) _
        refine XS.icmpNo X92.here hx rfl (hb hby at_102) rfl (tlt hc93).2.2.2 ?_
        show Steps p.tables e below (T92.setTop (mkF m 105 #[.val (.int p0), .val (.int p1), .val (.int p2), .val (.int (4 : Int32)), .val (.int bt0), .val (.int bt1), .val (.int bt2), .val (.int bt3), .val (.int bt4), .val (.int bt5), .val (.ref b78), .unset, .unset, .unset, .unset, .unset, .unset, .unset, .unset, .unset, .unset, .unset, .unset, .unset] [])) _
        refine XS.aload X92.here hx rfl (hb hby at_105) rfl rfl ?_
        show Steps p.tables e below (T92.setTop (mkF m 107 #[.val (.int p0), .val (.int p1), .val (.int p2), .val (.int (4 : Int32)), .val (.int bt0), .val (.int bt1), .val (.int bt2), .val (.int bt3), .val (.int bt4), .val (.int bt5), .val (.ref b78), .unset, .unset, .unset, .unset, .unset, .unset, .unset, .unset, .unset, .unset, .unset, .unset, .unset] [(.ref b78)])) _
        refine XS.iconst X92.here hx rfl (hb hby at_107) ?_
        exact k)
      obtain ⟨v2, rfl, pre95⟩ : ∃ (v2 : Int32), (v2 = bI (bt2.toInt = 1)) ∧ ∀ t, Steps p.tables e below (T92.setTop (mkF m 119 #[.val (.int p0), .val (.int p1), .val (.int p2), .val (.int (4 : Int32)), .val (.int bt0), .val (.int bt1), .val (.int bt2), .val (.int bt3), .val (.int bt4), .val (.int bt5), .val (.ref b78), .unset, .unset, .unset, .unset, .unset, .unset, .unset, .unset, .unset, .unset, .unset, .unset, .unset] [(.int v2), (.int (2 : Int32)), (.ref b78)])) t → Steps p.tables e below (s₁.setTop (mkF m 0 #[.val (.int p0), .val (.int p1), .val (.int p2), .unset, .unset, .unset, .unset, .unset, .unset, .unset, .unset, .unset, .unset, .unset, .unset, .unset, .unset, .unset, .unset, .unset, .unset, .unset, .unset, .unset] [])) t := by
        have pre97 : ∀ t, Steps p.tables e below (T92.setTop (mkF m 111 #[.val (.int p0), .val (.int p1), .val (.int p2), .val (.int (4 : Int32)), .val (.int bt0), .val (.int bt1), .val (.int bt2), .val (.int bt3), .val (.int bt4), .val (.int bt5), .val (.ref b78), .unset, .unset, .unset, .unset, .unset, .unset, .unset, .unset, .unset, .unset, .unset, .unset, .unset] [(.int (1 : Int32)), (.int bt2), (.int (2 : Int32)), (.ref b78)])) t → Steps p.tables e below (s₁.setTop (mkF m 0 #[.val (.int p0), .val (.int p1), .val (.int p2), .unset, .unset, .unset, .unset, .unset, .unset, .unset, .unset, .unset, .unset, .unset, .unset, .unset, .unset, .unset, .unset, .unset, .unset, .unset, .unset, .unset] [])) t := fun t k => pre94 t (by
          show Steps p.tables e below (T92.setTop (mkF m 108 #[.val (.int p0), .val (.int p1), .val (.int p2), .val (.int (4 : Int32)), .val (.int bt0), .val (.int bt1), .val (.int bt2), .val (.int bt3), .val (.int bt4), .val (.int bt5), .val (.ref b78), .unset, .unset, .unset, .unset, .unset, .unset, .unset, .unset, .unset, .unset, .unset, .unset, .unset] [(.int (2 : Int32)), (.ref b78)])) _
          refine XS.iload X92.here hx rfl (hb hby at_108) rfl ?_
          show Steps p.tables e below (T92.setTop (mkF m 110 #[.val (.int p0), .val (.int p1), .val (.int p2), .val (.int (4 : Int32)), .val (.int bt0), .val (.int bt1), .val (.int bt2), .val (.int bt3), .val (.int bt4), .val (.int bt5), .val (.ref b78), .unset, .unset, .unset, .unset, .unset, .unset, .unset, .unset, .unset, .unset, .unset, .unset, .unset] [(.int bt2), (.int (2 : Int32)), (.ref b78)])) _
          refine XS.iconst X92.here hx rfl (hb hby at_110) ?_
          exact k)
        by_cases hc96 : bt2 = (1 : Int32)
        · skip
          have ohc96 : bt2.toInt = 1 := own_eq.mp hc96
          refine ⟨(1 : Int32), ?_, fun t k => pre97 t ?_⟩
          · exact own_c1 (by omega)
          · skip
            show Steps p.tables e below (T92.setTop (mkF m 111 #[.val (.int p0), .val (.int p1), .val (.int p2), .val (.int (4 : Int32)), .val (.int bt0), .val (.int bt1), .val (.int bt2), .val (.int bt3), .val (.int bt4), .val (.int bt5), .val (.ref b78), .unset, .unset, .unset, .unset, .unset, .unset, .unset, .unset, .unset, .unset, .unset, .unset, .unset] [(.int (1 : Int32)), (.int bt2), (.int (2 : Int32)), (.ref b78)])) _
            refine XS.icmpNo X92.here hx rfl (hb hby at_111) rfl (teq hc96).2 ?_
            show Steps p.tables e below (T92.setTop (mkF m 114 #[.val (.int p0), .val (.int p1), .val (.int p2), .val (.int (4 : Int32)), .val (.int bt0), .val (.int bt1), .val (.int bt2), .val (.int bt3), .val (.int bt4), .val (.int bt5), .val (.ref b78), .unset, .unset, .unset, .unset, .unset, .unset, .unset, .unset, .unset, .unset, .unset, .unset, .unset] [(.int (2 : Int32)), (.ref b78)])) _
            refine XS.iconst X92.here hx rfl (hb hby at_114) ?_
            show Steps p.tables e below (T92.setTop (mkF m 115 #[.val (.int p0), .val (.int p1), .val (.int p2), .val (.int (4 : Int32)), .val (.int bt0), .val (.int bt1), .val (.int bt2), .val (.int bt3), .val (.int bt4), .val (.int bt5), .val (.ref b78), .unset, .unset, .unset, .unset, .unset, .unset, .unset, .unset, .unset, .unset, .unset, .unset, .unset] [(.int (1 : Int32)), (.int (2 : Int32)), (.ref b78)])) _
            refine XS.goto X92.here hx rfl (pc0 := 115) (pc' := 119) rfl (hb hby at_115) (by decide) (by decide) ?_
            exact k
        · skip
          have ohc96 : ¬ (bt2.toInt = 1) := own_neq.mp hc96
          refine ⟨(0 : Int32), ?_, fun t k => pre97 t ?_⟩
          · exact own_c0 (by omega)
          · skip
            show Steps p.tables e below (T92.setTop (mkF m 111 #[.val (.int p0), .val (.int p1), .val (.int p2), .val (.int (4 : Int32)), .val (.int bt0), .val (.int bt1), .val (.int bt2), .val (.int bt3), .val (.int bt4), .val (.int bt5), .val (.ref b78), .unset, .unset, .unset, .unset, .unset, .unset, .unset, .unset, .unset, .unset, .unset, .unset, .unset] [(.int (1 : Int32)), (.int bt2), (.int (2 : Int32)), (.ref b78)])) _
            refine XS.icmpYes X92.here hx rfl (pc0 := 111) (pc' := 118) rfl (hb hby at_111) rfl (feq hc96).2 (by decide) (by decide) ?_
            show Steps p.tables e below (T92.setTop (mkF m 118 #[.val (.int p0), .val (.int p1), .val (.int p2), .val (.int (4 : Int32)), .val (.int bt0), .val (.int bt1), .val (.int bt2), .val (.int bt3), .val (.int bt4), .val (.int bt5), .val (.ref b78), .unset, .unset, .unset, .unset, .unset, .unset, .unset, .unset, .unset, .unset, .unset, .unset, .unset] [(.int (2 : Int32)), (.ref b78)])) _
            refine XS.iconst X92.here hx rfl (hb hby at_118) ?_
            exact k
      obtain ⟨cl98, Ar98, q98, Sz98, Nn98, Hh98, Gg98⟩ := id V92
      have hin98 : ¬ ((2 : Int32) < 0 ∨ cl98.slots.size ≤ ((2 : Int32)).toNatClampNeg) := inb_of Sz98 ⟨by decide, by decide⟩
      obtain ⟨T99, h99, X99, e99, W99, st99⟩ := stZ X92 hx hZ e92 Ar98 (j := (2 : Int32)) hin98 (g := (mkF m 119 #[.val (.int p0), .val (.int p1), .val (.int p2), .val (.int (4 : Int32)), .val (.int bt0), .val (.int bt1), .val (.int bt2), .val (.int bt3), .val (.int bt4), .val (.int bt5), .val (.ref b78), .unset, .unset, .unset, .unset, .unset, .unset, .unset, .unset, .unset, .unset, .unset, .unset, .unset] [(.int (bI (bt2.toInt = 1))), (.int (2 : Int32)), (.ref b78)])) rfl rfl (hb hby at_119)
      have V99 : Arv Z h99 b78 k78 .boolean (4 : Int32) [(.int (nar .boolean (bI (bt0.toInt = 1)))), (.int (nar .boolean (bI (bt1.toInt = 1)))), (.int (nar .boolean (bI (bt2.toInt = 1)))), (.int (0 : Int32))] (.int (0 : Int32)) := Arv.set Ar98 q98 Sz98 Nn98 Hh98 Gg98 (fits_nar_bool _) W99 2 rfl (Nat.le_of_ble_eq_true rfl)
      have N99 := Fr.snoc X99 N92 g_b78
      have Z99 : n0 ≤ h99.size := Nat.le_trans Z92 (Keep.of_wr W99).1
      have K99 : Keep h0 h99 [] := K92.wr W99 (Or.inr sz_b78)
      have hc100 : (3 : Int32) < (4 : Int32) := by decide
      have pre101 : ∀ t, Steps p.tables e below (T99.setTop (mkF m 128 #[.val (.int p0), .val (.int p1), .val (.int p2), .val (.int (4 : Int32)), .val (.int bt0), .val (.int bt1), .val (.int bt2), .val (.int bt3), .val (.int bt4), .val (.int bt5), .val (.ref b78), .unset, .unset, .unset, .unset, .unset, .unset, .unset, .unset, .unset, .unset, .unset, .unset, .unset] [(.int (3 : Int32)), (.ref b78)])) t → Steps p.tables e below (s₁.setTop (mkF m 0 #[.val (.int p0), .val (.int p1), .val (.int p2), .unset, .unset, .unset, .unset, .unset, .unset, .unset, .unset, .unset, .unset, .unset, .unset, .unset, .unset, .unset, .unset, .unset, .unset, .unset, .unset, .unset] [])) t := fun t k => pre95 t (by
        show Steps p.tables e below (T92.setTop (mkF m 119 #[.val (.int p0), .val (.int p1), .val (.int p2), .val (.int (4 : Int32)), .val (.int bt0), .val (.int bt1), .val (.int bt2), .val (.int bt3), .val (.int bt4), .val (.int bt5), .val (.ref b78), .unset, .unset, .unset, .unset, .unset, .unset, .unset, .unset, .unset, .unset, .unset, .unset, .unset] [(.int (bI (bt2.toInt = 1))), (.int (2 : Int32)), (.ref b78)])) _
        refine st99 _ ?_
        show Steps p.tables e below (T99.setTop (mkF m 120 #[.val (.int p0), .val (.int p1), .val (.int p2), .val (.int (4 : Int32)), .val (.int bt0), .val (.int bt1), .val (.int bt2), .val (.int bt3), .val (.int bt4), .val (.int bt5), .val (.ref b78), .unset, .unset, .unset, .unset, .unset, .unset, .unset, .unset, .unset, .unset, .unset, .unset, .unset] [])) _
        refine XS.iloadN X99.here hx rfl (hb hby at_120) rfl ?_
        show Steps p.tables e below (T99.setTop (mkF m 121 #[.val (.int p0), .val (.int p1), .val (.int p2), .val (.int (4 : Int32)), .val (.int bt0), .val (.int bt1), .val (.int bt2), .val (.int bt3), .val (.int bt4), .val (.int bt5), .val (.ref b78), .unset, .unset, .unset, .unset, .unset, .unset, .unset, .unset, .unset, .unset, .unset, .unset, .unset] [(.int (4 : Int32))])) _
        refine XS.iconst X99.here hx rfl (hb hby at_121) ?_
        show Steps p.tables e below (T99.setTop (mkF m 122 #[.val (.int p0), .val (.int p1), .val (.int p2), .val (.int (4 : Int32)), .val (.int bt0), .val (.int bt1), .val (.int bt2), .val (.int bt3), .val (.int bt4), .val (.int bt5), .val (.ref b78), .unset, .unset, .unset, .unset, .unset, .unset, .unset, .unset, .unset, .unset, .unset, .unset, .unset] [(.int (3 : Int32)), (.int (4 : Int32))])) _
        refine XS.icmpNo X99.here hx rfl (hb hby at_122) rfl (tlt hc100).2.2.2 ?_
        show Steps p.tables e below (T99.setTop (mkF m 125 #[.val (.int p0), .val (.int p1), .val (.int p2), .val (.int (4 : Int32)), .val (.int bt0), .val (.int bt1), .val (.int bt2), .val (.int bt3), .val (.int bt4), .val (.int bt5), .val (.ref b78), .unset, .unset, .unset, .unset, .unset, .unset, .unset, .unset, .unset, .unset, .unset, .unset, .unset] [])) _
        refine XS.aload X99.here hx rfl (hb hby at_125) rfl rfl ?_
        show Steps p.tables e below (T99.setTop (mkF m 127 #[.val (.int p0), .val (.int p1), .val (.int p2), .val (.int (4 : Int32)), .val (.int bt0), .val (.int bt1), .val (.int bt2), .val (.int bt3), .val (.int bt4), .val (.int bt5), .val (.ref b78), .unset, .unset, .unset, .unset, .unset, .unset, .unset, .unset, .unset, .unset, .unset, .unset, .unset] [(.ref b78)])) _
        refine XS.iconst X99.here hx rfl (hb hby at_127) ?_
        exact k)
      obtain ⟨v3, rfl, pre102⟩ : ∃ (v3 : Int32), (v3 = bI (bt3.toInt = 1)) ∧ ∀ t, Steps p.tables e below (T99.setTop (mkF m 139 #[.val (.int p0), .val (.int p1), .val (.int p2), .val (.int (4 : Int32)), .val (.int bt0), .val (.int bt1), .val (.int bt2), .val (.int bt3), .val (.int bt4), .val (.int bt5), .val (.ref b78), .unset, .unset, .unset, .unset, .unset, .unset, .unset, .unset, .unset, .unset, .unset, .unset, .unset] [(.int v3), (.int (3 : Int32)), (.ref b78)])) t → Steps p.tables e below (s₁.setTop (mkF m 0 #[.val (.int p0), .val (.int p1), .val (.int p2), .unset, .unset, .unset, .unset, .unset, .unset, .unset, .unset, .unset, .unset, .unset, .unset, .unset, .unset, .unset, .unset, .unset, .unset, .unset, .unset, .unset] [])) t := by
        have pre104 : ∀ t, Steps p.tables e below (T99.setTop (mkF m 131 #[.val (.int p0), .val (.int p1), .val (.int p2), .val (.int (4 : Int32)), .val (.int bt0), .val (.int bt1), .val (.int bt2), .val (.int bt3), .val (.int bt4), .val (.int bt5), .val (.ref b78), .unset, .unset, .unset, .unset, .unset, .unset, .unset, .unset, .unset, .unset, .unset, .unset, .unset] [(.int (1 : Int32)), (.int bt3), (.int (3 : Int32)), (.ref b78)])) t → Steps p.tables e below (s₁.setTop (mkF m 0 #[.val (.int p0), .val (.int p1), .val (.int p2), .unset, .unset, .unset, .unset, .unset, .unset, .unset, .unset, .unset, .unset, .unset, .unset, .unset, .unset, .unset, .unset, .unset, .unset, .unset, .unset, .unset] [])) t := fun t k => pre101 t (by
          show Steps p.tables e below (T99.setTop (mkF m 128 #[.val (.int p0), .val (.int p1), .val (.int p2), .val (.int (4 : Int32)), .val (.int bt0), .val (.int bt1), .val (.int bt2), .val (.int bt3), .val (.int bt4), .val (.int bt5), .val (.ref b78), .unset, .unset, .unset, .unset, .unset, .unset, .unset, .unset, .unset, .unset, .unset, .unset, .unset] [(.int (3 : Int32)), (.ref b78)])) _
          refine XS.iload X99.here hx rfl (hb hby at_128) rfl ?_
          show Steps p.tables e below (T99.setTop (mkF m 130 #[.val (.int p0), .val (.int p1), .val (.int p2), .val (.int (4 : Int32)), .val (.int bt0), .val (.int bt1), .val (.int bt2), .val (.int bt3), .val (.int bt4), .val (.int bt5), .val (.ref b78), .unset, .unset, .unset, .unset, .unset, .unset, .unset, .unset, .unset, .unset, .unset, .unset, .unset] [(.int bt3), (.int (3 : Int32)), (.ref b78)])) _
          refine XS.iconst X99.here hx rfl (hb hby at_130) ?_
          exact k)
        by_cases hc103 : bt3 = (1 : Int32)
        · skip
          have ohc103 : bt3.toInt = 1 := own_eq.mp hc103
          refine ⟨(1 : Int32), ?_, fun t k => pre104 t ?_⟩
          · exact own_c1 (by omega)
          · skip
            show Steps p.tables e below (T99.setTop (mkF m 131 #[.val (.int p0), .val (.int p1), .val (.int p2), .val (.int (4 : Int32)), .val (.int bt0), .val (.int bt1), .val (.int bt2), .val (.int bt3), .val (.int bt4), .val (.int bt5), .val (.ref b78), .unset, .unset, .unset, .unset, .unset, .unset, .unset, .unset, .unset, .unset, .unset, .unset, .unset] [(.int (1 : Int32)), (.int bt3), (.int (3 : Int32)), (.ref b78)])) _
            refine XS.icmpNo X99.here hx rfl (hb hby at_131) rfl (teq hc103).2 ?_
            show Steps p.tables e below (T99.setTop (mkF m 134 #[.val (.int p0), .val (.int p1), .val (.int p2), .val (.int (4 : Int32)), .val (.int bt0), .val (.int bt1), .val (.int bt2), .val (.int bt3), .val (.int bt4), .val (.int bt5), .val (.ref b78), .unset, .unset, .unset, .unset, .unset, .unset, .unset, .unset, .unset, .unset, .unset, .unset, .unset] [(.int (3 : Int32)), (.ref b78)])) _
            refine XS.iconst X99.here hx rfl (hb hby at_134) ?_
            show Steps p.tables e below (T99.setTop (mkF m 135 #[.val (.int p0), .val (.int p1), .val (.int p2), .val (.int (4 : Int32)), .val (.int bt0), .val (.int bt1), .val (.int bt2), .val (.int bt3), .val (.int bt4), .val (.int bt5), .val (.ref b78), .unset, .unset, .unset, .unset, .unset, .unset, .unset, .unset, .unset, .unset, .unset, .unset, .unset] [(.int (1 : Int32)), (.int (3 : Int32)), (.ref b78)])) _
            refine XS.goto X99.here hx rfl (pc0 := 135) (pc' := 139) rfl (hb hby at_135) (by decide) (by decide) ?_
            exact k
        · skip
          have ohc103 : ¬ (bt3.toInt = 1) := own_neq.mp hc103
          refine ⟨(0 : Int32), ?_, fun t k => pre104 t ?_⟩
          · exact own_c0 (by omega)
          · skip
            show Steps p.tables e below (T99.setTop (mkF m 131 #[.val (.int p0), .val (.int p1), .val (.int p2), .val (.int (4 : Int32)), .val (.int bt0), .val (.int bt1), .val (.int bt2), .val (.int bt3), .val (.int bt4), .val (.int bt5), .val (.ref b78), .unset, .unset, .unset, .unset, .unset, .unset, .unset, .unset, .unset, .unset, .unset, .unset, .unset] [(.int (1 : Int32)), (.int bt3), (.int (3 : Int32)), (.ref b78)])) _
            refine XS.icmpYes X99.here hx rfl (pc0 := 131) (pc' := 138) rfl (hb hby at_131) rfl (feq hc103).2 (by decide) (by decide) ?_
            show Steps p.tables e below (T99.setTop (mkF m 138 #[.val (.int p0), .val (.int p1), .val (.int p2), .val (.int (4 : Int32)), .val (.int bt0), .val (.int bt1), .val (.int bt2), .val (.int bt3), .val (.int bt4), .val (.int bt5), .val (.ref b78), .unset, .unset, .unset, .unset, .unset, .unset, .unset, .unset, .unset, .unset, .unset, .unset, .unset] [(.int (3 : Int32)), (.ref b78)])) _
            refine XS.iconst X99.here hx rfl (hb hby at_138) ?_
            exact k
      obtain ⟨cl105, Ar105, q105, Sz105, Nn105, Hh105, Gg105⟩ := id V99
      have hin105 : ¬ ((3 : Int32) < 0 ∨ cl105.slots.size ≤ ((3 : Int32)).toNatClampNeg) := inb_of Sz105 ⟨by decide, by decide⟩
      obtain ⟨T106, h106, X106, e106, W106, st106⟩ := stZ X99 hx hZ e99 Ar105 (j := (3 : Int32)) hin105 (g := (mkF m 139 #[.val (.int p0), .val (.int p1), .val (.int p2), .val (.int (4 : Int32)), .val (.int bt0), .val (.int bt1), .val (.int bt2), .val (.int bt3), .val (.int bt4), .val (.int bt5), .val (.ref b78), .unset, .unset, .unset, .unset, .unset, .unset, .unset, .unset, .unset, .unset, .unset, .unset, .unset] [(.int (bI (bt3.toInt = 1))), (.int (3 : Int32)), (.ref b78)])) rfl rfl (hb hby at_139)
      have V106 : Arv Z h106 b78 k78 .boolean (4 : Int32) [(.int (nar .boolean (bI (bt0.toInt = 1)))), (.int (nar .boolean (bI (bt1.toInt = 1)))), (.int (nar .boolean (bI (bt2.toInt = 1)))), (.int (nar .boolean (bI (bt3.toInt = 1))))] (.int (0 : Int32)) := Arv.set Ar105 q105 Sz105 Nn105 Hh105 Gg105 (fits_nar_bool _) W106 3 rfl (Nat.le_of_ble_eq_true rfl)
      have N106 := Fr.snoc X106 N99 g_b78
      have Z106 : n0 ≤ h106.size := Nat.le_trans Z99 (Keep.of_wr W106).1
      have K106 : Keep h0 h106 [] := K99.wr W106 (Or.inr sz_b78)
      have hc107 : ¬ ((4 : Int32) < (4 : Int32)) := by decide
      have hc108 : ¬ ((5 : Int32) < (4 : Int32)) := by decide
      obtain ⟨cl109, Ar109, -, Sz109, -, Hh109, -⟩ := V106
      refine ⟨b78, cl109, T106, _, h106, X106.more (by decide) (by decide), e106, N106, Z106, K106, ⟨Ar109, Sz109, fun j hj => by
        have q := Hh109 j (by rw [Sz109]; exact hj)
        have hj' : j < 4 := hj
        rcases (show j = 0 ∨ j = 1 ∨ j = 2 ∨ j = 3 by omega) with rfl | rfl | rfl | rfl
        · exact q.trans (congrArg (fun z => some (Value.int z)) (own_nar (P := bt0.toInt = 1)))
        · exact q.trans (congrArg (fun z => some (Value.int z)) (own_nar (P := bt1.toInt = 1)))
        · exact q.trans (congrArg (fun z => some (Value.int z)) (own_nar (P := bt2.toInt = 1)))
        · exact q.trans (congrArg (fun z => some (Value.int z)) (own_nar (P := bt3.toInt = 1)))⟩, fun t k => pre102 t ?_⟩
      show Steps p.tables e below (T99.setTop (mkF m 139 #[.val (.int p0), .val (.int p1), .val (.int p2), .val (.int (4 : Int32)), .val (.int bt0), .val (.int bt1), .val (.int bt2), .val (.int bt3), .val (.int bt4), .val (.int bt5), .val (.ref b78), .unset, .unset, .unset, .unset, .unset, .unset, .unset, .unset, .unset, .unset, .unset, .unset, .unset] [(.int (bI (bt3.toInt = 1))), (.int (3 : Int32)), (.ref b78)])) _
      refine st106 _ ?_
      show Steps p.tables e below (T106.setTop (mkF m 140 #[.val (.int p0), .val (.int p1), .val (.int p2), .val (.int (4 : Int32)), .val (.int bt0), .val (.int bt1), .val (.int bt2), .val (.int bt3), .val (.int bt4), .val (.int bt5), .val (.ref b78), .unset, .unset, .unset, .unset, .unset, .unset, .unset, .unset, .unset, .unset, .unset, .unset, .unset] [])) _
      refine XS.iloadN X106.here hx rfl (hb hby at_140) rfl ?_
      show Steps p.tables e below (T106.setTop (mkF m 141 #[.val (.int p0), .val (.int p1), .val (.int p2), .val (.int (4 : Int32)), .val (.int bt0), .val (.int bt1), .val (.int bt2), .val (.int bt3), .val (.int bt4), .val (.int bt5), .val (.ref b78), .unset, .unset, .unset, .unset, .unset, .unset, .unset, .unset, .unset, .unset, .unset, .unset, .unset] [(.int (4 : Int32))])) _
      refine XS.iconst X106.here hx rfl (hb hby at_141) ?_
      show Steps p.tables e below (T106.setTop (mkF m 142 #[.val (.int p0), .val (.int p1), .val (.int p2), .val (.int (4 : Int32)), .val (.int bt0), .val (.int bt1), .val (.int bt2), .val (.int bt3), .val (.int bt4), .val (.int bt5), .val (.ref b78), .unset, .unset, .unset, .unset, .unset, .unset, .unset, .unset, .unset, .unset, .unset, .unset, .unset] [(.int (4 : Int32)), (.int (4 : Int32))])) _
      refine XS.icmpYes X106.here hx rfl (pc0 := 142) (pc' := 160) rfl (hb hby at_142) rfl (flt hc107).2.2.2 (by decide) (by decide) ?_
      show Steps p.tables e below (T106.setTop (mkF m 160 #[.val (.int p0), .val (.int p1), .val (.int p2), .val (.int (4 : Int32)), .val (.int bt0), .val (.int bt1), .val (.int bt2), .val (.int bt3), .val (.int bt4), .val (.int bt5), .val (.ref b78), .unset, .unset, .unset, .unset, .unset, .unset, .unset, .unset, .unset, .unset, .unset, .unset, .unset] [])) _
      refine XS.iloadN X106.here hx rfl (hb hby at_160) rfl ?_
      show Steps p.tables e below (T106.setTop (mkF m 161 #[.val (.int p0), .val (.int p1), .val (.int p2), .val (.int (4 : Int32)), .val (.int bt0), .val (.int bt1), .val (.int bt2), .val (.int bt3), .val (.int bt4), .val (.int bt5), .val (.ref b78), .unset, .unset, .unset, .unset, .unset, .unset, .unset, .unset, .unset, .unset, .unset, .unset, .unset] [(.int (4 : Int32))])) _
      refine XS.iconst X106.here hx rfl (hb hby at_161) ?_
      show Steps p.tables e below (T106.setTop (mkF m 162 #[.val (.int p0), .val (.int p1), .val (.int p2), .val (.int (4 : Int32)), .val (.int bt0), .val (.int bt1), .val (.int bt2), .val (.int bt3), .val (.int bt4), .val (.int bt5), .val (.ref b78), .unset, .unset, .unset, .unset, .unset, .unset, .unset, .unset, .unset, .unset, .unset, .unset, .unset] [(.int (5 : Int32)), (.int (4 : Int32))])) _
      refine XS.icmpYes X106.here hx rfl (pc0 := 162) (pc' := 180) rfl (hb hby at_162) rfl (flt hc108).2.2.2 (by decide) (by decide) ?_
      exact k
    · skip
      obtain rfl : ln = (5 : Int32) := own_eq.mpr hk_ln
      obtain ⟨T110, h110, k110, X110, e110, E110, A110, st110⟩ := newP X7 hx hZ (hw _ (List.mem_of_getElem? (i := 5) rfl)) e7 (g := (mkF m 57 #[.val (.int p0), .val (.int p1), .val (.int p2), .val (.int (5 : Int32)), .val (.int bt0), .val (.int bt1), .val (.int bt2), .val (.int bt3), .val (.int bt4), .val (.int bt5), .unset, .unset, .unset, .unset, .unset, .unset, .unset, .unset, .unset, .unset, .unset, .unset, .unset, .unset] [(.int (5 : Int32))])) rfl (hb hby at_57) rfl (by decide) (cap := 5) (by decide) (by decide) (by decide) (by decide)
      obtain ⟨b110, g110⟩ : ∃ z, z = h0.size := ⟨_, rfl⟩
      rw [← g110] at A110 st110
      have g_b110 : n0 ≤ b110 := Nat.le_trans Z0 (Nat.le_of_eq g110.symm)
      skip
      have Z110 : n0 ≤ h110.size := Nat.le_trans Z0 E110.1
      have K110 : Keep h0 h110 [] := KR.ext E110
      have sz_b110 : h0.size ≤ b110 := Nat.le_trans KR.1 (Nat.le_of_eq g110.symm)
      have V110 : Arv Z h110 b110 k110 .boolean (5 : Int32) [(.int (0 : Int32)), (.int (0 : Int32)), (.int (0 : Int32)), (.int (0 : Int32)), (.int (0 : Int32))] (.int (0 : Int32)) := (Arv.new A110 (by decide)).pad (pad_rep [] (.int (0 : Int32)) 5)
      have hc111 : (0 : Int32) < (5 : Int32) := by decide
      have pre112 : ∀ t, Steps p.tables e below (T110.setTop (mkF m 68 #[.val (.int p0), .val (.int p1), .val (.int p2), .val (.int (5 : Int32)), .val (.int bt0), .val (.int bt1), .val (.int bt2), .val (.int bt3), .val (.int bt4), .val (.int bt5), .val (.ref b110), .unset, .unset, .unset, .unset, .unset, .unset, .unset, .unset, .unset, .unset, .unset, .unset, .unset] [(.int (0 : Int32)), (.ref b110)])) t → Steps p.tables e below (s₁.setTop (mkF m 0 #[.val (.int p0), .val (.int p1), .val (.int p2), .unset, .unset, .unset, .unset, .unset, .unset, .unset, .unset, .unset, .unset, .unset, .unset, .unset, .unset, .unset, .unset, .unset, .unset, .unset, .unset, .unset] [])) t := fun t k => pre8 t (by
        show Steps p.tables e below (T7.setTop (mkF m 56 #[.val (.int p0), .val (.int p1), .val (.int p2), .val (.int (5 : Int32)), .val (.int bt0), .val (.int bt1), .val (.int bt2), .val (.int bt3), .val (.int bt4), .val (.int bt5), .unset, .unset, .unset, .unset, .unset, .unset, .unset, .unset, .unset, .unset, .unset, .unset, .unset, .unset] [])) _
        refine XS.iloadN X7.here hx rfl (hb hby at_56) rfl ?_
        show Steps p.tables e below (T7.setTop (mkF m 57 #[.val (.int p0), .val (.int p1), .val (.int p2), .val (.int (5 : Int32)), .val (.int bt0), .val (.int bt1), .val (.int bt2), .val (.int bt3), .val (.int bt4), .val (.int bt5), .unset, .unset, .unset, .unset, .unset, .unset, .unset, .unset, .unset, .unset, .unset, .unset, .unset, .unset] [(.int (5 : Int32))])) _
        refine st110 _ ?_
        show Steps p.tables e below (T110.setTop (mkF m 59 #[.val (.int p0), .val (.int p1), .val (.int p2), .val (.int (5 : Int32)), .val (.int bt0), .val (.int bt1), .val (.int bt2), .val (.int bt3), .val (.int bt4), .val (.int bt5), .unset, .unset, .unset, .unset, .unset, .unset, .unset, .unset, .unset, .unset, .unset, .unset, .unset, .unset] [(.ref b110)])) _
        refine XS.astore X110.here hx rfl (hb hby at_59) rfl rfl (l' := #[.val (.int p0), .val (.int p1), .val (.int p2), .val (.int (5 : Int32)), .val (.int bt0), .val (.int bt1), .val (.int bt2), .val (.int bt3), .val (.int bt4), .val (.int bt5), .val (.ref b110), .unset, .unset, .unset, .unset, .unset, .unset, .unset, .unset, .unset, .unset, .unset, .unset, .unset]) rfl ?_
        show Steps p.tables e below (T110.setTop (mkF m 61 #[.val (.int p0), .val (.int p1), .val (.int p2), .val (.int (5 : Int32)), .val (.int bt0), .val (.int bt1), .val (.int bt2), .val (.int bt3), .val (.int bt4), .val (.int bt5), .val (.ref b110), .unset, .unset, .unset, .unset, .unset, .unset, .unset, .unset, .unset, .unset, .unset, .unset, .unset] [])) _
        refine XS.iloadN X110.here hx rfl (hb hby at_61) rfl ?_
        show Steps p.tables e below (T110.setTop (mkF m 62 #[.val (.int p0), .val (.int p1), .val (.int p2), .val (.int (5 : Int32)), .val (.int bt0), .val (.int bt1), .val (.int bt2), .val (.int bt3), .val (.int bt4), .val (.int bt5), .val (.ref b110), .unset, .unset, .unset, .unset, .unset, .unset, .unset, .unset, .unset, .unset, .unset, .unset, .unset] [(.int (5 : Int32))])) _
        refine XS.ifNo X110.here hx rfl (hb hby at_62) rfl ((if0 _ _).trans (tlt hc111).2.2.2) ?_
        show Steps p.tables e below (T110.setTop (mkF m 65 #[.val (.int p0), .val (.int p1), .val (.int p2), .val (.int (5 : Int32)), .val (.int bt0), .val (.int bt1), .val (.int bt2), .val (.int bt3), .val (.int bt4), .val (.int bt5), .val (.ref b110), .unset, .unset, .unset, .unset, .unset, .unset, .unset, .unset, .unset, .unset, .unset, .unset, .unset] [])) _
        refine XS.aload X110.here hx rfl (hb hby at_65) rfl rfl ?_
        show Steps p.tables e below (T110.setTop (mkF m 67 #[.val (.int p0), .val (.int p1), .val (.int p2), .val (.int (5 : Int32)), .val (.int bt0), .val (.int bt1), .val (.int bt2), .val (.int bt3), .val (.int bt4), .val (.int bt5), .val (.ref b110), .unset, .unset, .unset, .unset, .unset, .unset, .unset, .unset, .unset, .unset, .unset, .unset, .unset] [(.ref b110)])) _
        refine XS.iconst X110.here hx rfl (hb hby at_67) ?_
        exact k)
      obtain ⟨v0, rfl, pre113⟩ : ∃ (v0 : Int32), (v0 = bI (bt0.toInt = 1)) ∧ ∀ t, Steps p.tables e below (T110.setTop (mkF m 79 #[.val (.int p0), .val (.int p1), .val (.int p2), .val (.int (5 : Int32)), .val (.int bt0), .val (.int bt1), .val (.int bt2), .val (.int bt3), .val (.int bt4), .val (.int bt5), .val (.ref b110), .unset, .unset, .unset, .unset, .unset, .unset, .unset, .unset, .unset, .unset, .unset, .unset, .unset] [(.int v0), (.int (0 : Int32)), (.ref b110)])) t → Steps p.tables e below (s₁.setTop (mkF m 0 #[.val (.int p0), .val (.int p1), .val (.int p2), .unset, .unset, .unset, .unset, .unset, .unset, .unset, .unset, .unset, .unset, .unset, .unset, .unset, .unset, .unset, .unset, .unset, .unset, .unset, .unset, .unset] [])) t := by
        have pre115 : ∀ t, Steps p.tables e below (T110.setTop (mkF m 71 #[.val (.int p0), .val (.int p1), .val (.int p2), .val (.int (5 : Int32)), .val (.int bt0), .val (.int bt1), .val (.int bt2), .val (.int bt3), .val (.int bt4), .val (.int bt5), .val (.ref b110), .unset, .unset, .unset, .unset, .unset, .unset, .unset, .unset, .unset, .unset, .unset, .unset, .unset] [(.int (1 : Int32)), (.int bt0), (.int (0 : Int32)), (.ref b110)])) t → Steps p.tables e below (s₁.setTop (mkF m 0 #[.val (.int p0), .val (.int p1), .val (.int p2), .unset, .unset, .unset, .unset, .unset, .unset, .unset, .unset, .unset, .unset, .unset, .unset, .unset, .unset, .unset, .unset, .unset, .unset, .unset, .unset, .unset] [])) t := fun t k => pre112 t (by
          show Steps p.tables e below (T110.setTop (mkF m 68 #[.val (.int p0), .val (.int p1), .val (.int p2), .val (.int (5 : Int32)), .val (.int bt0), .val (.int bt1), .val (.int bt2), .val (.int bt3), .val (.int bt4), .val (.int bt5), .val (.ref b110), .unset, .unset, .unset, .unset, .unset, .unset, .unset, .unset, .unset, .unset, .unset, .unset, .unset] [(.int (0 : Int32)), (.ref b110)])) _
          refine XS.iload X110.here hx rfl (hb hby at_68) rfl ?_
          show Steps p.tables e below (T110.setTop (mkF m 70 #[.val (.int p0), .val (.int p1), .val (.int p2), .val (.int (5 : Int32)), .val (.int bt0), .val (.int bt1), .val (.int bt2), .val (.int bt3), .val (.int bt4), .val (.int bt5), .val (.ref b110), .unset, .unset, .unset, .unset, .unset, .unset, .unset, .unset, .unset, .unset, .unset, .unset, .unset] [(.int bt0), (.int (0 : Int32)), (.ref b110)])) _
          refine XS.iconst X110.here hx rfl (hb hby at_70) ?_
          exact k)
        by_cases hc114 : bt0 = (1 : Int32)
        · skip
          have ohc114 : bt0.toInt = 1 := own_eq.mp hc114
          refine ⟨(1 : Int32), ?_, fun t k => pre115 t ?_⟩
          · exact own_c1 (by omega)
          · skip
            show Steps p.tables e below (T110.setTop (mkF m 71 #[.val (.int p0), .val (.int p1), .val (.int p2), .val (.int (5 : Int32)), .val (.int bt0), .val (.int bt1), .val (.int bt2), .val (.int bt3), .val (.int bt4), .val (.int bt5), .val (.ref b110), .unset, .unset, .unset, .unset, .unset, .unset, .unset, .unset, .unset, .unset, .unset, .unset, .unset] [(.int (1 : Int32)), (.int bt0), (.int (0 : Int32)), (.ref b110)])) _
            refine XS.icmpNo X110.here hx rfl (hb hby at_71) rfl (teq hc114).2 ?_
            show Steps p.tables e below (T110.setTop (mkF m 74 #[.val (.int p0), .val (.int p1), .val (.int p2), .val (.int (5 : Int32)), .val (.int bt0), .val (.int bt1), .val (.int bt2), .val (.int bt3), .val (.int bt4), .val (.int bt5), .val (.ref b110), .unset, .unset, .unset, .unset, .unset, .unset, .unset, .unset, .unset, .unset, .unset, .unset, .unset] [(.int (0 : Int32)), (.ref b110)])) _
            refine XS.iconst X110.here hx rfl (hb hby at_74) ?_
            show Steps p.tables e below (T110.setTop (mkF m 75 #[.val (.int p0), .val (.int p1), .val (.int p2), .val (.int (5 : Int32)), .val (.int bt0), .val (.int bt1), .val (.int bt2), .val (.int bt3), .val (.int bt4), .val (.int bt5), .val (.ref b110), .unset, .unset, .unset, .unset, .unset, .unset, .unset, .unset, .unset, .unset, .unset, .unset, .unset] [(.int (1 : Int32)), (.int (0 : Int32)), (.ref b110)])) _
            refine XS.goto X110.here hx rfl (pc0 := 75) (pc' := 79) rfl (hb hby at_75) (by decide) (by decide) ?_
            exact k
        · skip
          have ohc114 : ¬ (bt0.toInt = 1) := own_neq.mp hc114
          refine ⟨(0 : Int32), ?_, fun t k => pre115 t ?_⟩
          · exact own_c0 (by omega)
          · skip
            show Steps p.tables e below (T110.setTop (mkF m 71 #[.val (.int p0), .val (.int p1), .val (.int p2), .val (.int (5 : Int32)), .val (.int bt0), .val (.int bt1), .val (.int bt2), .val (.int bt3), .val (.int bt4), .val (.int bt5), .val (.ref b110), .unset, .unset, .unset, .unset, .unset, .unset, .unset, .unset, .unset, .unset, .unset, .unset, .unset] [(.int (1 : Int32)), (.int bt0), (.int (0 : Int32)), (.ref b110)])) _
            refine XS.icmpYes X110.here hx rfl (pc0 := 71) (pc' := 78) rfl (hb hby at_71) rfl (feq hc114).2 (by decide) (by decide) ?_
            show Steps p.tables e below (T110.setTop (mkF m 78 #[.val (.int p0), .val (.int p1), .val (.int p2), .val (.int (5 : Int32)), .val (.int bt0), .val (.int bt1), .val (.int bt2), .val (.int bt3), .val (.int bt4), .val (.int bt5), .val (.ref b110), .unset, .unset, .unset, .unset, .unset, .unset, .unset, .unset, .unset, .unset, .unset, .unset, .unset] [(.int (0 : Int32)), (.ref b110)])) _
            refine XS.iconst X110.here hx rfl (hb hby at_78) ?_
            exact k
      obtain ⟨cl116, Ar116, q116, Sz116, Nn116, Hh116, Gg116⟩ := id V110
      have hin116 : ¬ ((0 : Int32) < 0 ∨ cl116.slots.size ≤ ((0 : Int32)).toNatClampNeg) := inb_of Sz116 ⟨by decide, by decide⟩
      obtain ⟨T117, h117, X117, e117, W117, st117⟩ := stZ X110 hx hZ e110 Ar116 (j := (0 : Int32)) hin116 (g := (mkF m 79 #[.val (.int p0), .val (.int p1), .val (.int p2), .val (.int (5 : Int32)), .val (.int bt0), .val (.int bt1), .val (.int bt2), .val (.int bt3), .val (.int bt4), .val (.int bt5), .val (.ref b110), .unset, .unset, .unset, .unset, .unset, .unset, .unset, .unset, .unset, .unset, .unset, .unset, .unset] [(.int (bI (bt0.toInt = 1))), (.int (0 : Int32)), (.ref b110)])) rfl rfl (hb hby at_79)
      have V117 : Arv Z h117 b110 k110 .boolean (5 : Int32) [(.int (nar .boolean (bI (bt0.toInt = 1)))), (.int (0 : Int32)), (.int (0 : Int32)), (.int (0 : Int32)), (.int (0 : Int32))] (.int (0 : Int32)) := Arv.set Ar116 q116 Sz116 Nn116 Hh116 Gg116 (fits_nar_bool _) W117 0 rfl (Nat.le_of_ble_eq_true rfl)
      have N117 := Fr.snoc X117 N7 g_b110
      have Z117 : n0 ≤ h117.size := Nat.le_trans Z110 (Keep.of_wr W117).1
      have K117 : Keep h0 h117 [] := K110.wr W117 (Or.inr sz_b110)
      have hc118 : (1 : Int32) < (5 : Int32) := by decide
      have pre119 : ∀ t, Steps p.tables e below (T117.setTop (mkF m 88 #[.val (.int p0), .val (.int p1), .val (.int p2), .val (.int (5 : Int32)), .val (.int bt0), .val (.int bt1), .val (.int bt2), .val (.int bt3), .val (.int bt4), .val (.int bt5), .val (.ref b110), .unset, .unset, .unset, .unset, .unset, .unset, .unset, .unset, .unset, .unset, .unset, .unset, .unset] [(.int (1 : Int32)), (.ref b110)])) t → Steps p.tables e below (s₁.setTop (mkF m 0 #[.val (.int p0), .val (.int p1), .val (.int p2), .unset, .unset, .unset, .unset, .unset, .unset, .unset, .unset, .unset, .unset, .unset, .unset, .unset, .unset, .unset, .unset, .unset, .unset, .unset, .unset, .unset] [])) t := fun t k => pre113 t (by
        show Steps p.tables e below (T110.setTop (mkF m 79 #[.val (.int p0), .val (.int p1), .val (.int p2), .val (.int (5 : Int32)), .val (.int bt0), .val (.int bt1), .val (.int bt2), .val (.int bt3), .val (.int bt4), .val (.int bt5), .val (.ref b110), .unset, .unset, .unset, .unset, .unset, .unset, .unset, .unset, .unset, .unset, .unset, .unset, .unset] [(.int (bI (bt0.toInt = 1))), (.int (0 : Int32)), (.ref b110)])) _
        refine st117 _ ?_
        show Steps p.tables e below (T117.setTop (mkF m 80 #[.val (.int p0), .val (.int p1), .val (.int p2), .val (.int (5 : Int32)), .val (.int bt0), .val (.int bt1), .val (.int bt2), .val (.int bt3), .val (.int bt4), .val (.int bt5), .val (.ref b110), .unset, .unset, .unset, .unset, .unset, .unset, .unset, .unset, .unset, .unset, .unset, .unset, .unset] [])) _
        refine XS.iloadN X117.here hx rfl (hb hby at_80) rfl ?_
        show Steps p.tables e below (T117.setTop (mkF m 81 #[.val (.int p0), .val (.int p1), .val (.int p2), .val (.int (5 : Int32)), .val (.int bt0), .val (.int bt1), .val (.int bt2), .val (.int bt3), .val (.int bt4), .val (.int bt5), .val (.ref b110), .unset, .unset, .unset, .unset, .unset, .unset, .unset, .unset, .unset, .unset, .unset, .unset, .unset] [(.int (5 : Int32))])) _
        refine XS.iconst X117.here hx rfl (hb hby at_81) ?_
        show Steps p.tables e below (T117.setTop (mkF m 82 #[.val (.int p0), .val (.int p1), .val (.int p2), .val (.int (5 : Int32)), .val (.int bt0), .val (.int bt1), .val (.int bt2), .val (.int bt3), .val (.int bt4), .val (.int bt5), .val (.ref b110), .unset, .unset, .unset, .unset, .unset, .unset, .unset, .unset, .unset, .unset, .unset, .unset, .unset] [(.int (1 : Int32)), (.int (5 : Int32))])) _
        refine XS.icmpNo X117.here hx rfl (hb hby at_82) rfl (tlt hc118).2.2.2 ?_
        show Steps p.tables e below (T117.setTop (mkF m 85 #[.val (.int p0), .val (.int p1), .val (.int p2), .val (.int (5 : Int32)), .val (.int bt0), .val (.int bt1), .val (.int bt2), .val (.int bt3), .val (.int bt4), .val (.int bt5), .val (.ref b110), .unset, .unset, .unset, .unset, .unset, .unset, .unset, .unset, .unset, .unset, .unset, .unset, .unset] [])) _
        refine XS.aload X117.here hx rfl (hb hby at_85) rfl rfl ?_
        show Steps p.tables e below (T117.setTop (mkF m 87 #[.val (.int p0), .val (.int p1), .val (.int p2), .val (.int (5 : Int32)), .val (.int bt0), .val (.int bt1), .val (.int bt2), .val (.int bt3), .val (.int bt4), .val (.int bt5), .val (.ref b110), .unset, .unset, .unset, .unset, .unset, .unset, .unset, .unset, .unset, .unset, .unset, .unset, .unset] [(.ref b110)])) _
        refine XS.iconst X117.here hx rfl (hb hby at_87) ?_
        exact k)
      obtain ⟨v1, rfl, pre120⟩ : ∃ (v1 : Int32), (v1 = bI (bt1.toInt = 1)) ∧ ∀ t, Steps p.tables e below (T117.setTop (mkF m 99 #[.val (.int p0), .val (.int p1), .val (.int p2), .val (.int (5 : Int32)), .val (.int bt0), .val (.int bt1), .val (.int bt2), .val (.int bt3), .val (.int bt4), .val (.int bt5), .val (.ref b110), .unset, .unset, .unset, .unset, .unset, .unset, .unset, .unset, .unset, .unset, .unset, .unset, .unset] [(.int v1), (.int (1 : Int32)), (.ref b110)])) t → Steps p.tables e below (s₁.setTop (mkF m 0 #[.val (.int p0), .val (.int p1), .val (.int p2), .unset, .unset, .unset, .unset, .unset, .unset, .unset, .unset, .unset, .unset, .unset, .unset, .unset, .unset, .unset, .unset, .unset, .unset, .unset, .unset, .unset] [])) t := by
        have pre122 : ∀ t, Steps p.tables e below (T117.setTop (mkF m 91 #[.val (.int p0), .val (.int p1), .val (.int p2), .val (.int (5 : Int32)), .val (.int bt0), .val (.int bt1), .val (.int bt2), .val (.int bt3), .val (.int bt4), .val (.int bt5), .val (.ref b110), .unset, .unset, .unset, .unset, .unset, .unset, .unset, .unset, .unset, .unset, .unset, .unset, .unset] [(.int (1 : Int32)), (.int bt1), (.int (1 : Int32)), (.ref b110)])) t → Steps p.tables e below (s₁.setTop (mkF m 0 #[.val (.int p0), .val (.int p1), .val (.int p2), .unset, .unset, .unset, .unset, .unset, .unset, .unset, .unset, .unset, .unset, .unset, .unset, .unset, .unset, .unset, .unset, .unset, .unset, .unset, .unset, .unset] [])) t := fun t k => pre119 t (by
          show Steps p.tables e below (T117.setTop (mkF m 88 #[.val (.int p0), .val (.int p1), .val (.int p2), .val (.int (5 : Int32)), .val (.int bt0), .val (.int bt1), .val (.int bt2), .val (.int bt3), .val (.int bt4), .val (.int bt5), .val (.ref b110), .unset, .unset, .unset, .unset, .unset, .unset, .unset, .unset, .unset, .unset, .unset, .unset, .unset] [(.int (1 : Int32)), (.ref b110)])) _
          refine XS.iload X117.here hx rfl (hb hby at_88) rfl ?_
          show Steps p.tables e below (T117.setTop (mkF m 90 #[.val (.int p0), .val (.int p1), .val (.int p2), .val (.int (5 : Int32)), .val (.int bt0), .val (.int bt1), .val (.int bt2), .val (.int bt3), .val (.int bt4), .val (.int bt5), .val (.ref b110), .unset, .unset, .unset, .unset, .unset, .unset, .unset, .unset, .unset, .unset, .unset, .unset, .unset] [(.int bt1), (.int (1 : Int32)), (.ref b110)])) _
          refine XS.iconst X117.here hx rfl (hb hby at_90) ?_
          exact k)
        by_cases hc121 : bt1 = (1 : Int32)
        · skip
          have ohc121 : bt1.toInt = 1 := own_eq.mp hc121
          refine ⟨(1 : Int32), ?_, fun t k => pre122 t ?_⟩
          · exact own_c1 (by omega)
          · skip
            show Steps p.tables e below (T117.setTop (mkF m 91 #[.val (.int p0), .val (.int p1), .val (.int p2), .val (.int (5 : Int32)), .val (.int bt0), .val (.int bt1), .val (.int bt2), .val (.int bt3), .val (.int bt4), .val (.int bt5), .val (.ref b110), .unset, .unset, .unset, .unset, .unset, .unset, .unset, .unset, .unset, .unset, .unset, .unset, .unset] [(.int (1 : Int32)), (.int bt1), (.int (1 : Int32)), (.ref b110)])) _
            refine XS.icmpNo X117.here hx rfl (hb hby at_91) rfl (teq hc121).2 ?_
            show Steps p.tables e below (T117.setTop (mkF m 94 #[.val (.int p0), .val (.int p1), .val (.int p2), .val (.int (5 : Int32)), .val (.int bt0), .val (.int bt1), .val (.int bt2), .val (.int bt3), .val (.int bt4), .val (.int bt5), .val (.ref b110), .unset, .unset, .unset, .unset, .unset, .unset, .unset, .unset, .unset, .unset, .unset, .unset, .unset] [(.int (1 : Int32)), (.ref b110)])) _
            refine XS.iconst X117.here hx rfl (hb hby at_94) ?_
            show Steps p.tables e below (T117.setTop (mkF m 95 #[.val (.int p0), .val (.int p1), .val (.int p2), .val (.int (5 : Int32)), .val (.int bt0), .val (.int bt1), .val (.int bt2), .val (.int bt3), .val (.int bt4), .val (.int bt5), .val (.ref b110), .unset, .unset, .unset, .unset, .unset, .unset, .unset, .unset, .unset, .unset, .unset, .unset, .unset] [(.int (1 : Int32)), (.int (1 : Int32)), (.ref b110)])) _
            refine XS.goto X117.here hx rfl (pc0 := 95) (pc' := 99) rfl (hb hby at_95) (by decide) (by decide) ?_
            exact k
        · skip
          have ohc121 : ¬ (bt1.toInt = 1) := own_neq.mp hc121
          refine ⟨(0 : Int32), ?_, fun t k => pre122 t ?_⟩
          · exact own_c0 (by omega)
          · skip
            show Steps p.tables e below (T117.setTop (mkF m 91 #[.val (.int p0), .val (.int p1), .val (.int p2), .val (.int (5 : Int32)), .val (.int bt0), .val (.int bt1), .val (.int bt2), .val (.int bt3), .val (.int bt4), .val (.int bt5), .val (.ref b110), .unset, .unset, .unset, .unset, .unset, .unset, .unset, .unset, .unset, .unset, .unset, .unset, .unset] [(.int (1 : Int32)), (.int bt1), (.int (1 : Int32)), (.ref b110)])) _
            refine XS.icmpYes X117.here hx rfl (pc0 := 91) (pc' := 98) rfl (hb hby at_91) rfl (feq hc121).2 (by decide) (by decide) ?_
            show Steps p.tables e below (T117.setTop (mkF m 98 #[.val (.int p0), .val (.int p1), .val (.int p2), .val (.int (5 : Int32)), .val (.int bt0), .val (.int bt1), .val (.int bt2), .val (.int bt3), .val (.int bt4), .val (.int bt5), .val (.ref b110), .unset, .unset, .unset, .unset, .unset, .unset, .unset, .unset, .unset, .unset, .unset, .unset, .unset] [(.int (1 : Int32)), (.ref b110)])) _
            refine XS.iconst X117.here hx rfl (hb hby at_98) ?_
            exact k
      obtain ⟨cl123, Ar123, q123, Sz123, Nn123, Hh123, Gg123⟩ := id V117
      have hin123 : ¬ ((1 : Int32) < 0 ∨ cl123.slots.size ≤ ((1 : Int32)).toNatClampNeg) := inb_of Sz123 ⟨by decide, by decide⟩
      obtain ⟨T124, h124, X124, e124, W124, st124⟩ := stZ X117 hx hZ e117 Ar123 (j := (1 : Int32)) hin123 (g := (mkF m 99 #[.val (.int p0), .val (.int p1), .val (.int p2), .val (.int (5 : Int32)), .val (.int bt0), .val (.int bt1), .val (.int bt2), .val (.int bt3), .val (.int bt4), .val (.int bt5), .val (.ref b110), .unset, .unset, .unset, .unset, .unset, .unset, .unset, .unset, .unset, .unset, .unset, .unset, .unset] [(.int (bI (bt1.toInt = 1))), (.int (1 : Int32)), (.ref b110)])) rfl rfl (hb hby at_99)
      have V124 : Arv Z h124 b110 k110 .boolean (5 : Int32) [(.int (nar .boolean (bI (bt0.toInt = 1)))), (.int (nar .boolean (bI (bt1.toInt = 1)))), (.int (0 : Int32)), (.int (0 : Int32)), (.int (0 : Int32))] (.int (0 : Int32)) := Arv.set Ar123 q123 Sz123 Nn123 Hh123 Gg123 (fits_nar_bool _) W124 1 rfl (Nat.le_of_ble_eq_true rfl)
      have N124 := Fr.snoc X124 N117 g_b110
      have Z124 : n0 ≤ h124.size := Nat.le_trans Z117 (Keep.of_wr W124).1
      have K124 : Keep h0 h124 [] := K117.wr W124 (Or.inr sz_b110)
      have hc125 : (2 : Int32) < (5 : Int32) := by decide
      have pre126 : ∀ t, Steps p.tables e below (T124.setTop (mkF m 108 #[.val (.int p0), .val (.int p1), .val (.int p2), .val (.int (5 : Int32)), .val (.int bt0), .val (.int bt1), .val (.int bt2), .val (.int bt3), .val (.int bt4), .val (.int bt5), .val (.ref b110), .unset, .unset, .unset, .unset, .unset, .unset, .unset, .unset, .unset, .unset, .unset, .unset, .unset] [(.int (2 : Int32)), (.ref b110)])) t → Steps p.tables e below (s₁.setTop (mkF m 0 #[.val (.int p0), .val (.int p1), .val (.int p2), .unset, .unset, .unset, .unset, .unset, .unset, .unset, .unset, .unset, .unset, .unset, .unset, .unset, .unset, .unset, .unset, .unset, .unset, .unset, .unset, .unset] [])) t := fun t k => pre120 t (by
        show Steps p.tables e below (T117.setTop (mkF m 99 #[.val (.int p0), .val (.int p1), .val (.int p2), .val (.int (5 : Int32)), .val (.int bt0), .val (.int bt1), .val (.int bt2), .val (.int bt3), .val (.int bt4), .val (.int bt5), .val (.ref b110), .unset, .unset, .unset, .unset, .unset, .unset, .unset, .unset, .unset, .unset, .unset, .unset, .unset] [(.int (bI (bt1.toInt = 1))), (.int (1 : Int32)), (.ref b110)])) _
        refine st124 _ ?_
        show Steps p.tables e below (T124.setTop (mkF m 100 #[.val (.int p0), .val (.int p1), .val (.int p2), .val (.int (5 : Int32)), .val (.int bt0), .val (.int bt1), .val (.int bt2), .val (.int bt3), .val (.int bt4), .val (.int bt5), .val (.ref b110), .unset, .unset, .unset, .unset, .unset, .unset, .unset, .unset, .unset, .unset, .unset, .unset, .unset] [])) _
        refine XS.iloadN X124.here hx rfl (hb hby at_100) rfl ?_
        show Steps p.tables e below (T124.setTop (mkF m 101 #[.val (.int p0), .val (.int p1), .val (.int p2), .val (.int (5 : Int32)), .val (.int bt0), .val (.int bt1), .val (.int bt2), .val (.int bt3), .val (.int bt4), .val (.int bt5), .val (.ref b110), .unset, .unset, .unset, .unset, .unset, .unset, .unset, .unset, .unset, .unset, .unset, .unset, .unset] [(.int (5 : Int32))])) _
        refine XS.iconst X124.here hx rfl (hb hby at_101) ?_
        show Steps p.tables e below (T124.setTop (mkF m 102 #[.val (.int p0), .val (.int p1), .val (.int p2), .val (.int (5 : Int32)), .val (.int bt0), .val (.int bt1), .val (.int bt2), .val (.int bt3), .val (.int bt4), .val (.int bt5), .val (.ref b110), .unset, .unset, .unset, .unset, .unset, .unset, .unset, .unset, .unset, .unset, .unset, .unset, .unset] [(.int (2 : Int32)), (.int (5 : Int32))])) _
        refine XS.icmpNo X124.here hx rfl (hb hby at_102) rfl (tlt hc125).2.2.2 ?_
        show Steps p.tables e below (T124.setTop (mkF m 105 #[.val (.int p0), .val (.int p1), .val (.int p2), .val (.int (5 : Int32)), .val (.int bt0), .val (.int bt1), .val (.int bt2), .val (.int bt3), .val (.int bt4), .val (.int bt5), .val (.ref b110), .unset, .unset, .unset, .unset, .unset, .unset, .unset, .unset, .unset, .unset, .unset, .unset, .unset] [])) _
        refine XS.aload X124.here hx rfl (hb hby at_105) rfl rfl ?_
        show Steps p.tables e below (T124.setTop (mkF m 107 #[.val (.int p0), .val (.int p1), .val (.int p2), .val (.int (5 : Int32)), .val (.int bt0), .val (.int bt1), .val (.int bt2), .val (.int bt3), .val (.int bt4), .val (.int bt5), .val (.ref b110), .unset, .unset, .unset, .unset, .unset, .unset, .unset, .unset, .unset, .unset, .unset, .unset, .unset] [(.ref b110)])) _
        refine XS.iconst X124.here hx rfl (hb hby at_107) ?_
        exact k)
      obtain ⟨v2, rfl, pre127⟩ : ∃ (v2 : Int32), (v2 = bI (bt2.toInt = 1)) ∧ ∀ t, Steps p.tables e below (T124.setTop (mkF m 119 #[.val (.int p0), .val (.int p1), .val (.int p2), .val (.int (5 : Int32)), .val (.int bt0), .val (.int bt1), .val (.int bt2), .val (.int bt3), .val (.int bt4), .val (.int bt5), .val (.ref b110), .unset, .unset, .unset, .unset, .unset, .unset, .unset, .unset, .unset, .unset, .unset, .unset, .unset] [(.int v2), (.int (2 : Int32)), (.ref b110)])) t → Steps p.tables e below (s₁.setTop (mkF m 0 #[.val (.int p0), .val (.int p1), .val (.int p2), .unset, .unset, .unset, .unset, .unset, .unset, .unset, .unset, .unset, .unset, .unset, .unset, .unset, .unset, .unset, .unset, .unset, .unset, .unset, .unset, .unset] [])) t := by
        have pre129 : ∀ t, Steps p.tables e below (T124.setTop (mkF m 111 #[.val (.int p0), .val (.int p1), .val (.int p2), .val (.int (5 : Int32)), .val (.int bt0), .val (.int bt1), .val (.int bt2), .val (.int bt3), .val (.int bt4), .val (.int bt5), .val (.ref b110), .unset, .unset, .unset, .unset, .unset, .unset, .unset, .unset, .unset, .unset, .unset, .unset, .unset] [(.int (1 : Int32)), (.int bt2), (.int (2 : Int32)), (.ref b110)])) t → Steps p.tables e below (s₁.setTop (mkF m 0 #[.val (.int p0), .val (.int p1), .val (.int p2), .unset, .unset, .unset, .unset, .unset, .unset, .unset, .unset, .unset, .unset, .unset, .unset, .unset, .unset, .unset, .unset, .unset, .unset, .unset, .unset, .unset] [])) t := fun t k => pre126 t (by
          show Steps p.tables e below (T124.setTop (mkF m 108 #[.val (.int p0), .val (.int p1), .val (.int p2), .val (.int (5 : Int32)), .val (.int bt0), .val (.int bt1), .val (.int bt2), .val (.int bt3), .val (.int bt4), .val (.int bt5), .val (.ref b110), .unset, .unset, .unset, .unset, .unset, .unset, .unset, .unset, .unset, .unset, .unset, .unset, .unset] [(.int (2 : Int32)), (.ref b110)])) _
          refine XS.iload X124.here hx rfl (hb hby at_108) rfl ?_
          show Steps p.tables e below (T124.setTop (mkF m 110 #[.val (.int p0), .val (.int p1), .val (.int p2), .val (.int (5 : Int32)), .val (.int bt0), .val (.int bt1), .val (.int bt2), .val (.int bt3), .val (.int bt4), .val (.int bt5), .val (.ref b110), .unset, .unset, .unset, .unset, .unset, .unset, .unset, .unset, .unset, .unset, .unset, .unset, .unset] [(.int bt2), (.int (2 : Int32)), (.ref b110)])) _
          refine XS.iconst X124.here hx rfl (hb hby at_110) ?_
          exact k)
        by_cases hc128 : bt2 = (1 : Int32)
        · skip
          have ohc128 : bt2.toInt = 1 := own_eq.mp hc128
          refine ⟨(1 : Int32), ?_, fun t k => pre129 t ?_⟩
          · exact own_c1 (by omega)
          · skip
            show Steps p.tables e below (T124.setTop (mkF m 111 #[.val (.int p0), .val (.int p1), .val (.int p2), .val (.int (5 : Int32)), .val (.int bt0), .val (.int bt1), .val (.int bt2), .val (.int bt3), .val (.int bt4), .val (.int bt5), .val (.ref b110), .unset, .unset, .unset, .unset, .unset, .unset, .unset, .unset, .unset, .unset, .unset, .unset, .unset] [(.int (1 : Int32)), (.int bt2), (.int (2 : Int32)), (.ref b110)])) _
            refine XS.icmpNo X124.here hx rfl (hb hby at_111) rfl (teq hc128).2 ?_
            show Steps p.tables e below (T124.setTop (mkF m 114 #[.val (.int p0), .val (.int p1), .val (.int p2), .val (.int (5 : Int32)), .val (.int bt0), .val (.int bt1), .val (.int bt2), .val (.int bt3), .val (.int bt4), .val (.int bt5), .val (.ref b110), .unset, .unset, .unset, .unset, .unset, .unset, .unset, .unset, .unset, .unset, .unset, .unset, .unset] [(.int (2 : Int32)), (.ref b110)])) _
            refine XS.iconst X124.here hx rfl (hb hby at_114) ?_
            show Steps p.tables e below (T124.setTop (mkF m 115 #[.val (.int p0), .val (.int p1), .val (.int p2), .val (.int (5 : Int32)), .val (.int bt0), .val (.int bt1), .val (.int bt2), .val (.int bt3), .val (.int bt4), .val (.int bt5), .val (.ref b110), .unset, .unset, .unset, .unset, .unset, .unset, .unset, .unset, .unset, .unset, .unset, .unset, .unset] [(.int (1 : Int32)), (.int (2 : Int32)), (.ref b110)])) _
            refine XS.goto X124.here hx rfl (pc0 := 115) (pc' := 119) rfl (hb hby at_115) (by decide) (by decide) ?_
            exact k
        · skip
          have ohc128 : ¬ (bt2.toInt = 1) := own_neq.mp hc128
          refine ⟨(0 : Int32), ?_, fun t k => pre129 t ?_⟩
          · exact own_c0 (by omega)
          · skip
            show Steps p.tables e below (T124.setTop (mkF m 111 #[.val (.int p0), .val (.int p1), .val (.int p2), .val (.int (5 : Int32)), .val (.int bt0), .val (.int bt1), .val (.int bt2), .val (.int bt3), .val (.int bt4), .val (.int bt5), .val (.ref b110), .unset, .unset, .unset, .unset, .unset, .unset, .unset, .unset, .unset, .unset, .unset, .unset, .unset] [(.int (1 : Int32)), (.int bt2), (.int (2 : Int32)), (.ref b110)])) _
            refine XS.icmpYes X124.here hx rfl (pc0 := 111) (pc' := 118) rfl (hb hby at_111) rfl (feq hc128).2 (by decide) (by decide) ?_
            show Steps p.tables e below (T124.setTop (mkF m 118 #[.val (.int p0), .val (.int p1), .val (.int p2), .val (.int (5 : Int32)), .val (.int bt0), .val (.int bt1), .val (.int bt2), .val (.int bt3), .val (.int bt4), .val (.int bt5), .val (.ref b110), .unset, .unset, .unset, .unset, .unset, .unset, .unset, .unset, .unset, .unset, .unset, .unset, .unset] [(.int (2 : Int32)), (.ref b110)])) _
            refine XS.iconst X124.here hx rfl (hb hby at_118) ?_
            exact k
      obtain ⟨cl130, Ar130, q130, Sz130, Nn130, Hh130, Gg130⟩ := id V124
      have hin130 : ¬ ((2 : Int32) < 0 ∨ cl130.slots.size ≤ ((2 : Int32)).toNatClampNeg) := inb_of Sz130 ⟨by decide, by decide⟩
      obtain ⟨T131, h131, X131, e131, W131, st131⟩ := stZ X124 hx hZ e124 Ar130 (j := (2 : Int32)) hin130 (g := (mkF m 119 #[.val (.int p0), .val (.int p1), .val (.int p2), .val (.int (5 : Int32)), .val (.int bt0), .val (.int bt1), .val (.int bt2), .val (.int bt3), .val (.int bt4), .val (.int bt5), .val (.ref b110), .unset, .unset, .unset, .unset, .unset, .unset, .unset, .unset, .unset, .unset, .unset, .unset, .unset] [(.int (bI (bt2.toInt = 1))), (.int (2 : Int32)), (.ref b110)])) rfl rfl (hb hby at_119)
      have V131 : Arv Z h131 b110 k110 .boolean (5 : Int32) [(.int (nar .boolean (bI (bt0.toInt = 1)))), (.int (nar .boolean (bI (bt1.toInt = 1)))), (.int (nar .boolean (bI (bt2.toInt = 1)))), (.int (0 : Int32)), (.int (0 : Int32))] (.int (0 : Int32)) := Arv.set Ar130 q130 Sz130 Nn130 Hh130 Gg130 (fits_nar_bool _) W131 2 rfl (Nat.le_of_ble_eq_true rfl)
      have N131 := Fr.snoc X131 N124 g_b110
      have Z131 : n0 ≤ h131.size := Nat.le_trans Z124 (Keep.of_wr W131).1
      have K131 : Keep h0 h131 [] := K124.wr W131 (Or.inr sz_b110)
      have hc132 : (3 : Int32) < (5 : Int32) := by decide
      have pre133 : ∀ t, Steps p.tables e below (T131.setTop (mkF m 128 #[.val (.int p0), .val (.int p1), .val (.int p2), .val (.int (5 : Int32)), .val (.int bt0), .val (.int bt1), .val (.int bt2), .val (.int bt3), .val (.int bt4), .val (.int bt5), .val (.ref b110), .unset, .unset, .unset, .unset, .unset, .unset, .unset, .unset, .unset, .unset, .unset, .unset, .unset] [(.int (3 : Int32)), (.ref b110)])) t → Steps p.tables e below (s₁.setTop (mkF m 0 #[.val (.int p0), .val (.int p1), .val (.int p2), .unset, .unset, .unset, .unset, .unset, .unset, .unset, .unset, .unset, .unset, .unset, .unset, .unset, .unset, .unset, .unset, .unset, .unset, .unset, .unset, .unset] [])) t := fun t k => pre127 t (by
        show Steps p.tables e below (T124.setTop (mkF m 119 #[.val (.int p0), .val (.int p1), .val (.int p2), .val (.int (5 : Int32)), .val (.int bt0), .val (.int bt1), .val (.int bt2), .val (.int bt3), .val (.int bt4), .val (.int bt5), .val (.ref b110), .unset, .unset, .unset, .unset, .unset, .unset, .unset, .unset, .unset, .unset, .unset, .unset, .unset] [(.int (bI (bt2.toInt = 1))), (.int (2 : Int32)), (.ref b110)])) _
        refine st131 _ ?_
        show Steps p.tables e below (T131.setTop (mkF m 120 #[.val (.int p0), .val (.int p1), .val (.int p2), .val (.int (5 : Int32)), .val (.int bt0), .val (.int bt1), .val (.int bt2), .val (.int bt3), .val (.int bt4), .val (.int bt5), .val (.ref b110), .unset, .unset, .unset, .unset, .unset, .unset, .unset, .unset, .unset, .unset, .unset, .unset, .unset] [])) _
        refine XS.iloadN X131.here hx rfl (hb hby at_120) rfl ?_
        show Steps p.tables e below (T131.setTop (mkF m 121 #[.val (.int p0), .val (.int p1), .val (.int p2), .val (.int (5 : Int32)), .val (.int bt0), .val (.int bt1), .val (.int bt2), .val (.int bt3), .val (.int bt4), .val (.int bt5), .val (.ref b110), .unset, .unset, .unset, .unset, .unset, .unset, .unset, .unset, .unset, .unset, .unset, .unset, .unset] [(.int (5 : Int32))])) _
        refine XS.iconst X131.here hx rfl (hb hby at_121) ?_
        show Steps p.tables e below (T131.setTop (mkF m 122 #[.val (.int p0), .val (.int p1), .val (.int p2), .val (.int (5 : Int32)), .val (.int bt0), .val (.int bt1), .val (.int bt2), .val (.int bt3), .val (.int bt4), .val (.int bt5), .val (.ref b110), .unset, .unset, .unset, .unset, .unset, .unset, .unset, .unset, .unset, .unset, .unset, .unset, .unset] [(.int (3 : Int32)), (.int (5 : Int32))])) _
        refine XS.icmpNo X131.here hx rfl (hb hby at_122) rfl (tlt hc132).2.2.2 ?_
        show Steps p.tables e below (T131.setTop (mkF m 125 #[.val (.int p0), .val (.int p1), .val (.int p2), .val (.int (5 : Int32)), .val (.int bt0), .val (.int bt1), .val (.int bt2), .val (.int bt3), .val (.int bt4), .val (.int bt5), .val (.ref b110), .unset, .unset, .unset, .unset, .unset, .unset, .unset, .unset, .unset, .unset, .unset, .unset, .unset] [])) _
        refine XS.aload X131.here hx rfl (hb hby at_125) rfl rfl ?_
        show Steps p.tables e below (T131.setTop (mkF m 127 #[.val (.int p0), .val (.int p1), .val (.int p2), .val (.int (5 : Int32)), .val (.int bt0), .val (.int bt1), .val (.int bt2), .val (.int bt3), .val (.int bt4), .val (.int bt5), .val (.ref b110), .unset, .unset, .unset, .unset, .unset, .unset, .unset, .unset, .unset, .unset, .unset, .unset, .unset] [(.ref b110)])) _
        refine XS.iconst X131.here hx rfl (hb hby at_127) ?_
        exact k)
      obtain ⟨v3, rfl, pre134⟩ : ∃ (v3 : Int32), (v3 = bI (bt3.toInt = 1)) ∧ ∀ t, Steps p.tables e below (T131.setTop (mkF m 139 #[.val (.int p0), .val (.int p1), .val (.int p2), .val (.int (5 : Int32)), .val (.int bt0), .val (.int bt1), .val (.int bt2), .val (.int bt3), .val (.int bt4), .val (.int bt5), .val (.ref b110), .unset, .unset, .unset, .unset, .unset, .unset, .unset, .unset, .unset, .unset, .unset, .unset, .unset] [(.int v3), (.int (3 : Int32)), (.ref b110)])) t → Steps p.tables e below (s₁.setTop (mkF m 0 #[.val (.int p0), .val (.int p1), .val (.int p2), .unset, .unset, .unset, .unset, .unset, .unset, .unset, .unset, .unset, .unset, .unset, .unset, .unset, .unset, .unset, .unset, .unset, .unset, .unset, .unset, .unset] [])) t := by
        have pre136 : ∀ t, Steps p.tables e below (T131.setTop (mkF m 131 #[.val (.int p0), .val (.int p1), .val (.int p2), .val (.int (5 : Int32)), .val (.int bt0), .val (.int bt1), .val (.int bt2), .val (.int bt3), .val (.int bt4), .val (.int bt5), .val (.ref b110), .unset, .unset, .unset, .unset, .unset, .unset, .unset, .unset, .unset, .unset, .unset, .unset, .unset] [(.int (1 : Int32)), (.int bt3), (.int (3 : Int32)), (.ref b110)])) t → Steps p.tables e below (s₁.setTop (mkF m 0 #[.val (.int p0), .val (.int p1), .val (.int p2), .unset, .unset, .unset, .unset, .unset, .unset, .unset, .unset, .unset, .unset, .unset, .unset, .unset, .unset, .unset, .unset, .unset, .unset, .unset, .unset, .unset] [])) t := fun t k => pre133 t (by
          show Steps p.tables e below (T131.setTop (mkF m 128 #[.val (.int p0), .val (.int p1), .val (.int p2), .val (.int (5 : Int32)), .val (.int bt0), .val (.int bt1), .val (.int bt2), .val (.int bt3), .val (.int bt4), .val (.int bt5), .val (.ref b110), .unset, .unset, .unset, .unset, .unset, .unset, .unset, .unset, .unset, .unset, .unset, .unset, .unset] [(.int (3 : Int32)), (.ref b110)])) _
          refine XS.iload X131.here hx rfl (hb hby at_128) rfl ?_
          show Steps p.tables e below (T131.setTop (mkF m 130 #[.val (.int p0), .val (.int p1), .val (.int p2), .val (.int (5 : Int32)), .val (.int bt0), .val (.int bt1), .val (.int bt2), .val (.int bt3), .val (.int bt4), .val (.int bt5), .val (.ref b110), .unset, .unset, .unset, .unset, .unset, .unset, .unset, .unset, .unset, .unset, .unset, .unset, .unset] [(.int bt3), (.int (3 : Int32)), (.ref b110)])) _
          refine XS.iconst X131.here hx rfl (hb hby at_130) ?_
          exact k)
        by_cases hc135 : bt3 = (1 : Int32)
        · skip
          have ohc135 : bt3.toInt = 1 := own_eq.mp hc135
          refine ⟨(1 : Int32), ?_, fun t k => pre136 t ?_⟩
          · exact own_c1 (by omega)
          · skip
            show Steps p.tables e below (T131.setTop (mkF m 131 #[.val (.int p0), .val (.int p1), .val (.int p2), .val (.int (5 : Int32)), .val (.int bt0), .val (.int bt1), .val (.int bt2), .val (.int bt3), .val (.int bt4), .val (.int bt5), .val (.ref b110), .unset, .unset, .unset, .unset, .unset, .unset, .unset, .unset, .unset, .unset, .unset, .unset, .unset] [(.int (1 : Int32)), (.int bt3), (.int (3 : Int32)), (.ref b110)])) _
            refine XS.icmpNo X131.here hx rfl (hb hby at_131) rfl (teq hc135).2 ?_
            show Steps p.tables e below (T131.setTop (mkF m 134 #[.val (.int p0), .val (.int p1), .val (.int p2), .val (.int (5 : Int32)), .val (.int bt0), .val (.int bt1), .val (.int bt2), .val (.int bt3), .val (.int bt4), .val (.int bt5), .val (.ref b110), .unset, .unset, .unset, .unset, .unset, .unset, .unset, .unset, .unset, .unset, .unset, .unset, .unset] [(.int (3 : Int32)), (.ref b110)])) _
            refine XS.iconst X131.here hx rfl (hb hby at_134) ?_
            show Steps p.tables e below (T131.setTop (mkF m 135 #[.val (.int p0), .val (.int p1), .val (.int p2), .val (.int (5 : Int32)), .val (.int bt0), .val (.int bt1), .val (.int bt2), .val (.int bt3), .val (.int bt4), .val (.int bt5), .val (.ref b110), .unset, .unset, .unset, .unset, .unset, .unset, .unset, .unset, .unset, .unset, .unset, .unset, .unset] [(.int (1 : Int32)), (.int (3 : Int32)), (.ref b110)])) _
            refine XS.goto X131.here hx rfl (pc0 := 135) (pc' := 139) rfl (hb hby at_135) (by decide) (by decide) ?_
            exact k
        · skip
          have ohc135 : ¬ (bt3.toInt = 1) := own_neq.mp hc135
          refine ⟨(0 : Int32), ?_, fun t k => pre136 t ?_⟩
          · exact own_c0 (by omega)
          · skip
            show Steps p.tables e below (T131.setTop (mkF m 131 #[.val (.int p0), .val (.int p1), .val (.int p2), .val (.int (5 : Int32)), .val (.int bt0), .val (.int bt1), .val (.int bt2), .val (.int bt3), .val (.int bt4), .val (.int bt5), .val (.ref b110), .unset, .unset, .unset, .unset, .unset, .unset, .unset, .unset, .unset, .unset, .unset, .unset, .unset] [(.int (1 : Int32)), (.int bt3), (.int (3 : Int32)), (.ref b110)])) _
            refine XS.icmpYes X131.here hx rfl (pc0 := 131) (pc' := 138) rfl (hb hby at_131) rfl (feq hc135).2 (by decide) (by decide) ?_
            show Steps p.tables e below (T131.setTop (mkF m 138 #[.val (.int p0), .val (.int p1), .val (.int p2), .val (.int (5 : Int32)), .val (.int bt0), .val (.int bt1), .val (.int bt2), .val (.int bt3), .val (.int bt4), .val (.int bt5), .val (.ref b110), .unset, .unset, .unset, .unset, .unset, .unset, .unset, .unset, .unset, .unset, .unset, .unset, .unset] [(.int (3 : Int32)), (.ref b110)])) _
            refine XS.iconst X131.here hx rfl (hb hby at_138) ?_
            exact k
      obtain ⟨cl137, Ar137, q137, Sz137, Nn137, Hh137, Gg137⟩ := id V131
      have hin137 : ¬ ((3 : Int32) < 0 ∨ cl137.slots.size ≤ ((3 : Int32)).toNatClampNeg) := inb_of Sz137 ⟨by decide, by decide⟩
      obtain ⟨T138, h138, X138, e138, W138, st138⟩ := stZ X131 hx hZ e131 Ar137 (j := (3 : Int32)) hin137 (g := (mkF m 139 #[.val (.int p0), .val (.int p1), .val (.int p2), .val (.int (5 : Int32)), .val (.int bt0), .val (.int bt1), .val (.int bt2), .val (.int bt3), .val (.int bt4), .val (.int bt5), .val (.ref b110), .unset, .unset, .unset, .unset, .unset, .unset, .unset, .unset, .unset, .unset, .unset, .unset, .unset] [(.int (bI (bt3.toInt = 1))), (.int (3 : Int32)), (.ref b110)])) rfl rfl (hb hby at_139)
      have V138 : Arv Z h138 b110 k110 .boolean (5 : Int32) [(.int (nar .boolean (bI (bt0.toInt = 1)))), (.int (nar .boolean (bI (bt1.toInt = 1)))), (.int (nar .boolean (bI (bt2.toInt = 1)))), (.int (nar .boolean (bI (bt3.toInt = 1)))), (.int (0 : Int32))] (.int (0 : Int32)) := Arv.set Ar137 q137 Sz137 Nn137 Hh137 Gg137 (fits_nar_bool _) W138 3 rfl (Nat.le_of_ble_eq_true rfl)
      have N138 := Fr.snoc X138 N131 g_b110
      have Z138 : n0 ≤ h138.size := Nat.le_trans Z131 (Keep.of_wr W138).1
      have K138 : Keep h0 h138 [] := K131.wr W138 (Or.inr sz_b110)
      have hc139 : (4 : Int32) < (5 : Int32) := by decide
      have pre140 : ∀ t, Steps p.tables e below (T138.setTop (mkF m 148 #[.val (.int p0), .val (.int p1), .val (.int p2), .val (.int (5 : Int32)), .val (.int bt0), .val (.int bt1), .val (.int bt2), .val (.int bt3), .val (.int bt4), .val (.int bt5), .val (.ref b110), .unset, .unset, .unset, .unset, .unset, .unset, .unset, .unset, .unset, .unset, .unset, .unset, .unset] [(.int (4 : Int32)), (.ref b110)])) t → Steps p.tables e below (s₁.setTop (mkF m 0 #[.val (.int p0), .val (.int p1), .val (.int p2), .unset, .unset, .unset, .unset, .unset, .unset, .unset, .unset, .unset, .unset, .unset, .unset, .unset, .unset, .unset, .unset, .unset, .unset, .unset, .unset, .unset] [])) t := fun t k => pre134 t (by
        show Steps p.tables e below (T131.setTop (mkF m 139 #[.val (.int p0), .val (.int p1), .val (.int p2), .val (.int (5 : Int32)), .val (.int bt0), .val (.int bt1), .val (.int bt2), .val (.int bt3), .val (.int bt4), .val (.int bt5), .val (.ref b110), .unset, .unset, .unset, .unset, .unset, .unset, .unset, .unset, .unset, .unset, .unset, .unset, .unset] [(.int (bI (bt3.toInt = 1))), (.int (3 : Int32)), (.ref b110)])) _
        refine st138 _ ?_
        show Steps p.tables e below (T138.setTop (mkF m 140 #[.val (.int p0), .val (.int p1), .val (.int p2), .val (.int (5 : Int32)), .val (.int bt0), .val (.int bt1), .val (.int bt2), .val (.int bt3), .val (.int bt4), .val (.int bt5), .val (.ref b110), .unset, .unset, .unset, .unset, .unset, .unset, .unset, .unset, .unset, .unset, .unset, .unset, .unset] [])) _
        refine XS.iloadN X138.here hx rfl (hb hby at_140) rfl ?_
        show Steps p.tables e below (T138.setTop (mkF m 141 #[.val (.int p0), .val (.int p1), .val (.int p2), .val (.int (5 : Int32)), .val (.int bt0), .val (.int bt1), .val (.int bt2), .val (.int bt3), .val (.int bt4), .val (.int bt5), .val (.ref b110), .unset, .unset, .unset, .unset, .unset, .unset, .unset, .unset, .unset, .unset, .unset, .unset, .unset] [(.int (5 : Int32))])) _
        refine XS.iconst X138.here hx rfl (hb hby at_141) ?_
        show Steps p.tables e below (T138.setTop (mkF m 142 #[.val (.int p0), .val (.int p1), .val (.int p2), .val (.int (5 : Int32)), .val (.int bt0), .val (.int bt1), .val (.int bt2), .val (.int bt3), .val (.int bt4), .val (.int bt5), .val (.ref b110), .unset, .unset, .unset, .unset, .unset, .unset, .unset, .unset, .unset, .unset, .unset, .unset, .unset] [(.int (4 : Int32)), (.int (5 : Int32))])) _
        refine XS.icmpNo X138.here hx rfl (hb hby at_142) rfl (tlt hc139).2.2.2 ?_
        show Steps p.tables e below (T138.setTop (mkF m 145 #[.val (.int p0), .val (.int p1), .val (.int p2), .val (.int (5 : Int32)), .val (.int bt0), .val (.int bt1), .val (.int bt2), .val (.int bt3), .val (.int bt4), .val (.int bt5), .val (.ref b110), .unset, .unset, .unset, .unset, .unset, .unset, .unset, .unset, .unset, .unset, .unset, .unset, .unset] [])) _
        refine XS.aload X138.here hx rfl (hb hby at_145) rfl rfl ?_
        show Steps p.tables e below (T138.setTop (mkF m 147 #[.val (.int p0), .val (.int p1), .val (.int p2), .val (.int (5 : Int32)), .val (.int bt0), .val (.int bt1), .val (.int bt2), .val (.int bt3), .val (.int bt4), .val (.int bt5), .val (.ref b110), .unset, .unset, .unset, .unset, .unset, .unset, .unset, .unset, .unset, .unset, .unset, .unset, .unset] [(.ref b110)])) _
        refine XS.iconst X138.here hx rfl (hb hby at_147) ?_
        exact k)
      obtain ⟨v4, rfl, pre141⟩ : ∃ (v4 : Int32), (v4 = bI (bt4.toInt = 1)) ∧ ∀ t, Steps p.tables e below (T138.setTop (mkF m 159 #[.val (.int p0), .val (.int p1), .val (.int p2), .val (.int (5 : Int32)), .val (.int bt0), .val (.int bt1), .val (.int bt2), .val (.int bt3), .val (.int bt4), .val (.int bt5), .val (.ref b110), .unset, .unset, .unset, .unset, .unset, .unset, .unset, .unset, .unset, .unset, .unset, .unset, .unset] [(.int v4), (.int (4 : Int32)), (.ref b110)])) t → Steps p.tables e below (s₁.setTop (mkF m 0 #[.val (.int p0), .val (.int p1), .val (.int p2), .unset, .unset, .unset, .unset, .unset, .unset, .unset, .unset, .unset, .unset, .unset, .unset, .unset, .unset, .unset, .unset, .unset, .unset, .unset, .unset, .unset] [])) t := by
        have pre143 : ∀ t, Steps p.tables e below (T138.setTop (mkF m 151 #[.val (.int p0), .val (.int p1), .val (.int p2), .val (.int (5 : Int32)), .val (.int bt0), .val (.int bt1), .val (.int bt2), .val (.int bt3), .val (.int bt4), .val (.int bt5), .val (.ref b110), .unset, .unset, .unset, .unset, .unset, .unset, .unset, .unset, .unset, .unset, .unset, .unset, .unset] [(.int (1 : Int32)), (.int bt4), (.int (4 : Int32)), (.ref b110)])) t → Steps p.tables e below (s₁.setTop (mkF m 0 #[.val (.int p0), .val (.int p1), .val (.int p2), .unset, .unset, .unset, .unset, .unset, .unset, .unset, .unset, .unset, .unset, .unset, .unset, .unset, .unset, .unset, .unset, .unset, .unset, .unset, .unset, .unset] [])) t := fun t k => pre140 t (by
          show Steps p.tables e below (T138.setTop (mkF m 148 #[.val (.int p0), .val (.int p1), .val (.int p2), .val (.int (5 : Int32)), .val (.int bt0), .val (.int bt1), .val (.int bt2), .val (.int bt3), .val (.int bt4), .val (.int bt5), .val (.ref b110), .unset, .unset, .unset, .unset, .unset, .unset, .unset, .unset, .unset, .unset, .unset, .unset, .unset] [(.int (4 : Int32)), (.ref b110)])) _
          refine XS.iload X138.here hx rfl (hb hby at_148) rfl ?_
          show Steps p.tables e below (T138.setTop (mkF m 150 #[.val (.int p0), .val (.int p1), .val (.int p2), .val (.int (5 : Int32)), .val (.int bt0), .val (.int bt1), .val (.int bt2), .val (.int bt3), .val (.int bt4), .val (.int bt5), .val (.ref b110), .unset, .unset, .unset, .unset, .unset, .unset, .unset, .unset, .unset, .unset, .unset, .unset, .unset] [(.int bt4), (.int (4 : Int32)), (.ref b110)])) _
          refine XS.iconst X138.here hx rfl (hb hby at_150) ?_
          exact k)
        by_cases hc142 : bt4 = (1 : Int32)
        · skip
          have ohc142 : bt4.toInt = 1 := own_eq.mp hc142
          refine ⟨(1 : Int32), ?_, fun t k => pre143 t ?_⟩
          · exact own_c1 (by omega)
          · skip
            show Steps p.tables e below (T138.setTop (mkF m 151 #[.val (.int p0), .val (.int p1), .val (.int p2), .val (.int (5 : Int32)), .val (.int bt0), .val (.int bt1), .val (.int bt2), .val (.int bt3), .val (.int bt4), .val (.int bt5), .val (.ref b110), .unset, .unset, .unset, .unset, .unset, .unset, .unset, .unset, .unset, .unset, .unset, .unset, .unset] [(.int (1 : Int32)), (.int bt4), (.int (4 : Int32)), (.ref b110)])) _
            refine XS.icmpNo X138.here hx rfl (hb hby at_151) rfl (teq hc142).2 ?_
            show Steps p.tables e below (T138.setTop (mkF m 154 #[.val (.int p0), .val (.int p1), .val (.int p2), .val (.int (5 : Int32)), .val (.int bt0), .val (.int bt1), .val (.int bt2), .val (.int bt3), .val (.int bt4), .val (.int bt5), .val (.ref b110), .unset, .unset, .unset, .unset, .unset, .unset, .unset, .unset, .unset, .unset, .unset, .unset, .unset] [(.int (4 : Int32)), (.ref b110)])) _
            refine XS.iconst X138.here hx rfl (hb hby at_154) ?_
            show Steps p.tables e below (T138.setTop (mkF m 155 #[.val (.int p0), .val (.int p1), .val (.int p2), .val (.int (5 : Int32)), .val (.int bt0), .val (.int bt1), .val (.int bt2), .val (.int bt3), .val (.int bt4), .val (.int bt5), .val (.ref b110), .unset, .unset, .unset, .unset, .unset, .unset, .unset, .unset, .unset, .unset, .unset, .unset, .unset] [(.int (1 : Int32)), (.int (4 : Int32)), (.ref b110)])) _
            refine XS.goto X138.here hx rfl (pc0 := 155) (pc' := 159) rfl (hb hby at_155) (by decide) (by decide) ?_
            exact k
        · skip
          have ohc142 : ¬ (bt4.toInt = 1) := own_neq.mp hc142
          refine ⟨(0 : Int32), ?_, fun t k => pre143 t ?_⟩
          · exact own_c0 (by omega)
          · skip
            show Steps p.tables e below (T138.setTop (mkF m 151 #[.val (.int p0), .val (.int p1), .val (.int p2), .val (.int (5 : Int32)), .val (.int bt0), .val (.int bt1), .val (.int bt2), .val (.int bt3), .val (.int bt4), .val (.int bt5), .val (.ref b110), .unset, .unset, .unset, .unset, .unset, .unset, .unset, .unset, .unset, .unset, .unset, .unset, .unset] [(.int (1 : Int32)), (.int bt4), (.int (4 : Int32)), (.ref b110)])) _
            refine XS.icmpYes X138.here hx rfl (pc0 := 151) (pc' := 158) rfl (hb hby at_151) rfl (feq hc142).2 (by decide) (by decide) ?_
            show Steps p.tables e below (T138.setTop (mkF m 158 #[.val (.int p0), .val (.int p1), .val (.int p2), .val (.int (5 : Int32)), .val (.int bt0), .val (.int bt1), .val (.int bt2), .val (.int bt3), .val (.int bt4), .val (.int bt5), .val (.ref b110), .unset, .unset, .unset, .unset, .unset, .unset, .unset, .unset, .unset, .unset, .unset, .unset, .unset] [(.int (4 : Int32)), (.ref b110)])) _
            refine XS.iconst X138.here hx rfl (hb hby at_158) ?_
            exact k
      obtain ⟨cl144, Ar144, q144, Sz144, Nn144, Hh144, Gg144⟩ := id V138
      have hin144 : ¬ ((4 : Int32) < 0 ∨ cl144.slots.size ≤ ((4 : Int32)).toNatClampNeg) := inb_of Sz144 ⟨by decide, by decide⟩
      obtain ⟨T145, h145, X145, e145, W145, st145⟩ := stZ X138 hx hZ e138 Ar144 (j := (4 : Int32)) hin144 (g := (mkF m 159 #[.val (.int p0), .val (.int p1), .val (.int p2), .val (.int (5 : Int32)), .val (.int bt0), .val (.int bt1), .val (.int bt2), .val (.int bt3), .val (.int bt4), .val (.int bt5), .val (.ref b110), .unset, .unset, .unset, .unset, .unset, .unset, .unset, .unset, .unset, .unset, .unset, .unset, .unset] [(.int (bI (bt4.toInt = 1))), (.int (4 : Int32)), (.ref b110)])) rfl rfl (hb hby at_159)
      have V145 : Arv Z h145 b110 k110 .boolean (5 : Int32) [(.int (nar .boolean (bI (bt0.toInt = 1)))), (.int (nar .boolean (bI (bt1.toInt = 1)))), (.int (nar .boolean (bI (bt2.toInt = 1)))), (.int (nar .boolean (bI (bt3.toInt = 1)))), (.int (nar .boolean (bI (bt4.toInt = 1))))] (.int (0 : Int32)) := Arv.set Ar144 q144 Sz144 Nn144 Hh144 Gg144 (fits_nar_bool _) W145 4 rfl (Nat.le_of_ble_eq_true rfl)
      have N145 := Fr.snoc X145 N138 g_b110
      have Z145 : n0 ≤ h145.size := Nat.le_trans Z138 (Keep.of_wr W145).1
      have K145 : Keep h0 h145 [] := K138.wr W145 (Or.inr sz_b110)
      have hc146 : ¬ ((5 : Int32) < (5 : Int32)) := by decide
      obtain ⟨cl147, Ar147, -, Sz147, -, Hh147, -⟩ := V145
      refine ⟨b110, cl147, T145, _, h145, X145.more (by decide) (by decide), e145, N145, Z145, K145, ⟨Ar147, Sz147, fun j hj => by
        have q := Hh147 j (by rw [Sz147]; exact hj)
        have hj' : j < 5 := hj
        rcases (show j = 0 ∨ j = 1 ∨ j = 2 ∨ j = 3 ∨ j = 4 by omega) with rfl | rfl | rfl | rfl | rfl
        · exact q.trans (congrArg (fun z => some (Value.int z)) (own_nar (P := bt0.toInt = 1)))
        · exact q.trans (congrArg (fun z => some (Value.int z)) (own_nar (P := bt1.toInt = 1)))
        · exact q.trans (congrArg (fun z => some (Value.int z)) (own_nar (P := bt2.toInt = 1)))
        · exact q.trans (congrArg (fun z => some (Value.int z)) (own_nar (P := bt3.toInt = 1)))
        · exact q.trans (congrArg (fun z => some (Value.int z)) (own_nar (P := bt4.toInt = 1)))⟩, fun t k => pre141 t ?_⟩
      show Steps p.tables e below (T138.setTop (mkF m 159 #[.val (.int p0), .val (.int p1), .val (.int p2), .val (.int (5 : Int32)), .val (.int bt0), .val (.int bt1), .val (.int bt2), .val (.int bt3), .val (.int bt4), .val (.int bt5), .val (.ref b110), .unset, .unset, .unset, .unset, .unset, .unset, .unset, .unset, .unset, .unset, .unset, .unset, .unset] [(.int (bI (bt4.toInt = 1))), (.int (4 : Int32)), (.ref b110)])) _
      refine st145 _ ?_
      show Steps p.tables e below (T145.setTop (mkF m 160 #[.val (.int p0), .val (.int p1), .val (.int p2), .val (.int (5 : Int32)), .val (.int bt0), .val (.int bt1), .val (.int bt2), .val (.int bt3), .val (.int bt4), .val (.int bt5), .val (.ref b110), .unset, .unset, .unset, .unset, .unset, .unset, .unset, .unset, .unset, .unset, .unset, .unset, .unset] [])) _
      refine XS.iloadN X145.here hx rfl (hb hby at_160) rfl ?_
      show Steps p.tables e below (T145.setTop (mkF m 161 #[.val (.int p0), .val (.int p1), .val (.int p2), .val (.int (5 : Int32)), .val (.int bt0), .val (.int bt1), .val (.int bt2), .val (.int bt3), .val (.int bt4), .val (.int bt5), .val (.ref b110), .unset, .unset, .unset, .unset, .unset, .unset, .unset, .unset, .unset, .unset, .unset, .unset, .unset] [(.int (5 : Int32))])) _
      refine XS.iconst X145.here hx rfl (hb hby at_161) ?_
      show Steps p.tables e below (T145.setTop (mkF m 162 #[.val (.int p0), .val (.int p1), .val (.int p2), .val (.int (5 : Int32)), .val (.int bt0), .val (.int bt1), .val (.int bt2), .val (.int bt3), .val (.int bt4), .val (.int bt5), .val (.ref b110), .unset, .unset, .unset, .unset, .unset, .unset, .unset, .unset, .unset, .unset, .unset, .unset, .unset] [(.int (5 : Int32)), (.int (5 : Int32))])) _
      refine XS.icmpYes X145.here hx rfl (pc0 := 162) (pc' := 180) rfl (hb hby at_162) rfl (flt hc146).2.2.2 (by decide) (by decide) ?_
      exact k
    · skip
      obtain rfl : ln = (6 : Int32) := own_eq.mpr hk_ln
      obtain ⟨T148, h148, k148, X148, e148, E148, A148, st148⟩ := newP X7 hx hZ (hw _ (List.mem_of_getElem? (i := 5) rfl)) e7 (g := (mkF m 57 #[.val (.int p0), .val (.int p1), .val (.int p2), .val (.int (6 : Int32)), .val (.int bt0), .val (.int bt1), .val (.int bt2), .val (.int bt3), .val (.int bt4), .val (.int bt5), .unset, .unset, .unset, .unset, .unset, .unset, .unset, .unset, .unset, .unset, .unset, .unset, .unset, .unset] [(.int (6 : Int32))])) rfl (hb hby at_57) rfl (by decide) (cap := 6) (by decide) (by decide) (by decide) (by decide)
      obtain ⟨b148, g148⟩ : ∃ z, z = h0.size := ⟨_, rfl⟩
      rw [← g148] at A148 st148
      have g_b148 : n0 ≤ b148 := Nat.le_trans Z0 (Nat.le_of_eq g148.symm)
      skip
      have Z148 : n0 ≤ h148.size := Nat.le_trans Z0 E148.1
      have K148 : Keep h0 h148 [] := KR.ext E148
      have sz_b148 : h0.size ≤ b148 := Nat.le_trans KR.1 (Nat.le_of_eq g148.symm)
      have V148 : Arv Z h148 b148 k148 .boolean (6 : Int32) [(.int (0 : Int32)), (.int (0 : Int32)), (.int (0 : Int32)), (.int (0 : Int32)), (.int (0 : Int32)), (.int (0 : Int32))] (.int (0 : Int32)) := (Arv.new A148 (by decide)).pad (pad_rep [] (.int (0 : Int32)) 6)
      have hc149 : (0 : Int32) < (6 : Int32) := by decide
      have pre150 : ∀ t, Steps p.tables e below (T148.setTop (mkF m 68 #[.val (.int p0), .val (.int p1), .val (.int p2), .val (.int (6 : Int32)), .val (.int bt0), .val (.int bt1), .val (.int bt2), .val (.int bt3), .val (.int bt4), .val (.int bt5), .val (.ref b148), .unset, .unset, .unset, .unset, .unset, .unset, .unset, .unset, .unset, .unset, .unset, .unset, .unset] [(.int (0 : Int32)), (.ref b148)])) t → Steps p.tables e below (s₁.setTop (mkF m 0 #[.val (.int p0), .val (.int p1), .val (.int p2), .unset, .unset, .unset, .unset, .unset, .unset, .unset, .unset, .unset, .unset, .unset, .unset, .unset, .unset, .unset, .unset, .unset, .unset, .unset, .unset, .unset] [])) t := fun t k => pre8 t (by
        show Steps p.tables e below (T7.setTop (mkF m 56 #[.val (.int p0), .val (.int p1), .val (.int p2), .val (.int (6 : Int32)), .val (.int bt0), .val (.int bt1), .val (.int bt2), .val (.int bt3), .val (.int bt4), .val (.int bt5), .unset, .unset, .unset, .unset, .unset, .unset, .unset, .unset, .unset, .unset, .unset, .unset, .unset, .unset] [])) _
        refine XS.iloadN X7.here hx rfl (hb hby at_56) rfl ?_
        show Steps p.tables e below (T7.setTop (mkF m 57 #[.val (.int p0), .val (.int p1), .val (.int p2), .val (.int (6 : Int32)), .val (.int bt0), .val (.int bt1), .val (.int bt2), .val (.int bt3), .val (.int bt4), .val (.int bt5), .unset, .unset, .unset, .unset, .unset, .unset, .unset, .unset, .unset, .unset, .unset, .unset, .unset, .unset] [(.int (6 : Int32))])) _
        refine st148 _ ?_
        show Steps p.tables e below (T148.setTop (mkF m 59 #[.val (.int p0), .val (.int p1), .val (.int p2), .val (.int (6 : Int32)), .val (.int bt0), .val (.int bt1), .val (.int bt2), .val (.int bt3), .val (.int bt4), .val (.int bt5), .unset, .unset, .unset, .unset, .unset, .unset, .unset, .unset, .unset, .unset, .unset, .unset, .unset, .unset] [(.ref b148)])) _
        refine XS.astore X148.here hx rfl (hb hby at_59) rfl rfl (l' := #[.val (.int p0), .val (.int p1), .val (.int p2), .val (.int (6 : Int32)), .val (.int bt0), .val (.int bt1), .val (.int bt2), .val (.int bt3), .val (.int bt4), .val (.int bt5), .val (.ref b148), .unset, .unset, .unset, .unset, .unset, .unset, .unset, .unset, .unset, .unset, .unset, .unset, .unset]) rfl ?_
        show Steps p.tables e below (T148.setTop (mkF m 61 #[.val (.int p0), .val (.int p1), .val (.int p2), .val (.int (6 : Int32)), .val (.int bt0), .val (.int bt1), .val (.int bt2), .val (.int bt3), .val (.int bt4), .val (.int bt5), .val (.ref b148), .unset, .unset, .unset, .unset, .unset, .unset, .unset, .unset, .unset, .unset, .unset, .unset, .unset] [])) _
        refine XS.iloadN X148.here hx rfl (hb hby at_61) rfl ?_
        show Steps p.tables e below (T148.setTop (mkF m 62 #[.val (.int p0), .val (.int p1), .val (.int p2), .val (.int (6 : Int32)), .val (.int bt0), .val (.int bt1), .val (.int bt2), .val (.int bt3), .val (.int bt4), .val (.int bt5), .val (.ref b148), .unset, .unset, .unset, .unset, .unset, .unset, .unset, .unset, .unset, .unset, .unset, .unset, .unset] [(.int (6 : Int32))])) _
        refine XS.ifNo X148.here hx rfl (hb hby at_62) rfl ((if0 _ _).trans (tlt hc149).2.2.2) ?_
        show Steps p.tables e below (T148.setTop (mkF m 65 #[.val (.int p0), .val (.int p1), .val (.int p2), .val (.int (6 : Int32)), .val (.int bt0), .val (.int bt1), .val (.int bt2), .val (.int bt3), .val (.int bt4), .val (.int bt5), .val (.ref b148), .unset, .unset, .unset, .unset, .unset, .unset, .unset, .unset, .unset, .unset, .unset, .unset, .unset] [])) _
        refine XS.aload X148.here hx rfl (hb hby at_65) rfl rfl ?_
        show Steps p.tables e below (T148.setTop (mkF m 67 #[.val (.int p0), .val (.int p1), .val (.int p2), .val (.int (6 : Int32)), .val (.int bt0), .val (.int bt1), .val (.int bt2), .val (.int bt3), .val (.int bt4), .val (.int bt5), .val (.ref b148), .unset, .unset, .unset, .unset, .unset, .unset, .unset, .unset, .unset, .unset, .unset, .unset, .unset] [(.ref b148)])) _
        refine XS.iconst X148.here hx rfl (hb hby at_67) ?_
        exact k)
      obtain ⟨v0, rfl, pre151⟩ : ∃ (v0 : Int32), (v0 = bI (bt0.toInt = 1)) ∧ ∀ t, Steps p.tables e below (T148.setTop (mkF m 79 #[.val (.int p0), .val (.int p1), .val (.int p2), .val (.int (6 : Int32)), .val (.int bt0), .val (.int bt1), .val (.int bt2), .val (.int bt3), .val (.int bt4), .val (.int bt5), .val (.ref b148), .unset, .unset, .unset, .unset, .unset, .unset, .unset, .unset, .unset, .unset, .unset, .unset, .unset] [(.int v0), (.int (0 : Int32)), (.ref b148)])) t → Steps p.tables e below (s₁.setTop (mkF m 0 #[.val (.int p0), .val (.int p1), .val (.int p2), .unset, .unset, .unset, .unset, .unset, .unset, .unset, .unset, .unset, .unset, .unset, .unset, .unset, .unset, .unset, .unset, .unset, .unset, .unset, .unset, .unset] [])) t := by
        have pre153 : ∀ t, Steps p.tables e below (T148.setTop (mkF m 71 #[.val (.int p0), .val (.int p1), .val (.int p2), .val (.int (6 : Int32)), .val (.int bt0), .val (.int bt1), .val (.int bt2), .val (.int bt3), .val (.int bt4), .val (.int bt5), .val (.ref b148), .unset, .unset, .unset, .unset, .unset, .unset, .unset, .unset, .unset, .unset, .unset, .unset, .unset] [(.int (1 : Int32)), (.int bt0), (.int (0 : Int32)), (.ref b148)])) t → Steps p.tables e below (s₁.setTop (mkF m 0 #[.val (.int p0), .val (.int p1), .val (.int p2), .unset, .unset, .unset, .unset, .unset, .unset, .unset, .unset, .unset, .unset, .unset, .unset, .unset, .unset, .unset, .unset, .unset, .unset, .unset, .unset, .unset] [])) t := fun t k => pre150 t (by
          show Steps p.tables e below (T148.setTop (mkF m 68 #[.val (.int p0), .val (.int p1), .val (.int p2), .val (.int (6 : Int32)), .val (.int bt0), .val (.int bt1), .val (.int bt2), .val (.int bt3), .val (.int bt4), .val (.int bt5), .val (.ref b148), .unset, .unset, .unset, .unset, .unset, .unset, .unset, .unset, .unset, .unset, .unset, .unset, .unset] [(.int (0 : Int32)), (.ref b148)])) _
          refine XS.iload X148.here hx rfl (hb hby at_68) rfl ?_
          show Steps p.tables e below (T148.setTop (mkF m 70 #[.val (.int p0), .val (.int p1), .val (.int p2), .val (.int (6 : Int32)), .val (.int bt0), .val (.int bt1), .val (.int bt2), .val (.int bt3), .val (.int bt4), .val (.int bt5), .val (.ref b148), .unset, .unset, .unset, .unset, .unset, .unset, .unset, .unset, .unset, .unset, .unset, .unset, .unset] [(.int bt0), (.int (0 : Int32)), (.ref b148)])) _
          refine XS.iconst X148.here hx rfl (hb hby at_70) ?_
          exact k)
        by_cases hc152 : bt0 = (1 : Int32)
        · skip
          have ohc152 : bt0.toInt = 1 := own_eq.mp hc152
          refine ⟨(1 : Int32), ?_, fun t k => pre153 t ?_⟩
          · exact own_c1 (by omega)
          · skip
            show Steps p.tables e below (T148.setTop (mkF m 71 #[.val (.int p0), .val (.int p1), .val (.int p2), .val (.int (6 : Int32)), .val (.int bt0), .val (.int bt1), .val (.int bt2), .val (.int bt3), .val (.int bt4), .val (.int bt5), .val (.ref b148), .unset, .unset, .unset, .unset, .unset, .unset, .unset, .unset, .unset, .unset, .unset, .unset, .unset] [(.int (1 : Int32)), (.int bt0), (.int (0 : Int32)), (.ref b148)])) _
            refine XS.icmpNo X148.here hx rfl (hb hby at_71) rfl (teq hc152).2 ?_
            show Steps p.tables e below (T148.setTop (mkF m 74 #[.val (.int p0), .val (.int p1), .val (.int p2), .val (.int (6 : Int32)), .val (.int bt0), .val (.int bt1), .val (.int bt2), .val (.int bt3), .val (.int bt4), .val (.int bt5), .val (.ref b148), .unset, .unset, .unset, .unset, .unset, .unset, .unset, .unset, .unset, .unset, .unset, .unset, .unset] [(.int (0 : Int32)), (.ref b148)])) _
            refine XS.iconst X148.here hx rfl (hb hby at_74) ?_
            show Steps p.tables e below (T148.setTop (mkF m 75 #[.val (.int p0), .val (.int p1), .val (.int p2), .val (.int (6 : Int32)), .val (.int bt0), .val (.int bt1), .val (.int bt2), .val (.int bt3), .val (.int bt4), .val (.int bt5), .val (.ref b148), .unset, .unset, .unset, .unset, .unset, .unset, .unset, .unset, .unset, .unset, .unset, .unset, .unset] [(.int (1 : Int32)), (.int (0 : Int32)), (.ref b148)])) _
            refine XS.goto X148.here hx rfl (pc0 := 75) (pc' := 79) rfl (hb hby at_75) (by decide) (by decide) ?_
            exact k
        · skip
          have ohc152 : ¬ (bt0.toInt = 1) := own_neq.mp hc152
          refine ⟨(0 : Int32), ?_, fun t k => pre153 t ?_⟩
          · exact own_c0 (by omega)
          · skip
            show Steps p.tables e below (T148.setTop (mkF m 71 #[.val (.int p0), .val (.int p1), .val (.int p2), .val (.int (6 : Int32)), .val (.int bt0), .val (.int bt1), .val (.int bt2), .val (.int bt3), .val (.int bt4), .val (.int bt5), .val (.ref b148), .unset, .unset, .unset, .unset, .unset, .unset, .unset, .unset, .unset, .unset, .unset, .unset, .unset] [(.int (1 : Int32)), (.int bt0), (.int (0 : Int32)), (.ref b148)])) _
            refine XS.icmpYes X148.here hx rfl (pc0 := 71) (pc' := 78) rfl (hb hby at_71) rfl (feq hc152).2 (by decide) (by decide) ?_
            show Steps p.tables e below (T148.setTop (mkF m 78 #[.val (.int p0), .val (.int p1), .val (.int p2), .val (.int (6 : Int32)), .val (.int bt0), .val (.int bt1), .val (.int bt2), .val (.int bt3), .val (.int bt4), .val (.int bt5), .val (.ref b148), .unset, .unset, .unset, .unset, .unset, .unset, .unset, .unset, .unset, .unset, .unset, .unset, .unset] [(.int (0 : Int32)), (.ref b148)])) _
            refine XS.iconst X148.here hx rfl (hb hby at_78) ?_
            exact k
      obtain ⟨cl154, Ar154, q154, Sz154, Nn154, Hh154, Gg154⟩ := id V148
      have hin154 : ¬ ((0 : Int32) < 0 ∨ cl154.slots.size ≤ ((0 : Int32)).toNatClampNeg) := inb_of Sz154 ⟨by decide, by decide⟩
      obtain ⟨T155, h155, X155, e155, W155, st155⟩ := stZ X148 hx hZ e148 Ar154 (j := (0 : Int32)) hin154 (g := (mkF m 79 #[.val (.int p0), .val (.int p1), .val (.int p2), .val (.int (6 : Int32)), .val (.int bt0), .val (.int bt1), .val (.int bt2), .val (.int bt3), .val (.int bt4), .val (.int bt5), .val (.ref b148), .unset, .unset, .unset, .unset, .unset, .unset, .unset, .unset, .unset, .unset, .unset, .unset, .unset] [(.int (bI (bt0.toInt = 1))), (.int (0 : Int32)), (.ref b148)])) rfl rfl (hb hby at_79)
      have V155 : Arv Z h155 b148 k148 .boolean (6 : Int32) [(.int (nar .boolean (bI (bt0.toInt = 1)))), (.int (0 : Int32)), (.int (0 : Int32)), (.int (0 : Int32)), (.int (0 : Int32)), (.int (0 : Int32))] (.int (0 : Int32)) := Arv.set Ar154 q154 Sz154 Nn154 Hh154 Gg154 (fits_nar_bool _) W155 0 rfl (Nat.le_of_ble_eq_true rfl)
      have N155 := Fr.snoc X155 N7 g_b148
      have Z155 : n0 ≤ h155.size := Nat.le_trans Z148 (Keep.of_wr W155).1
      have K155 : Keep h0 h155 [] := K148.wr W155 (Or.inr sz_b148)
      have hc156 : (1 : Int32) < (6 : Int32) := by decide
      have pre157 : ∀ t, Steps p.tables e below (T155.setTop (mkF m 88 #[.val (.int p0), .val (.int p1), .val (.int p2), .val (.int (6 : Int32)), .val (.int bt0), .val (.int bt1), .val (.int bt2), .val (.int bt3), .val (.int bt4), .val (.int bt5), .val (.ref b148), .unset, .unset, .unset, .unset, .unset, .unset, .unset, .unset, .unset, .unset, .unset, .unset, .unset] [(.int (1 : Int32)), (.ref b148)])) t → Steps p.tables e below (s₁.setTop (mkF m 0 #[.val (.int p0), .val (.int p1), .val (.int p2), .unset, .unset, .unset, .unset, .unset, .unset, .unset, .unset, .unset, .unset, .unset, .unset, .unset, .unset, .unset, .unset, .unset, .unset, .unset, .unset, .unset] [])) t := fun t k => pre151 t (by
        show Steps p.tables e below (T148.setTop (mkF m 79 #[.val (.int p0), .val (.int p1), .val (.int p2), .val (.int (6 : Int32)), .val (.int bt0), .val (.int bt1), .val (.int bt2), .val (.int bt3), .val (.int bt4), .val (.int bt5), .val (.ref b148), .unset, .unset, .unset, .unset, .unset, .unset, .unset, .unset, .unset, .unset, .unset, .unset, .unset] [(.int (bI (bt0.toInt = 1))), (.int (0 : Int32)), (.ref b148)])) _
        refine st155 _ ?_
        show Steps p.tables e below (T155.setTop (mkF m 80 #[.val (.int p0), .val (.int p1), .val (.int p2), .val (.int (6 : Int32)), .val (.int bt0), .val (.int bt1), .val (.int bt2), .val (.int bt3), .val (.int bt4), .val (.int bt5), .val (.ref b148), .unset, .unset, .unset, .unset, .unset, .unset, .unset, .unset, .unset, .unset, .unset, .unset, .unset] [])) _
        refine XS.iloadN X155.here hx rfl (hb hby at_80) rfl ?_
        show Steps p.tables e below (T155.setTop (mkF m 81 #[.val (.int p0), .val (.int p1), .val (.int p2), .val (.int (6 : Int32)), .val (.int bt0), .val (.int bt1), .val (.int bt2), .val (.int bt3), .val (.int bt4), .val (.int bt5), .val (.ref b148), .unset, .unset, .unset, .unset, .unset, .unset, .unset, .unset, .unset, .unset, .unset, .unset, .unset] [(.int (6 : Int32))])) _
        refine XS.iconst X155.here hx rfl (hb hby at_81) ?_
        show Steps p.tables e below (T155.setTop (mkF m 82 #[.val (.int p0), .val (.int p1), .val (.int p2), .val (.int (6 : Int32)), .val (.int bt0), .val (.int bt1), .val (.int bt2), .val (.int bt3), .val (.int bt4), .val (.int bt5), .val (.ref b148), .unset, .unset, .unset, .unset, .unset, .unset, .unset, .unset, .unset, .unset, .unset, .unset, .unset] [(.int (1 : Int32)), (.int (6 : Int32))])) _
        refine XS.icmpNo X155.here hx rfl (hb hby at_82) rfl (tlt hc156).2.2.2 ?_
        show Steps p.tables e below (T155.setTop (mkF m 85 #[.val (.int p0), .val (.int p1), .val (.int p2), .val (.int (6 : Int32)), .val (.int bt0), .val (.int bt1), .val (.int bt2), .val (.int bt3), .val (.int bt4), .val (.int bt5), .val (.ref b148), .unset, .unset, .unset, .unset, .unset, .unset, .unset, .unset, .unset, .unset, .unset, .unset, .unset] [])) _
        refine XS.aload X155.here hx rfl (hb hby at_85) rfl rfl ?_
        show Steps p.tables e below (T155.setTop (mkF m 87 #[.val (.int p0), .val (.int p1), .val (.int p2), .val (.int (6 : Int32)), .val (.int bt0), .val (.int bt1), .val (.int bt2), .val (.int bt3), .val (.int bt4), .val (.int bt5), .val (.ref b148), .unset, .unset, .unset, .unset, .unset, .unset, .unset, .unset, .unset, .unset, .unset, .unset, .unset] [(.ref b148)])) _
        refine XS.iconst X155.here hx rfl (hb hby at_87) ?_
        exact k)
      obtain ⟨v1, rfl, pre158⟩ : ∃ (v1 : Int32), (v1 = bI (bt1.toInt = 1)) ∧ ∀ t, Steps p.tables e below (T155.setTop (mkF m 99 #[.val (.int p0), .val (.int p1), .val (.int p2), .val (.int (6 : Int32)), .val (.int bt0), .val (.int bt1), .val (.int bt2), .val (.int bt3), .val (.int bt4), .val (.int bt5), .val (.ref b148), .unset, .unset, .unset, .unset, .unset, .unset, .unset, .unset, .unset, .unset, .unset, .unset, .unset] [(.int v1), (.int (1 : Int32)), (.ref b148)])) t → Steps p.tables e below (s₁.setTop (mkF m 0 #[.val (.int p0), .val (.int p1), .val (.int p2), .unset, .unset, .unset, .unset, .unset, .unset, .unset, .unset, .unset, .unset, .unset, .unset, .unset, .unset, .unset, .unset, .unset, .unset, .unset, .unset, .unset] [])) t := by
        have pre160 : ∀ t, Steps p.tables e below (T155.setTop (mkF m 91 #[.val (.int p0), .val (.int p1), .val (.int p2), .val (.int (6 : Int32)), .val (.int bt0), .val (.int bt1), .val (.int bt2), .val (.int bt3), .val (.int bt4), .val (.int bt5), .val (.ref b148), .unset, .unset, .unset, .unset, .unset, .unset, .unset, .unset, .unset, .unset, .unset, .unset, .unset] [(.int (1 : Int32)), (.int bt1), (.int (1 : Int32)), (.ref b148)])) t → Steps p.tables e below (s₁.setTop (mkF m 0 #[.val (.int p0), .val (.int p1), .val (.int p2), .unset, .unset, .unset, .unset, .unset, .unset, .unset, .unset, .unset, .unset, .unset, .unset, .unset, .unset, .unset, .unset, .unset, .unset, .unset, .unset, .unset] [])) t := fun t k => pre157 t (by
          show Steps p.tables e below (T155.setTop (mkF m 88 #[.val (.int p0), .val (.int p1), .val (.int p2), .val (.int (6 : Int32)), .val (.int bt0), .val (.int bt1), .val (.int bt2), .val (.int bt3), .val (.int bt4), .val (.int bt5), .val (.ref b148), .unset, .unset, .unset, .unset, .unset, .unset, .unset, .unset, .unset, .unset, .unset, .unset, .unset] [(.int (1 : Int32)), (.ref b148)])) _
          refine XS.iload X155.here hx rfl (hb hby at_88) rfl ?_
          show Steps p.tables e below (T155.setTop (mkF m 90 #[.val (.int p0), .val (.int p1), .val (.int p2), .val (.int (6 : Int32)), .val (.int bt0), .val (.int bt1), .val (.int bt2), .val (.int bt3), .val (.int bt4), .val (.int bt5), .val (.ref b148), .unset, .unset, .unset, .unset, .unset, .unset, .unset, .unset, .unset, .unset, .unset, .unset, .unset] [(.int bt1), (.int (1 : Int32)), (.ref b148)])) _
          refine XS.iconst X155.here hx rfl (hb hby at_90) ?_
          exact k)
        by_cases hc159 : bt1 = (1 : Int32)
        · skip
          have ohc159 : bt1.toInt = 1 := own_eq.mp hc159
          refine ⟨(1 : Int32), ?_, fun t k => pre160 t ?_⟩
          · exact own_c1 (by omega)
          · skip
            show Steps p.tables e below (T155.setTop (mkF m 91 #[.val (.int p0), .val (.int p1), .val (.int p2), .val (.int (6 : Int32)), .val (.int bt0), .val (.int bt1), .val (.int bt2), .val (.int bt3), .val (.int bt4), .val (.int bt5), .val (.ref b148), .unset, .unset, .unset, .unset, .unset, .unset, .unset, .unset, .unset, .unset, .unset, .unset, .unset] [(.int (1 : Int32)), (.int bt1), (.int (1 : Int32)), (.ref b148)])) _
            refine XS.icmpNo X155.here hx rfl (hb hby at_91) rfl (teq hc159).2 ?_
            show Steps p.tables e below (T155.setTop (mkF m 94 #[.val (.int p0), .val (.int p1), .val (.int p2), .val (.int (6 : Int32)), .val (.int bt0), .val (.int bt1), .val (.int bt2), .val (.int bt3), .val (.int bt4), .val (.int bt5), .val (.ref b148), .unset, .unset, .unset, .unset, .unset, .unset, .unset, .unset, .unset, .unset, .unset, .unset, .unset] [(.int (1 : Int32)), (.ref b148)])) _
            refine XS.iconst X155.here hx rfl (hb hby at_94) ?_
            show Steps p.tables e below (T155.setTop (mkF m 95 #[.val (.int p0), .val (.int p1), .val (.int p2), .val (.int (6 : Int32)), .val (.int bt0), .val (.int bt1), .val (.int bt2), .val (.int bt3), .val (.int bt4), .val (.int bt5), .val (.ref b148), .unset, .unset, .unset, .unset, .unset, .unset, .unset, .unset, .unset, .unset, .unset, .unset, .unset] [(.int (1 : Int32)), (.int (1 : Int32)), (.ref b148)])) _
            refine XS.goto X155.here hx rfl (pc0 := 95) (pc' := 99) rfl (hb hby at_95) (by decide) (by decide) ?_
            exact k
        · skip
          have ohc159 : ¬ (bt1.toInt = 1) := own_neq.mp hc159
          refine ⟨(0 : Int32), ?_, fun t k => pre160 t ?_⟩
          · exact own_c0 (by omega)
          · skip
            show Steps p.tables e below (T155.setTop (mkF m 91 #[.val (.int p0), .val (.int p1), .val (.int p2), .val (.int (6 : Int32)), .val (.int bt0), .val (.int bt1), .val (.int bt2), .val (.int bt3), .val (.int bt4), .val (.int bt5), .val (.ref b148), .unset, .unset, .unset, .unset, .unset, .unset, .unset, .unset, .unset, .unset, .unset, .unset, .unset] [(.int (1 : Int32)), (.int bt1), (.int (1 : Int32)), (.ref b148)])) _
            refine XS.icmpYes X155.here hx rfl (pc0 := 91) (pc' := 98) rfl (hb hby at_91) rfl (feq hc159).2 (by decide) (by decide) ?_
            show Steps p.tables e below (T155.setTop (mkF m 98 #[.val (.int p0), .val (.int p1), .val (.int p2), .val (.int (6 : Int32)), .val (.int bt0), .val (.int bt1), .val (.int bt2), .val (.int bt3), .val (.int bt4), .val (.int bt5), .val (.ref b148), .unset, .unset, .unset, .unset, .unset, .unset, .unset, .unset, .unset, .unset, .unset, .unset, .unset] [(.int (1 : Int32)), (.ref b148)])) _
            refine XS.iconst X155.here hx rfl (hb hby at_98) ?_
            exact k
      obtain ⟨cl161, Ar161, q161, Sz161, Nn161, Hh161, Gg161⟩ := id V155
      have hin161 : ¬ ((1 : Int32) < 0 ∨ cl161.slots.size ≤ ((1 : Int32)).toNatClampNeg) := inb_of Sz161 ⟨by decide, by decide⟩
      obtain ⟨T162, h162, X162, e162, W162, st162⟩ := stZ X155 hx hZ e155 Ar161 (j := (1 : Int32)) hin161 (g := (mkF m 99 #[.val (.int p0), .val (.int p1), .val (.int p2), .val (.int (6 : Int32)), .val (.int bt0), .val (.int bt1), .val (.int bt2), .val (.int bt3), .val (.int bt4), .val (.int bt5), .val (.ref b148), .unset, .unset, .unset, .unset, .unset, .unset, .unset, .unset, .unset, .unset, .unset, .unset, .unset] [(.int (bI (bt1.toInt = 1))), (.int (1 : Int32)), (.ref b148)])) rfl rfl (hb hby at_99)
      have V162 : Arv Z h162 b148 k148 .boolean (6 : Int32) [(.int (nar .boolean (bI (bt0.toInt = 1)))), (.int (nar .boolean (bI (bt1.toInt = 1)))), (.int (0 : Int32)), (.int (0 : Int32)), (.int (0 : Int32)), (.int (0 : Int32))] (.int (0 : Int32)) := Arv.set Ar161 q161 Sz161 Nn161 Hh161 Gg161 (fits_nar_bool _) W162 1 rfl (Nat.le_of_ble_eq_true rfl)
      have N162 := Fr.snoc X162 N155 g_b148
      have Z162 : n0 ≤ h162.size := Nat.le_trans Z155 (Keep.of_wr W162).1
      have K162 : Keep h0 h162 [] := K155.wr W162 (Or.inr sz_b148)
      have hc163 : (2 : Int32) < (6 : Int32) := by decide
      have pre164 : ∀ t, Steps p.tables e below (T162.setTop (mkF m 108 #[.val (.int p0), .val (.int p1), .val (.int p2), .val (.int (6 : Int32)), .val (.int bt0), .val (.int bt1), .val (.int bt2), .val (.int bt3), .val (.int bt4), .val (.int bt5), .val (.ref b148), .unset, .unset, .unset, .unset, .unset, .unset, .unset, .unset, .unset, .unset, .unset, .unset, .unset] [(.int (2 : Int32)), (.ref b148)])) t → Steps p.tables e below (s₁.setTop (mkF m 0 #[.val (.int p0), .val (.int p1), .val (.int p2), .unset, .unset, .unset, .unset, .unset, .unset, .unset, .unset, .unset, .unset, .unset, .unset, .unset, .unset, .unset, .unset, .unset, .unset, .unset, .unset, .unset] [])) t := fun t k => pre158 t (by
        show Steps p.tables e below (T155.setTop (mkF m 99 #[.val (.int p0), .val (.int p1), .val (.int p2), .val (.int (6 : Int32)), .val (.int bt0), .val (.int bt1), .val (.int bt2), .val (.int bt3), .val (.int bt4), .val (.int bt5), .val (.ref b148), .unset, .unset, .unset, .unset, .unset, .unset, .unset, .unset, .unset, .unset, .unset, .unset, .unset] [(.int (bI (bt1.toInt = 1))), (.int (1 : Int32)), (.ref b148)])) _
        refine st162 _ ?_
        show Steps p.tables e below (T162.setTop (mkF m 100 #[.val (.int p0), .val (.int p1), .val (.int p2), .val (.int (6 : Int32)), .val (.int bt0), .val (.int bt1), .val (.int bt2), .val (.int bt3), .val (.int bt4), .val (.int bt5), .val (.ref b148), .unset, .unset, .unset, .unset, .unset, .unset, .unset, .unset, .unset, .unset, .unset, .unset, .unset] [])) _
        refine XS.iloadN X162.here hx rfl (hb hby at_100) rfl ?_
        show Steps p.tables e below (T162.setTop (mkF m 101 #[.val (.int p0), .val (.int p1), .val (.int p2), .val (.int (6 : Int32)), .val (.int bt0), .val (.int bt1), .val (.int bt2), .val (.int bt3), .val (.int bt4), .val (.int bt5), .val (.ref b148), .unset, .unset, .unset, .unset, .unset, .unset, .unset, .unset, .unset, .unset, .unset, .unset, .unset] [(.int (6 : Int32))])) _
        refine XS.iconst X162.here hx rfl (hb hby at_101) ?_
        show Steps p.tables e below (T162.setTop (mkF m 102 #[.val (.int p0), .val (.int p1), .val (.int p2), .val (.int (6 : Int32)), .val (.int bt0), .val (.int bt1), .val (.int bt2), .val (.int bt3), .val (.int bt4), .val (.int bt5), .val (.ref b148), .unset, .unset, .unset, .unset, .unset, .unset, .unset, .unset, .unset, .unset, .unset, .unset, .unset] [(.int (2 : Int32)), (.int (6 : Int32))])) _
        refine XS.icmpNo X162.here hx rfl (hb hby at_102) rfl (tlt hc163).2.2.2 ?_
        show Steps p.tables e below (T162.setTop (mkF m 105 #[.val (.int p0), .val (.int p1), .val (.int p2), .val (.int (6 : Int32)), .val (.int bt0), .val (.int bt1), .val (.int bt2), .val (.int bt3), .val (.int bt4), .val (.int bt5), .val (.ref b148), .unset, .unset, .unset, .unset, .unset, .unset, .unset, .unset, .unset, .unset, .unset, .unset, .unset] [])) _
        refine XS.aload X162.here hx rfl (hb hby at_105) rfl rfl ?_
        show Steps p.tables e below (T162.setTop (mkF m 107 #[.val (.int p0), .val (.int p1), .val (.int p2), .val (.int (6 : Int32)), .val (.int bt0), .val (.int bt1), .val (.int bt2), .val (.int bt3), .val (.int bt4), .val (.int bt5), .val (.ref b148), .unset, .unset, .unset, .unset, .unset, .unset, .unset, .unset, .unset, .unset, .unset, .unset, .unset] [(.ref b148)])) _
        refine XS.iconst X162.here hx rfl (hb hby at_107) ?_
        exact k)
      obtain ⟨v2, rfl, pre165⟩ : ∃ (v2 : Int32), (v2 = bI (bt2.toInt = 1)) ∧ ∀ t, Steps p.tables e below (T162.setTop (mkF m 119 #[.val (.int p0), .val (.int p1), .val (.int p2), .val (.int (6 : Int32)), .val (.int bt0), .val (.int bt1), .val (.int bt2), .val (.int bt3), .val (.int bt4), .val (.int bt5), .val (.ref b148), .unset, .unset, .unset, .unset, .unset, .unset, .unset, .unset, .unset, .unset, .unset, .unset, .unset] [(.int v2), (.int (2 : Int32)), (.ref b148)])) t → Steps p.tables e below (s₁.setTop (mkF m 0 #[.val (.int p0), .val (.int p1), .val (.int p2), .unset, .unset, .unset, .unset, .unset, .unset, .unset, .unset, .unset, .unset, .unset, .unset, .unset, .unset, .unset, .unset, .unset, .unset, .unset, .unset, .unset] [])) t := by
        have pre167 : ∀ t, Steps p.tables e below (T162.setTop (mkF m 111 #[.val (.int p0), .val (.int p1), .val (.int p2), .val (.int (6 : Int32)), .val (.int bt0), .val (.int bt1), .val (.int bt2), .val (.int bt3), .val (.int bt4), .val (.int bt5), .val (.ref b148), .unset, .unset, .unset, .unset, .unset, .unset, .unset, .unset, .unset, .unset, .unset, .unset, .unset] [(.int (1 : Int32)), (.int bt2), (.int (2 : Int32)), (.ref b148)])) t → Steps p.tables e below (s₁.setTop (mkF m 0 #[.val (.int p0), .val (.int p1), .val (.int p2), .unset, .unset, .unset, .unset, .unset, .unset, .unset, .unset, .unset, .unset, .unset, .unset, .unset, .unset, .unset, .unset, .unset, .unset, .unset, .unset, .unset] [])) t := fun t k => pre164 t (by
          show Steps p.tables e below (T162.setTop (mkF m 108 #[.val (.int p0), .val (.int p1), .val (.int p2), .val (.int (6 : Int32)), .val (.int bt0), .val (.int bt1), .val (.int bt2), .val (.int bt3), .val (.int bt4), .val (.int bt5), .val (.ref b148), .unset, .unset, .unset, .unset, .unset, .unset, .unset, .unset, .unset, .unset, .unset, .unset, .unset] [(.int (2 : Int32)), (.ref b148)])) _
          refine XS.iload X162.here hx rfl (hb hby at_108) rfl ?_
          show Steps p.tables e below (T162.setTop (mkF m 110 #[.val (.int p0), .val (.int p1), .val (.int p2), .val (.int (6 : Int32)), .val (.int bt0), .val (.int bt1), .val (.int bt2), .val (.int bt3), .val (.int bt4), .val (.int bt5), .val (.ref b148), .unset, .unset, .unset, .unset, .unset, .unset, .unset, .unset, .unset, .unset, .unset, .unset, .unset] [(.int bt2), (.int (2 : Int32)), (.ref b148)])) _
          refine XS.iconst X162.here hx rfl (hb hby at_110) ?_
          exact k)
        by_cases hc166 : bt2 = (1 : Int32)
        · skip
          have ohc166 : bt2.toInt = 1 := own_eq.mp hc166
          refine ⟨(1 : Int32), ?_, fun t k => pre167 t ?_⟩
          · exact own_c1 (by omega)
          · skip
            show Steps p.tables e below (T162.setTop (mkF m 111 #[.val (.int p0), .val (.int p1), .val (.int p2), .val (.int (6 : Int32)), .val (.int bt0), .val (.int bt1), .val (.int bt2), .val (.int bt3), .val (.int bt4), .val (.int bt5), .val (.ref b148), .unset, .unset, .unset, .unset, .unset, .unset, .unset, .unset, .unset, .unset, .unset, .unset, .unset] [(.int (1 : Int32)), (.int bt2), (.int (2 : Int32)), (.ref b148)])) _
            refine XS.icmpNo X162.here hx rfl (hb hby at_111) rfl (teq hc166).2 ?_
            show Steps p.tables e below (T162.setTop (mkF m 114 #[.val (.int p0), .val (.int p1), .val (.int p2), .val (.int (6 : Int32)), .val (.int bt0), .val (.int bt1), .val (.int bt2), .val (.int bt3), .val (.int bt4), .val (.int bt5), .val (.ref b148), .unset, .unset, .unset, .unset, .unset, .unset, .unset, .unset, .unset, .unset, .unset, .unset, .unset] [(.int (2 : Int32)), (.ref b148)])) _
            refine XS.iconst X162.here hx rfl (hb hby at_114) ?_
            show Steps p.tables e below (T162.setTop (mkF m 115 #[.val (.int p0), .val (.int p1), .val (.int p2), .val (.int (6 : Int32)), .val (.int bt0), .val (.int bt1), .val (.int bt2), .val (.int bt3), .val (.int bt4), .val (.int bt5), .val (.ref b148), .unset, .unset, .unset, .unset, .unset, .unset, .unset, .unset, .unset, .unset, .unset, .unset, .unset] [(.int (1 : Int32)), (.int (2 : Int32)), (.ref b148)])) _
            refine XS.goto X162.here hx rfl (pc0 := 115) (pc' := 119) rfl (hb hby at_115) (by decide) (by decide) ?_
            exact k
        · skip
          have ohc166 : ¬ (bt2.toInt = 1) := own_neq.mp hc166
          refine ⟨(0 : Int32), ?_, fun t k => pre167 t ?_⟩
          · exact own_c0 (by omega)
          · skip
            show Steps p.tables e below (T162.setTop (mkF m 111 #[.val (.int p0), .val (.int p1), .val (.int p2), .val (.int (6 : Int32)), .val (.int bt0), .val (.int bt1), .val (.int bt2), .val (.int bt3), .val (.int bt4), .val (.int bt5), .val (.ref b148), .unset, .unset, .unset, .unset, .unset, .unset, .unset, .unset, .unset, .unset, .unset, .unset, .unset] [(.int (1 : Int32)), (.int bt2), (.int (2 : Int32)), (.ref b148)])) _
            refine XS.icmpYes X162.here hx rfl (pc0 := 111) (pc' := 118) rfl (hb hby at_111) rfl (feq hc166).2 (by decide) (by decide) ?_
            show Steps p.tables e below (T162.setTop (mkF m 118 #[.val (.int p0), .val (.int p1), .val (.int p2), .val (.int (6 : Int32)), .val (.int bt0), .val (.int bt1), .val (.int bt2), .val (.int bt3), .val (.int bt4), .val (.int bt5), .val (.ref b148), .unset, .unset, .unset, .unset, .unset, .unset, .unset, .unset, .unset, .unset, .unset, .unset, .unset] [(.int (2 : Int32)), (.ref b148)])) _
            refine XS.iconst X162.here hx rfl (hb hby at_118) ?_
            exact k
      obtain ⟨cl168, Ar168, q168, Sz168, Nn168, Hh168, Gg168⟩ := id V162
      have hin168 : ¬ ((2 : Int32) < 0 ∨ cl168.slots.size ≤ ((2 : Int32)).toNatClampNeg) := inb_of Sz168 ⟨by decide, by decide⟩
      obtain ⟨T169, h169, X169, e169, W169, st169⟩ := stZ X162 hx hZ e162 Ar168 (j := (2 : Int32)) hin168 (g := (mkF m 119 #[.val (.int p0), .val (.int p1), .val (.int p2), .val (.int (6 : Int32)), .val (.int bt0), .val (.int bt1), .val (.int bt2), .val (.int bt3), .val (.int bt4), .val (.int bt5), .val (.ref b148), .unset, .unset, .unset, .unset, .unset, .unset, .unset, .unset, .unset, .unset, .unset, .unset, .unset] [(.int (bI (bt2.toInt = 1))), (.int (2 : Int32)), (.ref b148)])) rfl rfl (hb hby at_119)
      have V169 : Arv Z h169 b148 k148 .boolean (6 : Int32) [(.int (nar .boolean (bI (bt0.toInt = 1)))), (.int (nar .boolean (bI (bt1.toInt = 1)))), (.int (nar .boolean (bI (bt2.toInt = 1)))), (.int (0 : Int32)), (.int (0 : Int32)), (.int (0 : Int32))] (.int (0 : Int32)) := Arv.set Ar168 q168 Sz168 Nn168 Hh168 Gg168 (fits_nar_bool _) W169 2 rfl (Nat.le_of_ble_eq_true rfl)
      have N169 := Fr.snoc X169 N162 g_b148
      have Z169 : n0 ≤ h169.size := Nat.le_trans Z162 (Keep.of_wr W169).1
      have K169 : Keep h0 h169 [] := K162.wr W169 (Or.inr sz_b148)
      have hc170 : (3 : Int32) < (6 : Int32) := by decide
      have pre171 : ∀ t, Steps p.tables e below (T169.setTop (mkF m 128 #[.val (.int p0), .val (.int p1), .val (.int p2), .val (.int (6 : Int32)), .val (.int bt0), .val (.int bt1), .val (.int bt2), .val (.int bt3), .val (.int bt4), .val (.int bt5), .val (.ref b148), .unset, .unset, .unset, .unset, .unset, .unset, .unset, .unset, .unset, .unset, .unset, .unset, .unset] [(.int (3 : Int32)), (.ref b148)])) t → Steps p.tables e below (s₁.setTop (mkF m 0 #[.val (.int p0), .val (.int p1), .val (.int p2), .unset, .unset, .unset, .unset, .unset, .unset, .unset, .unset, .unset, .unset, .unset, .unset, .unset, .unset, .unset, .unset, .unset, .unset, .unset, .unset, .unset] [])) t := fun t k => pre165 t (by
        show Steps p.tables e below (T162.setTop (mkF m 119 #[.val (.int p0), .val (.int p1), .val (.int p2), .val (.int (6 : Int32)), .val (.int bt0), .val (.int bt1), .val (.int bt2), .val (.int bt3), .val (.int bt4), .val (.int bt5), .val (.ref b148), .unset, .unset, .unset, .unset, .unset, .unset, .unset, .unset, .unset, .unset, .unset, .unset, .unset] [(.int (bI (bt2.toInt = 1))), (.int (2 : Int32)), (.ref b148)])) _
        refine st169 _ ?_
        show Steps p.tables e below (T169.setTop (mkF m 120 #[.val (.int p0), .val (.int p1), .val (.int p2), .val (.int (6 : Int32)), .val (.int bt0), .val (.int bt1), .val (.int bt2), .val (.int bt3), .val (.int bt4), .val (.int bt5), .val (.ref b148), .unset, .unset, .unset, .unset, .unset, .unset, .unset, .unset, .unset, .unset, .unset, .unset, .unset] [])) _
        refine XS.iloadN X169.here hx rfl (hb hby at_120) rfl ?_
        show Steps p.tables e below (T169.setTop (mkF m 121 #[.val (.int p0), .val (.int p1), .val (.int p2), .val (.int (6 : Int32)), .val (.int bt0), .val (.int bt1), .val (.int bt2), .val (.int bt3), .val (.int bt4), .val (.int bt5), .val (.ref b148), .unset, .unset, .unset, .unset, .unset, .unset, .unset, .unset, .unset, .unset, .unset, .unset, .unset] [(.int (6 : Int32))])) _
        refine XS.iconst X169.here hx rfl (hb hby at_121) ?_
        show Steps p.tables e below (T169.setTop (mkF m 122 #[.val (.int p0), .val (.int p1), .val (.int p2), .val (.int (6 : Int32)), .val (.int bt0), .val (.int bt1), .val (.int bt2), .val (.int bt3), .val (.int bt4), .val (.int bt5), .val (.ref b148), .unset, .unset, .unset, .unset, .unset, .unset, .unset, .unset, .unset, .unset, .unset, .unset, .unset] [(.int (3 : Int32)), (.int (6 : Int32))])) _
        refine XS.icmpNo X169.here hx rfl (hb hby at_122) rfl (tlt hc170).2.2.2 ?_
        show Steps p.tables e below (T169.setTop (mkF m 125 #[.val (.int p0), .val (.int p1), .val (.int p2), .val (.int (6 : Int32)), .val (.int bt0), .val (.int bt1), .val (.int bt2), .val (.int bt3), .val (.int bt4), .val (.int bt5), .val (.ref b148), .unset, .unset, .unset, .unset, .unset, .unset, .unset, .unset, .unset, .unset, .unset, .unset, .unset] [])) _
        refine XS.aload X169.here hx rfl (hb hby at_125) rfl rfl ?_
        show Steps p.tables e below (T169.setTop (mkF m 127 #[.val (.int p0), .val (.int p1), .val (.int p2), .val (.int (6 : Int32)), .val (.int bt0), .val (.int bt1), .val (.int bt2), .val (.int bt3), .val (.int bt4), .val (.int bt5), .val (.ref b148), .unset, .unset, .unset, .unset, .unset, .unset, .unset, .unset, .unset, .unset, .unset, .unset, .unset] [(.ref b148)])) _
        refine XS.iconst X169.here hx rfl (hb hby at_127) ?_
        exact k)
      obtain ⟨v3, rfl, pre172⟩ : ∃ (v3 : Int32), (v3 = bI (bt3.toInt = 1)) ∧ ∀ t, Steps p.tables e below (T169.setTop (mkF m 139 #[.val (.int p0), .val (.int p1), .val (.int p2), .val (.int (6 : Int32)), .val (.int bt0), .val (.int bt1), .val (.int bt2), .val (.int bt3), .val (.int bt4), .val (.int bt5), .val (.ref b148), .unset, .unset, .unset, .unset, .unset, .unset, .unset, .unset, .unset, .unset, .unset, .unset, .unset] [(.int v3), (.int (3 : Int32)), (.ref b148)])) t → Steps p.tables e below (s₁.setTop (mkF m 0 #[.val (.int p0), .val (.int p1), .val (.int p2), .unset, .unset, .unset, .unset, .unset, .unset, .unset, .unset, .unset, .unset, .unset, .unset, .unset, .unset, .unset, .unset, .unset, .unset, .unset, .unset, .unset] [])) t := by
        have pre174 : ∀ t, Steps p.tables e below (T169.setTop (mkF m 131 #[.val (.int p0), .val (.int p1), .val (.int p2), .val (.int (6 : Int32)), .val (.int bt0), .val (.int bt1), .val (.int bt2), .val (.int bt3), .val (.int bt4), .val (.int bt5), .val (.ref b148), .unset, .unset, .unset, .unset, .unset, .unset, .unset, .unset, .unset, .unset, .unset, .unset, .unset] [(.int (1 : Int32)), (.int bt3), (.int (3 : Int32)), (.ref b148)])) t → Steps p.tables e below (s₁.setTop (mkF m 0 #[.val (.int p0), .val (.int p1), .val (.int p2), .unset, .unset, .unset, .unset, .unset, .unset, .unset, .unset, .unset, .unset, .unset, .unset, .unset, .unset, .unset, .unset, .unset, .unset, .unset, .unset, .unset] [])) t := fun t k => pre171 t (by
          show Steps p.tables e below (T169.setTop (mkF m 128 #[.val (.int p0), .val (.int p1), .val (.int p2), .val (.int (6 : Int32)), .val (.int bt0), .val (.int bt1), .val (.int bt2), .val (.int bt3), .val (.int bt4), .val (.int bt5), .val (.ref b148), .unset, .unset, .unset, .unset, .unset, .unset, .unset, .unset, .unset, .unset, .unset, .unset, .unset] [(.int (3 : Int32)), (.ref b148)])) _
          refine XS.iload X169.here hx rfl (hb hby at_128) rfl ?_
          show Steps p.tables e below (T169.setTop (mkF m 130 #[.val (.int p0), .val (.int p1), .val (.int p2), .val (.int (6 : Int32)), .val (.int bt0), .val (.int bt1), .val (.int bt2), .val (.int bt3), .val (.int bt4), .val (.int bt5), .val (.ref b148), .unset, .unset, .unset, .unset, .unset, .unset, .unset, .unset, .unset, .unset, .unset, .unset, .unset] [(.int bt3), (.int (3 : Int32)), (.ref b148)])) _
          refine XS.iconst X169.here hx rfl (hb hby at_130) ?_
          exact k)
        by_cases hc173 : bt3 = (1 : Int32)
        · skip
          have ohc173 : bt3.toInt = 1 := own_eq.mp hc173
          refine ⟨(1 : Int32), ?_, fun t k => pre174 t ?_⟩
          · exact own_c1 (by omega)
          · skip
            show Steps p.tables e below (T169.setTop (mkF m 131 #[.val (.int p0), .val (.int p1), .val (.int p2), .val (.int (6 : Int32)), .val (.int bt0), .val (.int bt1), .val (.int bt2), .val (.int bt3), .val (.int bt4), .val (.int bt5), .val (.ref b148), .unset, .unset, .unset, .unset, .unset, .unset, .unset, .unset, .unset, .unset, .unset, .unset, .unset] [(.int (1 : Int32)), (.int bt3), (.int (3 : Int32)), (.ref b148)])) _
            refine XS.icmpNo X169.here hx rfl (hb hby at_131) rfl (teq hc173).2 ?_
            show Steps p.tables e below (T169.setTop (mkF m 134 #[.val (.int p0), .val (.int p1), .val (.int p2), .val (.int (6 : Int32)), .val (.int bt0), .val (.int bt1), .val (.int bt2), .val (.int bt3), .val (.int bt4), .val (.int bt5), .val (.ref b148), .unset, .unset, .unset, .unset, .unset, .unset, .unset, .unset, .unset, .unset, .unset, .unset, .unset] [(.int (3 : Int32)), (.ref b148)])) _
            refine XS.iconst X169.here hx rfl (hb hby at_134) ?_
            show Steps p.tables e below (T169.setTop (mkF m 135 #[.val (.int p0), .val (.int p1), .val (.int p2), .val (.int (6 : Int32)), .val (.int bt0), .val (.int bt1), .val (.int bt2), .val (.int bt3), .val (.int bt4), .val (.int bt5), .val (.ref b148), .unset, .unset, .unset, .unset, .unset, .unset, .unset, .unset, .unset, .unset, .unset, .unset, .unset] [(.int (1 : Int32)), (.int (3 : Int32)), (.ref b148)])) _
            refine XS.goto X169.here hx rfl (pc0 := 135) (pc' := 139) rfl (hb hby at_135) (by decide) (by decide) ?_
            exact k
        · skip
          have ohc173 : ¬ (bt3.toInt = 1) := own_neq.mp hc173
          refine ⟨(0 : Int32), ?_, fun t k => pre174 t ?_⟩
          · exact own_c0 (by omega)
          · skip
            show Steps p.tables e below (T169.setTop (mkF m 131 #[.val (.int p0), .val (.int p1), .val (.int p2), .val (.int (6 : Int32)), .val (.int bt0), .val (.int bt1), .val (.int bt2), .val (.int bt3), .val (.int bt4), .val (.int bt5), .val (.ref b148), .unset, .unset, .unset, .unset, .unset, .unset, .unset, .unset, .unset, .unset, .unset, .unset, .unset] [(.int (1 : Int32)), (.int bt3), (.int (3 : Int32)), (.ref b148)])) _
            refine XS.icmpYes X169.here hx rfl (pc0 := 131) (pc' := 138) rfl (hb hby at_131) rfl (feq hc173).2 (by decide) (by decide) ?_
            show Steps p.tables e below (T169.setTop (mkF m 138 #[.val (.int p0), .val (.int p1), .val (.int p2), .val (.int (6 : Int32)), .val (.int bt0), .val (.int bt1), .val (.int bt2), .val (.int bt3), .val (.int bt4), .val (.int bt5), .val (.ref b148), .unset, .unset, .unset, .unset, .unset, .unset, .unset, .unset, .unset, .unset, .unset, .unset, .unset] [(.int (3 : Int32)), (.ref b148)])) _
            refine XS.iconst X169.here hx rfl (hb hby at_138) ?_
            exact k
      obtain ⟨cl175, Ar175, q175, Sz175, Nn175, Hh175, Gg175⟩ := id V169
      have hin175 : ¬ ((3 : Int32) < 0 ∨ cl175.slots.size ≤ ((3 : Int32)).toNatClampNeg) := inb_of Sz175 ⟨by decide, by decide⟩
      obtain ⟨T176, h176, X176, e176, W176, st176⟩ := stZ X169 hx hZ e169 Ar175 (j := (3 : Int32)) hin175 (g := (mkF m 139 #[.val (.int p0), .val (.int p1), .val (.int p2), .val (.int (6 : Int32)), .val (.int bt0), .val (.int bt1), .val (.int bt2), .val (.int bt3), .val (.int bt4), .val (.int bt5), .val (.ref b148), .unset, .unset, .unset, .unset, .unset, .unset, .unset, .unset, .unset, .unset, .unset, .unset, .unset] [(.int (bI (bt3.toInt = 1))), (.int (3 : Int32)), (.ref b148)])) rfl rfl (hb hby at_139)
      have V176 : Arv Z h176 b148 k148 .boolean (6 : Int32) [(.int (nar .boolean (bI (bt0.toInt = 1)))), (.int (nar .boolean (bI (bt1.toInt = 1)))), (.int (nar .boolean (bI (bt2.toInt = 1)))), (.int (nar .boolean (bI (bt3.toInt = 1)))), (.int (0 : Int32)), (.int (0 : Int32))] (.int (0 : Int32)) := Arv.set Ar175 q175 Sz175 Nn175 Hh175 Gg175 (fits_nar_bool _) W176 3 rfl (Nat.le_of_ble_eq_true rfl)
      have N176 := Fr.snoc X176 N169 g_b148
      have Z176 : n0 ≤ h176.size := Nat.le_trans Z169 (Keep.of_wr W176).1
      have K176 : Keep h0 h176 [] := K169.wr W176 (Or.inr sz_b148)
      have hc177 : (4 : Int32) < (6 : Int32) := by decide
      have pre178 : ∀ t, Steps p.tables e below (T176.setTop (mkF m 148 #[.val (.int p0), .val (.int p1), .val (.int p2), .val (.int (6 : Int32)), .val (.int bt0), .val (.int bt1), .val (.int bt2), .val (.int bt3), .val (.int bt4), .val (.int bt5), .val (.ref b148), .unset, .unset, .unset, .unset, .unset, .unset, .unset, .unset, .unset, .unset, .unset, .unset, .unset] [(.int (4 : Int32)), (.ref b148)])) t → Steps p.tables e below (s₁.setTop (mkF m 0 #[.val (.int p0), .val (.int p1), .val (.int p2), .unset, .unset, .unset, .unset, .unset, .unset, .unset, .unset, .unset, .unset, .unset, .unset, .unset, .unset, .unset, .unset, .unset, .unset, .unset, .unset, .unset] [])) t := fun t k => pre172 t (by
        show Steps p.tables e below (T169.setTop (mkF m 139 #[.val (.int p0), .val (.int p1), .val (.int p2), .val (.int (6 : Int32)), .val (.int bt0), .val (.int bt1), .val (.int bt2), .val (.int bt3), .val (.int bt4), .val (.int bt5), .val (.ref b148), .unset, .unset, .unset, .unset, .unset, .unset, .unset, .unset, .unset, .unset, .unset, .unset, .unset] [(.int (bI (bt3.toInt = 1))), (.int (3 : Int32)), (.ref b148)])) _
        refine st176 _ ?_
        show Steps p.tables e below (T176.setTop (mkF m 140 #[.val (.int p0), .val (.int p1), .val (.int p2), .val (.int (6 : Int32)), .val (.int bt0), .val (.int bt1), .val (.int bt2), .val (.int bt3), .val (.int bt4), .val (.int bt5), .val (.ref b148), .unset, .unset, .unset, .unset, .unset, .unset, .unset, .unset, .unset, .unset, .unset, .unset, .unset] [])) _
        refine XS.iloadN X176.here hx rfl (hb hby at_140) rfl ?_
        show Steps p.tables e below (T176.setTop (mkF m 141 #[.val (.int p0), .val (.int p1), .val (.int p2), .val (.int (6 : Int32)), .val (.int bt0), .val (.int bt1), .val (.int bt2), .val (.int bt3), .val (.int bt4), .val (.int bt5), .val (.ref b148), .unset, .unset, .unset, .unset, .unset, .unset, .unset, .unset, .unset, .unset, .unset, .unset, .unset] [(.int (6 : Int32))])) _
        refine XS.iconst X176.here hx rfl (hb hby at_141) ?_
        show Steps p.tables e below (T176.setTop (mkF m 142 #[.val (.int p0), .val (.int p1), .val (.int p2), .val (.int (6 : Int32)), .val (.int bt0), .val (.int bt1), .val (.int bt2), .val (.int bt3), .val (.int bt4), .val (.int bt5), .val (.ref b148), .unset, .unset, .unset, .unset, .unset, .unset, .unset, .unset, .unset, .unset, .unset, .unset, .unset] [(.int (4 : Int32)), (.int (6 : Int32))])) _
        refine XS.icmpNo X176.here hx rfl (hb hby at_142) rfl (tlt hc177).2.2.2 ?_
        show Steps p.tables e below (T176.setTop (mkF m 145 #[.val (.int p0), .val (.int p1), .val (.int p2), .val (.int (6 : Int32)), .val (.int bt0), .val (.int bt1), .val (.int bt2), .val (.int bt3), .val (.int bt4), .val (.int bt5), .val (.ref b148), .unset, .unset, .unset, .unset, .unset, .unset, .unset, .unset, .unset, .unset, .unset, .unset, .unset] [])) _
        refine XS.aload X176.here hx rfl (hb hby at_145) rfl rfl ?_
        show Steps p.tables e below (T176.setTop (mkF m 147 #[.val (.int p0), .val (.int p1), .val (.int p2), .val (.int (6 : Int32)), .val (.int bt0), .val (.int bt1), .val (.int bt2), .val (.int bt3), .val (.int bt4), .val (.int bt5), .val (.ref b148), .unset, .unset, .unset, .unset, .unset, .unset, .unset, .unset, .unset, .unset, .unset, .unset, .unset] [(.ref b148)])) _
        refine XS.iconst X176.here hx rfl (hb hby at_147) ?_
        exact k)
      obtain ⟨v4, rfl, pre179⟩ : ∃ (v4 : Int32), (v4 = bI (bt4.toInt = 1)) ∧ ∀ t, Steps p.tables e below (T176.setTop (mkF m 159 #[.val (.int p0), .val (.int p1), .val (.int p2), .val (.int (6 : Int32)), .val (.int bt0), .val (.int bt1), .val (.int bt2), .val (.int bt3), .val (.int bt4), .val (.int bt5), .val (.ref b148), .unset, .unset, .unset, .unset, .unset, .unset, .unset, .unset, .unset, .unset, .unset, .unset, .unset] [(.int v4), (.int (4 : Int32)), (.ref b148)])) t → Steps p.tables e below (s₁.setTop (mkF m 0 #[.val (.int p0), .val (.int p1), .val (.int p2), .unset, .unset, .unset, .unset, .unset, .unset, .unset, .unset, .unset, .unset, .unset, .unset, .unset, .unset, .unset, .unset, .unset, .unset, .unset, .unset, .unset] [])) t := by
        have pre181 : ∀ t, Steps p.tables e below (T176.setTop (mkF m 151 #[.val (.int p0), .val (.int p1), .val (.int p2), .val (.int (6 : Int32)), .val (.int bt0), .val (.int bt1), .val (.int bt2), .val (.int bt3), .val (.int bt4), .val (.int bt5), .val (.ref b148), .unset, .unset, .unset, .unset, .unset, .unset, .unset, .unset, .unset, .unset, .unset, .unset, .unset] [(.int (1 : Int32)), (.int bt4), (.int (4 : Int32)), (.ref b148)])) t → Steps p.tables e below (s₁.setTop (mkF m 0 #[.val (.int p0), .val (.int p1), .val (.int p2), .unset, .unset, .unset, .unset, .unset, .unset, .unset, .unset, .unset, .unset, .unset, .unset, .unset, .unset, .unset, .unset, .unset, .unset, .unset, .unset, .unset] [])) t := fun t k => pre178 t (by
          show Steps p.tables e below (T176.setTop (mkF m 148 #[.val (.int p0), .val (.int p1), .val (.int p2), .val (.int (6 : Int32)), .val (.int bt0), .val (.int bt1), .val (.int bt2), .val (.int bt3), .val (.int bt4), .val (.int bt5), .val (.ref b148), .unset, .unset, .unset, .unset, .unset, .unset, .unset, .unset, .unset, .unset, .unset, .unset, .unset] [(.int (4 : Int32)), (.ref b148)])) _
          refine XS.iload X176.here hx rfl (hb hby at_148) rfl ?_
          show Steps p.tables e below (T176.setTop (mkF m 150 #[.val (.int p0), .val (.int p1), .val (.int p2), .val (.int (6 : Int32)), .val (.int bt0), .val (.int bt1), .val (.int bt2), .val (.int bt3), .val (.int bt4), .val (.int bt5), .val (.ref b148), .unset, .unset, .unset, .unset, .unset, .unset, .unset, .unset, .unset, .unset, .unset, .unset, .unset] [(.int bt4), (.int (4 : Int32)), (.ref b148)])) _
          refine XS.iconst X176.here hx rfl (hb hby at_150) ?_
          exact k)
        by_cases hc180 : bt4 = (1 : Int32)
        · skip
          have ohc180 : bt4.toInt = 1 := own_eq.mp hc180
          refine ⟨(1 : Int32), ?_, fun t k => pre181 t ?_⟩
          · exact own_c1 (by omega)
          · skip
            show Steps p.tables e below (T176.setTop (mkF m 151 #[.val (.int p0), .val (.int p1), .val (.int p2), .val (.int (6 : Int32)), .val (.int bt0), .val (.int bt1), .val (.int bt2), .val (.int bt3), .val (.int bt4), .val (.int bt5), .val (.ref b148), .unset, .unset, .unset, .unset, .unset, .unset, .unset, .unset, .unset, .unset, .unset, .unset, .unset] [(.int (1 : Int32)), (.int bt4), (.int (4 : Int32)), (.ref b148)])) _
            refine XS.icmpNo X176.here hx rfl (hb hby at_151) rfl (teq hc180).2 ?_
            show Steps p.tables e below (T176.setTop (mkF m 154 #[.val (.int p0), .val (.int p1), .val (.int p2), .val (.int (6 : Int32)), .val (.int bt0), .val (.int bt1), .val (.int bt2), .val (.int bt3), .val (.int bt4), .val (.int bt5), .val (.ref b148), .unset, .unset, .unset, .unset, .unset, .unset, .unset, .unset, .unset, .unset, .unset, .unset, .unset] [(.int (4 : Int32)), (.ref b148)])) _
            refine XS.iconst X176.here hx rfl (hb hby at_154) ?_
            show Steps p.tables e below (T176.setTop (mkF m 155 #[.val (.int p0), .val (.int p1), .val (.int p2), .val (.int (6 : Int32)), .val (.int bt0), .val (.int bt1), .val (.int bt2), .val (.int bt3), .val (.int bt4), .val (.int bt5), .val (.ref b148), .unset, .unset, .unset, .unset, .unset, .unset, .unset, .unset, .unset, .unset, .unset, .unset, .unset] [(.int (1 : Int32)), (.int (4 : Int32)), (.ref b148)])) _
            refine XS.goto X176.here hx rfl (pc0 := 155) (pc' := 159) rfl (hb hby at_155) (by decide) (by decide) ?_
            exact k
        · skip
          have ohc180 : ¬ (bt4.toInt = 1) := own_neq.mp hc180
          refine ⟨(0 : Int32), ?_, fun t k => pre181 t ?_⟩
          · exact own_c0 (by omega)
          · skip
            show Steps p.tables e below (T176.setTop (mkF m 151 #[.val (.int p0), .val (.int p1), .val (.int p2), .val (.int (6 : Int32)), .val (.int bt0), .val (.int bt1), .val (.int bt2), .val (.int bt3), .val (.int bt4), .val (.int bt5), .val (.ref b148), .unset, .unset, .unset, .unset, .unset, .unset, .unset, .unset, .unset, .unset, .unset, .unset, .unset] [(.int (1 : Int32)), (.int bt4), (.int (4 : Int32)), (.ref b148)])) _
            refine XS.icmpYes X176.here hx rfl (pc0 := 151) (pc' := 158) rfl (hb hby at_151) rfl (feq hc180).2 (by decide) (by decide) ?_
            show Steps p.tables e below (T176.setTop (mkF m 158 #[.val (.int p0), .val (.int p1), .val (.int p2), .val (.int (6 : Int32)), .val (.int bt0), .val (.int bt1), .val (.int bt2), .val (.int bt3), .val (.int bt4), .val (.int bt5), .val (.ref b148), .unset, .unset, .unset, .unset, .unset, .unset, .unset, .unset, .unset, .unset, .unset, .unset, .unset] [(.int (4 : Int32)), (.ref b148)])) _
            refine XS.iconst X176.here hx rfl (hb hby at_158) ?_
            exact k
      obtain ⟨cl182, Ar182, q182, Sz182, Nn182, Hh182, Gg182⟩ := id V176
      have hin182 : ¬ ((4 : Int32) < 0 ∨ cl182.slots.size ≤ ((4 : Int32)).toNatClampNeg) := inb_of Sz182 ⟨by decide, by decide⟩
      obtain ⟨T183, h183, X183, e183, W183, st183⟩ := stZ X176 hx hZ e176 Ar182 (j := (4 : Int32)) hin182 (g := (mkF m 159 #[.val (.int p0), .val (.int p1), .val (.int p2), .val (.int (6 : Int32)), .val (.int bt0), .val (.int bt1), .val (.int bt2), .val (.int bt3), .val (.int bt4), .val (.int bt5), .val (.ref b148), .unset, .unset, .unset, .unset, .unset, .unset, .unset, .unset, .unset, .unset, .unset, .unset, .unset] [(.int (bI (bt4.toInt = 1))), (.int (4 : Int32)), (.ref b148)])) rfl rfl (hb hby at_159)
      have V183 : Arv Z h183 b148 k148 .boolean (6 : Int32) [(.int (nar .boolean (bI (bt0.toInt = 1)))), (.int (nar .boolean (bI (bt1.toInt = 1)))), (.int (nar .boolean (bI (bt2.toInt = 1)))), (.int (nar .boolean (bI (bt3.toInt = 1)))), (.int (nar .boolean (bI (bt4.toInt = 1)))), (.int (0 : Int32))] (.int (0 : Int32)) := Arv.set Ar182 q182 Sz182 Nn182 Hh182 Gg182 (fits_nar_bool _) W183 4 rfl (Nat.le_of_ble_eq_true rfl)
      have N183 := Fr.snoc X183 N176 g_b148
      have Z183 : n0 ≤ h183.size := Nat.le_trans Z176 (Keep.of_wr W183).1
      have K183 : Keep h0 h183 [] := K176.wr W183 (Or.inr sz_b148)
      have hc184 : (5 : Int32) < (6 : Int32) := by decide
      have pre185 : ∀ t, Steps p.tables e below (T183.setTop (mkF m 168 #[.val (.int p0), .val (.int p1), .val (.int p2), .val (.int (6 : Int32)), .val (.int bt0), .val (.int bt1), .val (.int bt2), .val (.int bt3), .val (.int bt4), .val (.int bt5), .val (.ref b148), .unset, .unset, .unset, .unset, .unset, .unset, .unset, .unset, .unset, .unset, .unset, .unset, .unset] [(.int (5 : Int32)), (.ref b148)])) t → Steps p.tables e below (s₁.setTop (mkF m 0 #[.val (.int p0), .val (.int p1), .val (.int p2), .unset, .unset, .unset, .unset, .unset, .unset, .unset, .unset, .unset, .unset, .unset, .unset, .unset, .unset, .unset, .unset, .unset, .unset, .unset, .unset, .unset] [])) t := fun t k => pre179 t (by
        show Steps p.tables e below (T176.setTop (mkF m 159 #[.val (.int p0), .val (.int p1), .val (.int p2), .val (.int (6 : Int32)), .val (.int bt0), .val (.int bt1), .val (.int bt2), .val (.int bt3), .val (.int bt4), .val (.int bt5), .val (.ref b148), .unset, .unset, .unset, .unset, .unset, .unset, .unset, .unset, .unset, .unset, .unset, .unset, .unset] [(.int (bI (bt4.toInt = 1))), (.int (4 : Int32)), (.ref b148)])) _
        refine st183 _ ?_
        show Steps p.tables e below (T183.setTop (mkF m 160 #[.val (.int p0), .val (.int p1), .val (.int p2), .val (.int (6 : Int32)), .val (.int bt0), .val (.int bt1), .val (.int bt2), .val (.int bt3), .val (.int bt4), .val (.int bt5), .val (.ref b148), .unset, .unset, .unset, .unset, .unset, .unset, .unset, .unset, .unset, .unset, .unset, .unset, .unset] [])) _
        refine XS.iloadN X183.here hx rfl (hb hby at_160) rfl ?_
        show Steps p.tables e below (T183.setTop (mkF m 161 #[.val (.int p0), .val (.int p1), .val (.int p2), .val (.int (6 : Int32)), .val (.int bt0), .val (.int bt1), .val (.int bt2), .val (.int bt3), .val (.int bt4), .val (.int bt5), .val (.ref b148), .unset, .unset, .unset, .unset, .unset, .unset, .unset, .unset, .unset, .unset, .unset, .unset, .unset] [(.int (6 : Int32))])) _
        refine XS.iconst X183.here hx rfl (hb hby at_161) ?_
        show Steps p.tables e below (T183.setTop (mkF m 162 #[.val (.int p0), .val (.int p1), .val (.int p2), .val (.int (6 : Int32)), .val (.int bt0), .val (.int bt1), .val (.int bt2), .val (.int bt3), .val (.int bt4), .val (.int bt5), .val (.ref b148), .unset, .unset, .unset, .unset, .unset, .unset, .unset, .unset, .unset, .unset, .unset, .unset, .unset] [(.int (5 : Int32)), (.int (6 : Int32))])) _
        refine XS.icmpNo X183.here hx rfl (hb hby at_162) rfl (tlt hc184).2.2.2 ?_
        show Steps p.tables e below (T183.setTop (mkF m 165 #[.val (.int p0), .val (.int p1), .val (.int p2), .val (.int (6 : Int32)), .val (.int bt0), .val (.int bt1), .val (.int bt2), .val (.int bt3), .val (.int bt4), .val (.int bt5), .val (.ref b148), .unset, .unset, .unset, .unset, .unset, .unset, .unset, .unset, .unset, .unset, .unset, .unset, .unset] [])) _
        refine XS.aload X183.here hx rfl (hb hby at_165) rfl rfl ?_
        show Steps p.tables e below (T183.setTop (mkF m 167 #[.val (.int p0), .val (.int p1), .val (.int p2), .val (.int (6 : Int32)), .val (.int bt0), .val (.int bt1), .val (.int bt2), .val (.int bt3), .val (.int bt4), .val (.int bt5), .val (.ref b148), .unset, .unset, .unset, .unset, .unset, .unset, .unset, .unset, .unset, .unset, .unset, .unset, .unset] [(.ref b148)])) _
        refine XS.iconst X183.here hx rfl (hb hby at_167) ?_
        exact k)
      obtain ⟨v5, rfl, pre186⟩ : ∃ (v5 : Int32), (v5 = bI (bt5.toInt = 1)) ∧ ∀ t, Steps p.tables e below (T183.setTop (mkF m 179 #[.val (.int p0), .val (.int p1), .val (.int p2), .val (.int (6 : Int32)), .val (.int bt0), .val (.int bt1), .val (.int bt2), .val (.int bt3), .val (.int bt4), .val (.int bt5), .val (.ref b148), .unset, .unset, .unset, .unset, .unset, .unset, .unset, .unset, .unset, .unset, .unset, .unset, .unset] [(.int v5), (.int (5 : Int32)), (.ref b148)])) t → Steps p.tables e below (s₁.setTop (mkF m 0 #[.val (.int p0), .val (.int p1), .val (.int p2), .unset, .unset, .unset, .unset, .unset, .unset, .unset, .unset, .unset, .unset, .unset, .unset, .unset, .unset, .unset, .unset, .unset, .unset, .unset, .unset, .unset] [])) t := by
        have pre188 : ∀ t, Steps p.tables e below (T183.setTop (mkF m 171 #[.val (.int p0), .val (.int p1), .val (.int p2), .val (.int (6 : Int32)), .val (.int bt0), .val (.int bt1), .val (.int bt2), .val (.int bt3), .val (.int bt4), .val (.int bt5), .val (.ref b148), .unset, .unset, .unset, .unset, .unset, .unset, .unset, .unset, .unset, .unset, .unset, .unset, .unset] [(.int (1 : Int32)), (.int bt5), (.int (5 : Int32)), (.ref b148)])) t → Steps p.tables e below (s₁.setTop (mkF m 0 #[.val (.int p0), .val (.int p1), .val (.int p2), .unset, .unset, .unset, .unset, .unset, .unset, .unset, .unset, .unset, .unset, .unset, .unset, .unset, .unset, .unset, .unset, .unset, .unset, .unset, .unset, .unset] [])) t := fun t k => pre185 t (by
          show Steps p.tables e below (T183.setTop (mkF m 168 #[.val (.int p0), .val (.int p1), .val (.int p2), .val (.int (6 : Int32)), .val (.int bt0), .val (.int bt1), .val (.int bt2), .val (.int bt3), .val (.int bt4), .val (.int bt5), .val (.ref b148), .unset, .unset, .unset, .unset, .unset, .unset, .unset, .unset, .unset, .unset, .unset, .unset, .unset] [(.int (5 : Int32)), (.ref b148)])) _
          refine XS.iload X183.here hx rfl (hb hby at_168) rfl ?_
          show Steps p.tables e below (T183.setTop (mkF m 170 #[.val (.int p0), .val (.int p1), .val (.int p2), .val (.int (6 : Int32)), .val (.int bt0), .val (.int bt1), .val (.int bt2), .val (.int bt3), .val (.int bt4), .val (.int bt5), .val (.ref b148), .unset, .unset, .unset, .unset, .unset, .unset, .unset, .unset, .unset, .unset, .unset, .unset, .unset] [(.int bt5), (.int (5 : Int32)), (.ref b148)])) _
          refine XS.iconst X183.here hx rfl (hb hby at_170) ?_
          exact k)
        by_cases hc187 : bt5 = (1 : Int32)
        · skip
          have ohc187 : bt5.toInt = 1 := own_eq.mp hc187
          refine ⟨(1 : Int32), ?_, fun t k => pre188 t ?_⟩
          · exact own_c1 (by omega)
          · skip
            show Steps p.tables e below (T183.setTop (mkF m 171 #[.val (.int p0), .val (.int p1), .val (.int p2), .val (.int (6 : Int32)), .val (.int bt0), .val (.int bt1), .val (.int bt2), .val (.int bt3), .val (.int bt4), .val (.int bt5), .val (.ref b148), .unset, .unset, .unset, .unset, .unset, .unset, .unset, .unset, .unset, .unset, .unset, .unset, .unset] [(.int (1 : Int32)), (.int bt5), (.int (5 : Int32)), (.ref b148)])) _
            refine XS.icmpNo X183.here hx rfl (hb hby at_171) rfl (teq hc187).2 ?_
            show Steps p.tables e below (T183.setTop (mkF m 174 #[.val (.int p0), .val (.int p1), .val (.int p2), .val (.int (6 : Int32)), .val (.int bt0), .val (.int bt1), .val (.int bt2), .val (.int bt3), .val (.int bt4), .val (.int bt5), .val (.ref b148), .unset, .unset, .unset, .unset, .unset, .unset, .unset, .unset, .unset, .unset, .unset, .unset, .unset] [(.int (5 : Int32)), (.ref b148)])) _
            refine XS.iconst X183.here hx rfl (hb hby at_174) ?_
            show Steps p.tables e below (T183.setTop (mkF m 175 #[.val (.int p0), .val (.int p1), .val (.int p2), .val (.int (6 : Int32)), .val (.int bt0), .val (.int bt1), .val (.int bt2), .val (.int bt3), .val (.int bt4), .val (.int bt5), .val (.ref b148), .unset, .unset, .unset, .unset, .unset, .unset, .unset, .unset, .unset, .unset, .unset, .unset, .unset] [(.int (1 : Int32)), (.int (5 : Int32)), (.ref b148)])) _
            refine XS.goto X183.here hx rfl (pc0 := 175) (pc' := 179) rfl (hb hby at_175) (by decide) (by decide) ?_
            exact k
        · skip
          have ohc187 : ¬ (bt5.toInt = 1) := own_neq.mp hc187
          refine ⟨(0 : Int32), ?_, fun t k => pre188 t ?_⟩
          · exact own_c0 (by omega)
          · skip
            show Steps p.tables e below (T183.setTop (mkF m 171 #[.val (.int p0), .val (.int p1), .val (.int p2), .val (.int (6 : Int32)), .val (.int bt0), .val (.int bt1), .val (.int bt2), .val (.int bt3), .val (.int bt4), .val (.int bt5), .val (.ref b148), .unset, .unset, .unset, .unset, .unset, .unset, .unset, .unset, .unset, .unset, .unset, .unset, .unset] [(.int (1 : Int32)), (.int bt5), (.int (5 : Int32)), (.ref b148)])) _
            refine XS.icmpYes X183.here hx rfl (pc0 := 171) (pc' := 178) rfl (hb hby at_171) rfl (feq hc187).2 (by decide) (by decide) ?_
            show Steps p.tables e below (T183.setTop (mkF m 178 #[.val (.int p0), .val (.int p1), .val (.int p2), .val (.int (6 : Int32)), .val (.int bt0), .val (.int bt1), .val (.int bt2), .val (.int bt3), .val (.int bt4), .val (.int bt5), .val (.ref b148), .unset, .unset, .unset, .unset, .unset, .unset, .unset, .unset, .unset, .unset, .unset, .unset, .unset] [(.int (5 : Int32)), (.ref b148)])) _
            refine XS.iconst X183.here hx rfl (hb hby at_178) ?_
            exact k
      obtain ⟨cl189, Ar189, q189, Sz189, Nn189, Hh189, Gg189⟩ := id V183
      have hin189 : ¬ ((5 : Int32) < 0 ∨ cl189.slots.size ≤ ((5 : Int32)).toNatClampNeg) := inb_of Sz189 ⟨by decide, by decide⟩
      obtain ⟨T190, h190, X190, e190, W190, st190⟩ := stZ X183 hx hZ e183 Ar189 (j := (5 : Int32)) hin189 (g := (mkF m 179 #[.val (.int p0), .val (.int p1), .val (.int p2), .val (.int (6 : Int32)), .val (.int bt0), .val (.int bt1), .val (.int bt2), .val (.int bt3), .val (.int bt4), .val (.int bt5), .val (.ref b148), .unset, .unset, .unset, .unset, .unset, .unset, .unset, .unset, .unset, .unset, .unset, .unset, .unset] [(.int (bI (bt5.toInt = 1))), (.int (5 : Int32)), (.ref b148)])) rfl rfl (hb hby at_179)
      have V190 : Arv Z h190 b148 k148 .boolean (6 : Int32) [(.int (nar .boolean (bI (bt0.toInt = 1)))), (.int (nar .boolean (bI (bt1.toInt = 1)))), (.int (nar .boolean (bI (bt2.toInt = 1)))), (.int (nar .boolean (bI (bt3.toInt = 1)))), (.int (nar .boolean (bI (bt4.toInt = 1)))), (.int (nar .boolean (bI (bt5.toInt = 1))))] (.int (0 : Int32)) := Arv.set Ar189 q189 Sz189 Nn189 Hh189 Gg189 (fits_nar_bool _) W190 5 rfl (Nat.le_of_ble_eq_true rfl)
      have N190 := Fr.snoc X190 N183 g_b148
      have Z190 : n0 ≤ h190.size := Nat.le_trans Z183 (Keep.of_wr W190).1
      have K190 : Keep h0 h190 [] := K183.wr W190 (Or.inr sz_b148)
      obtain ⟨cl191, Ar191, -, Sz191, -, Hh191, -⟩ := V190
      refine ⟨b148, cl191, T190, _, h190, X190.more (by decide) (by decide), e190, N190, Z190, K190, ⟨Ar191, Sz191, fun j hj => by
        have q := Hh191 j (by rw [Sz191]; exact hj)
        have hj' : j < 6 := hj
        rcases (show j = 0 ∨ j = 1 ∨ j = 2 ∨ j = 3 ∨ j = 4 ∨ j = 5 by omega) with rfl | rfl | rfl | rfl | rfl | rfl
        · exact q.trans (congrArg (fun z => some (Value.int z)) (own_nar (P := bt0.toInt = 1)))
        · exact q.trans (congrArg (fun z => some (Value.int z)) (own_nar (P := bt1.toInt = 1)))
        · exact q.trans (congrArg (fun z => some (Value.int z)) (own_nar (P := bt2.toInt = 1)))
        · exact q.trans (congrArg (fun z => some (Value.int z)) (own_nar (P := bt3.toInt = 1)))
        · exact q.trans (congrArg (fun z => some (Value.int z)) (own_nar (P := bt4.toInt = 1)))
        · exact q.trans (congrArg (fun z => some (Value.int z)) (own_nar (P := bt5.toInt = 1)))⟩, fun t k => pre186 t ?_⟩
      show Steps p.tables e below (T183.setTop (mkF m 179 #[.val (.int p0), .val (.int p1), .val (.int p2), .val (.int (6 : Int32)), .val (.int bt0), .val (.int bt1), .val (.int bt2), .val (.int bt3), .val (.int bt4), .val (.int bt5), .val (.ref b148), .unset, .unset, .unset, .unset, .unset, .unset, .unset, .unset, .unset, .unset, .unset, .unset, .unset] [(.int (bI (bt5.toInt = 1))), (.int (5 : Int32)), (.ref b148)])) _
      refine st190 _ ?_
      exact k
  have MB : ¬ ln < 0 := own_nlt.mpr (show 0 ≤ ln.toInt by omega)
  obtain ⟨T192, h192, X192, e192, E192, A192, D192, -, st192⟩ := newO X9 hx hZ hown (hw _ (List.mem_of_getElem? (i := 6) rfl)) (hw _ (List.mem_of_getElem? (i := 7) rfl)) (hw _ (List.mem_of_getElem? (i := 8) rfl)) e9 (g := (mkF m 180 #[.val (.int p0), .val (.int p1), .val (.int p2), .val (.int ln), .val (.int bt0), .val (.int bt1), .val (.int bt2), .val (.int bt3), .val (.int bt4), .val (.int bt5), .val (.ref bb), .unset, .unset, .unset, .unset, .unset, .unset, .unset, .unset, .unset, .unset, .unset, .unset, .unset] [])) rfl (hb hby at_180) (by decide) (by decide)
  obtain ⟨b192, g192⟩ : ∃ z, z = hh9.size := ⟨_, rfl⟩
  rw [← g192] at A192 D192 st192
  have g_b192 : n0 ≤ b192 := Nat.le_trans Z9 (Nat.le_of_eq g192.symm)
  skip
  have Z192 : n0 ≤ h192.size := Nat.le_trans Z9 E192.1
  have ne_bb_b192 : bb ≠ b192 := Nat.ne_of_lt (Nat.lt_of_lt_of_le AB.lt (Nat.le_of_eq g192.symm))
  have K192 : Keep h0 h192 [] := K9.ext E192
  have sz_b192 : h0.size ≤ b192 := Nat.le_trans K9.1 (Nat.le_of_eq g192.symm)
  have c193 : Arr Z h192 bb cb .boolean := AB.ext E192
  have F192_relevant : Fld Z h192 b192 "com/example/cranfield/cranfield/eval/RankedTopic" "relevant" "[Z" .null := D192 (Or.inr (hw _ (List.mem_of_getElem? (i := 16) rfl))) (ty := (.array .boolean)) (by decide)
  have F192_relevantCount : Fld Z h192 b192 "com/example/cranfield/cranfield/eval/RankedTopic" "relevantCount" "I" (.int (0 : Int32)) := D192 (Or.inr (hw _ (List.mem_of_getElem? (i := 18) rfl))) (ty := .int) (by decide)
  obtain ⟨_, _, ⟨T194, L194, k194, n194⟩, -, X194, ⟨Lc194, hQ194, l194, y194, z194⟩, st194⟩ := X192.specialBack hx (y := (⟨"com/example/cranfield/cranfield/eval/RankedTopic", "<init>", "([ZI)V"⟩ : MethodName)) rfl hown (mvT hZ (hw _ (List.mem_of_getElem? (i := 9) rfl))) (mvT hZ (hw _ (List.mem_of_getElem? (i := 10) rfl))) (mvT hZ (hw _ (List.mem_of_getElem? (i := 11) rfl))) (by decide) (backOf (W := 1) (rm2 l Z a0 hw [] b192 bb p2 h192 n0 Z192 A192 F192_relevant F192_relevantCount g_b192 ) hZ (hw _ (List.mem_of_getElem? (i := 11) rfl)) (hw _ (List.mem_of_getElem? (i := 8) rfl)) (by decide) (by decide)) (g := (mkF m 187 #[.val (.int p0), .val (.int p1), .val (.int p2), .val (.int ln), .val (.int bt0), .val (.int bt1), .val (.int bt2), .val (.int bt3), .val (.int bt4), .val (.int bt5), .val (.ref bb), .unset, .unset, .unset, .unset, .unset, .unset, .unset, .unset, .unset, .unset, .unset, .unset, .unset] [(.int p2), (.ref bb), (.ref b192), (.ref b192)])) rfl (by rw [hml]; rfl) (Steps.refl _) (a := b192) (argsL := [(.ref bb), (.int p2)]) (rest := [(.ref b192)]) (lenOf pd_1 rfl) rfl (by show 2 * 0 + _ ≤ _; exact Nat.le_of_eq rfl) (hb hby at_187) (fun _ _ => ⟨rfl, e192, (by decide : 2 + 0 ≤ _), (by decide : 8 + 0 ≤ _)⟩)
  dsimp only [Pt.U, Pt.locs, Pt.cells, Pt.slots] at X194 l194 y194 z194 st194 hQ194
  subst l194 y194 z194
  obtain ⟨rfl, Nq194, Kq194, Eq194, Fq194_0, Fq194_1⟩ := hQ194
  have N194 := Fr.app N9 Nq194
  have Z194 : n0 ≤ T194.heap.size := Nat.le_trans Z192 Kq194.1
  have K194 : Keep h0 T194.heap [] := K192.trans Kq194 (fun x hx => by cases List.mem_singleton.mp hx; exact (Or.inr sz_b192))
  have c195 : Arr Z T194.heap bb cb .boolean := ⟨Kq194.2.1 _ _ c193.1 (fun q => ne_bb_b192 (List.mem_singleton.mp q)), c193.2⟩
  obtain ⟨cq196, kq196, q196a, q196b, q196c⟩ := isOf hZ rfl Eq194
  obtain ⟨_, _, ⟨T196, L196, k196, n196⟩, -, X196, ⟨Lc196, hQ196, l196, y196, z196⟩, st196⟩ := X194.virtualBack hx (y := (⟨"com/example/cranfield/cranfield/eval/RankedTopic", "averagePrecision", "()D"⟩ : MethodName)) (z := (⟨"com/example/cranfield/cranfield/eval/RankedTopic", "averagePrecision", "()D"⟩ : MethodName)) hown (mvT hZ (hw _ (List.mem_of_getElem? (i := 19) rfl))) (mvT hZ (hw _ (List.mem_of_getElem? (i := 20) rfl))) (notFace_of_selects (args := #[]) (mvT hZ (hw _ (List.mem_of_getElem? (i := 22) rfl)))) (mvT hZ (hw _ (List.mem_of_getElem? (i := 22) rfl))) (mvT hZ (hw _ (List.mem_of_getElem? (i := 21) rfl))) (by decide) (backOf (W := 0) (rm4 l Z a0 hw [] b192 p2 bb cb ln (own_B bt0 bt1 bt2 bt3 bt4 bt5) T194.heap n0 Z194 Fq194_1 (by omega) Fq194_0 c195 SB MB HB) hZ (hw _ (List.mem_of_getElem? (i := 23) rfl)) (hw _ (List.mem_of_getElem? (i := 8) rfl)) (by decide) (by decide)) q196a q196c (g := (mkF m 194 #[.val (.int p0), .val (.int p1), .val (.int p2), .val (.int ln), .val (.int bt0), .val (.int bt1), .val (.int bt2), .val (.int bt3), .val (.int bt4), .val (.int bt5), .val (.ref bb), .val (.ref b192), .unset, .unset, .unset, .unset, .unset, .unset, .unset, .unset, .unset, .unset, .unset, .unset] [(.ref b192)])) rfl (by rw [hml]; rfl) (Steps.refl _) (argsL := []) (rest := []) (lenOf pd_2 rfl) rfl (by show 2 * 0 + _ ≤ _; exact Nat.le_of_eq rfl) (hb hby at_194) (fun _ _ => ⟨rfl, rfl, (by decide : 2 + 0 ≤ _), (by decide : 8 + 0 ≤ _)⟩)
  dsimp only [Pt.U, Pt.locs, Pt.cells, Pt.slots] at X196 l196 y196 z196 st196 hQ196
  subst l196 y196 z196
  obtain ⟨rfl, Nq196, e196⟩ := hQ196
  have N196 := Fr.app N194 Nq196
  have pre197 : ∀ t, Steps p.tables e below (T196.setTop (mkF m 241 #[.val (.int p0), .val (.int p1), .val (.int p2), .val (.int ln), .val (.int bt0), .val (.int bt1), .val (.int bt2), .val (.int bt3), .val (.int bt4), .val (.int bt5), .val (.ref bb), .val (.ref b192), .val (.double (own_fin p2 (own_ap (own_B bt0 bt1 bt2 bt3 bt4 bt5) ln.toNatClampNeg).2)), .second, .val (.int bt0), .val (.int (bt0 + bt1)), .val (.int ((bt0 + bt1) + bt2)), .val (.int (((bt0 + bt1) + bt2) + bt3)), .val (.int ((((bt0 + bt1) + bt2) + bt3) + bt4)), .val (.int (((((bt0 + bt1) + bt2) + bt3) + bt4) + bt5)), .val (.double FP.dconst0), .second, .unset, .unset] [])) t → Steps p.tables e below (s₁.setTop (mkF m 0 #[.val (.int p0), .val (.int p1), .val (.int p2), .unset, .unset, .unset, .unset, .unset, .unset, .unset, .unset, .unset, .unset, .unset, .unset, .unset, .unset, .unset, .unset, .unset, .unset, .unset, .unset, .unset] [])) t := fun t k => pre9 t (by
    show Steps p.tables e below (T9.setTop (mkF m 180 #[.val (.int p0), .val (.int p1), .val (.int p2), .val (.int ln), .val (.int bt0), .val (.int bt1), .val (.int bt2), .val (.int bt3), .val (.int bt4), .val (.int bt5), .val (.ref bb), .unset, .unset, .unset, .unset, .unset, .unset, .unset, .unset, .unset, .unset, .unset, .unset, .unset] [])) _
    refine st192 _ ?_
    show Steps p.tables e below (T192.setTop (mkF m 183 #[.val (.int p0), .val (.int p1), .val (.int p2), .val (.int ln), .val (.int bt0), .val (.int bt1), .val (.int bt2), .val (.int bt3), .val (.int bt4), .val (.int bt5), .val (.ref bb), .unset, .unset, .unset, .unset, .unset, .unset, .unset, .unset, .unset, .unset, .unset, .unset, .unset] [(.ref b192)])) _
    refine XS.dup X192.here hx rfl (hb hby at_183) rfl rfl ?_
    show Steps p.tables e below (T192.setTop (mkF m 184 #[.val (.int p0), .val (.int p1), .val (.int p2), .val (.int ln), .val (.int bt0), .val (.int bt1), .val (.int bt2), .val (.int bt3), .val (.int bt4), .val (.int bt5), .val (.ref bb), .unset, .unset, .unset, .unset, .unset, .unset, .unset, .unset, .unset, .unset, .unset, .unset, .unset] [(.ref b192), (.ref b192)])) _
    refine XS.aload X192.here hx rfl (hb hby at_184) rfl rfl ?_
    show Steps p.tables e below (T192.setTop (mkF m 186 #[.val (.int p0), .val (.int p1), .val (.int p2), .val (.int ln), .val (.int bt0), .val (.int bt1), .val (.int bt2), .val (.int bt3), .val (.int bt4), .val (.int bt5), .val (.ref bb), .unset, .unset, .unset, .unset, .unset, .unset, .unset, .unset, .unset, .unset, .unset, .unset, .unset] [(.ref bb), (.ref b192), (.ref b192)])) _
    refine XS.iloadN X192.here hx rfl (hb hby at_186) rfl ?_
    show Steps p.tables e below (T192.setTop (mkF m 187 #[.val (.int p0), .val (.int p1), .val (.int p2), .val (.int ln), .val (.int bt0), .val (.int bt1), .val (.int bt2), .val (.int bt3), .val (.int bt4), .val (.int bt5), .val (.ref bb), .unset, .unset, .unset, .unset, .unset, .unset, .unset, .unset, .unset, .unset, .unset, .unset, .unset] [(.int p2), (.ref bb), (.ref b192), (.ref b192)])) _
    refine st194.trans ?_
    show Steps p.tables e below (T194.setTop (mkF m 190 #[.val (.int p0), .val (.int p1), .val (.int p2), .val (.int ln), .val (.int bt0), .val (.int bt1), .val (.int bt2), .val (.int bt3), .val (.int bt4), .val (.int bt5), .val (.ref bb), .unset, .unset, .unset, .unset, .unset, .unset, .unset, .unset, .unset, .unset, .unset, .unset, .unset] [(.ref b192)])) _
    refine XS.astore X194.here hx rfl (hb hby at_190) rfl rfl (l' := #[.val (.int p0), .val (.int p1), .val (.int p2), .val (.int ln), .val (.int bt0), .val (.int bt1), .val (.int bt2), .val (.int bt3), .val (.int bt4), .val (.int bt5), .val (.ref bb), .val (.ref b192), .unset, .unset, .unset, .unset, .unset, .unset, .unset, .unset, .unset, .unset, .unset, .unset]) rfl ?_
    show Steps p.tables e below (T194.setTop (mkF m 192 #[.val (.int p0), .val (.int p1), .val (.int p2), .val (.int ln), .val (.int bt0), .val (.int bt1), .val (.int bt2), .val (.int bt3), .val (.int bt4), .val (.int bt5), .val (.ref bb), .val (.ref b192), .unset, .unset, .unset, .unset, .unset, .unset, .unset, .unset, .unset, .unset, .unset, .unset] [])) _
    refine XS.aload X194.here hx rfl (hb hby at_192) rfl rfl ?_
    show Steps p.tables e below (T194.setTop (mkF m 194 #[.val (.int p0), .val (.int p1), .val (.int p2), .val (.int ln), .val (.int bt0), .val (.int bt1), .val (.int bt2), .val (.int bt3), .val (.int bt4), .val (.int bt5), .val (.ref bb), .val (.ref b192), .unset, .unset, .unset, .unset, .unset, .unset, .unset, .unset, .unset, .unset, .unset, .unset] [(.ref b192)])) _
    refine st196.trans ?_
    show Steps p.tables e below (T196.setTop (mkF m 197 #[.val (.int p0), .val (.int p1), .val (.int p2), .val (.int ln), .val (.int bt0), .val (.int bt1), .val (.int bt2), .val (.int bt3), .val (.int bt4), .val (.int bt5), .val (.ref bb), .val (.ref b192), .unset, .unset, .unset, .unset, .unset, .unset, .unset, .unset, .unset, .unset, .unset, .unset] [(.double (own_fin p2 (own_ap (own_B bt0 bt1 bt2 bt3 bt4 bt5) ln.toNatClampNeg).2))])) _
    refine XS.dstore X196.here hx rfl (hb hby at_197) rfl (l' := #[.val (.int p0), .val (.int p1), .val (.int p2), .val (.int ln), .val (.int bt0), .val (.int bt1), .val (.int bt2), .val (.int bt3), .val (.int bt4), .val (.int bt5), .val (.ref bb), .val (.ref b192), .val (.double (own_fin p2 (own_ap (own_B bt0 bt1 bt2 bt3 bt4 bt5) ln.toNatClampNeg).2)), .second, .unset, .unset, .unset, .unset, .unset, .unset, .unset, .unset, .unset, .unset]) rfl ?_
    show Steps p.tables e below (T196.setTop (mkF m 199 #[.val (.int p0), .val (.int p1), .val (.int p2), .val (.int ln), .val (.int bt0), .val (.int bt1), .val (.int bt2), .val (.int bt3), .val (.int bt4), .val (.int bt5), .val (.ref bb), .val (.ref b192), .val (.double (own_fin p2 (own_ap (own_B bt0 bt1 bt2 bt3 bt4 bt5) ln.toNatClampNeg).2)), .second, .unset, .unset, .unset, .unset, .unset, .unset, .unset, .unset, .unset, .unset] [])) _
    refine XS.iload X196.here hx rfl (hb hby at_199) rfl ?_
    show Steps p.tables e below (T196.setTop (mkF m 201 #[.val (.int p0), .val (.int p1), .val (.int p2), .val (.int ln), .val (.int bt0), .val (.int bt1), .val (.int bt2), .val (.int bt3), .val (.int bt4), .val (.int bt5), .val (.ref bb), .val (.ref b192), .val (.double (own_fin p2 (own_ap (own_B bt0 bt1 bt2 bt3 bt4 bt5) ln.toNatClampNeg).2)), .second, .unset, .unset, .unset, .unset, .unset, .unset, .unset, .unset, .unset, .unset] [(.int bt0)])) _
    refine XS.istore X196.here hx rfl (hb hby at_201) rfl (l' := #[.val (.int p0), .val (.int p1), .val (.int p2), .val (.int ln), .val (.int bt0), .val (.int bt1), .val (.int bt2), .val (.int bt3), .val (.int bt4), .val (.int bt5), .val (.ref bb), .val (.ref b192), .val (.double (own_fin p2 (own_ap (own_B bt0 bt1 bt2 bt3 bt4 bt5) ln.toNatClampNeg).2)), .second, .val (.int bt0), .unset, .unset, .unset, .unset, .unset, .unset, .unset, .unset, .unset]) rfl ?_
    show Steps p.tables e below (T196.setTop (mkF m 203 #[.val (.int p0), .val (.int p1), .val (.int p2), .val (.int ln), .val (.int bt0), .val (.int bt1), .val (.int bt2), .val (.int bt3), .val (.int bt4), .val (.int bt5), .val (.ref bb), .val (.ref b192), .val (.double (own_fin p2 (own_ap (own_B bt0 bt1 bt2 bt3 bt4 bt5) ln.toNatClampNeg).2)), .second, .val (.int bt0), .unset, .unset, .unset, .unset, .unset, .unset, .unset, .unset, .unset] [])) _
    refine XS.iload X196.here hx rfl (hb hby at_203) rfl ?_
    show Steps p.tables e below (T196.setTop (mkF m 205 #[.val (.int p0), .val (.int p1), .val (.int p2), .val (.int ln), .val (.int bt0), .val (.int bt1), .val (.int bt2), .val (.int bt3), .val (.int bt4), .val (.int bt5), .val (.ref bb), .val (.ref b192), .val (.double (own_fin p2 (own_ap (own_B bt0 bt1 bt2 bt3 bt4 bt5) ln.toNatClampNeg).2)), .second, .val (.int bt0), .unset, .unset, .unset, .unset, .unset, .unset, .unset, .unset, .unset] [(.int bt0)])) _
    refine XS.iload X196.here hx rfl (hb hby at_205) rfl ?_
    show Steps p.tables e below (T196.setTop (mkF m 207 #[.val (.int p0), .val (.int p1), .val (.int p2), .val (.int ln), .val (.int bt0), .val (.int bt1), .val (.int bt2), .val (.int bt3), .val (.int bt4), .val (.int bt5), .val (.ref bb), .val (.ref b192), .val (.double (own_fin p2 (own_ap (own_B bt0 bt1 bt2 bt3 bt4 bt5) ln.toNatClampNeg).2)), .second, .val (.int bt0), .unset, .unset, .unset, .unset, .unset, .unset, .unset, .unset, .unset] [(.int bt1), (.int bt0)])) _
    refine XS.iadd X196.here hx rfl (hb hby at_207) rfl ?_
    show Steps p.tables e below (T196.setTop (mkF m 208 #[.val (.int p0), .val (.int p1), .val (.int p2), .val (.int ln), .val (.int bt0), .val (.int bt1), .val (.int bt2), .val (.int bt3), .val (.int bt4), .val (.int bt5), .val (.ref bb), .val (.ref b192), .val (.double (own_fin p2 (own_ap (own_B bt0 bt1 bt2 bt3 bt4 bt5) ln.toNatClampNeg).2)), .second, .val (.int bt0), .unset, .unset, .unset, .unset, .unset, .unset, .unset, .unset, .unset] [(.int (bt0 + bt1))])) _
    refine XS.istore X196.here hx rfl (hb hby at_208) rfl (l' := #[.val (.int p0), .val (.int p1), .val (.int p2), .val (.int ln), .val (.int bt0), .val (.int bt1), .val (.int bt2), .val (.int bt3), .val (.int bt4), .val (.int bt5), .val (.ref bb), .val (.ref b192), .val (.double (own_fin p2 (own_ap (own_B bt0 bt1 bt2 bt3 bt4 bt5) ln.toNatClampNeg).2)), .second, .val (.int bt0), .val (.int (bt0 + bt1)), .unset, .unset, .unset, .unset, .unset, .unset, .unset, .unset]) rfl ?_
    show Steps p.tables e below (T196.setTop (mkF m 210 #[.val (.int p0), .val (.int p1), .val (.int p2), .val (.int ln), .val (.int bt0), .val (.int bt1), .val (.int bt2), .val (.int bt3), .val (.int bt4), .val (.int bt5), .val (.ref bb), .val (.ref b192), .val (.double (own_fin p2 (own_ap (own_B bt0 bt1 bt2 bt3 bt4 bt5) ln.toNatClampNeg).2)), .second, .val (.int bt0), .val (.int (bt0 + bt1)), .unset, .unset, .unset, .unset, .unset, .unset, .unset, .unset] [])) _
    refine XS.iload X196.here hx rfl (hb hby at_210) rfl ?_
    show Steps p.tables e below (T196.setTop (mkF m 212 #[.val (.int p0), .val (.int p1), .val (.int p2), .val (.int ln), .val (.int bt0), .val (.int bt1), .val (.int bt2), .val (.int bt3), .val (.int bt4), .val (.int bt5), .val (.ref bb), .val (.ref b192), .val (.double (own_fin p2 (own_ap (own_B bt0 bt1 bt2 bt3 bt4 bt5) ln.toNatClampNeg).2)), .second, .val (.int bt0), .val (.int (bt0 + bt1)), .unset, .unset, .unset, .unset, .unset, .unset, .unset, .unset] [(.int (bt0 + bt1))])) _
    refine XS.iload X196.here hx rfl (hb hby at_212) rfl ?_
    show Steps p.tables e below (T196.setTop (mkF m 214 #[.val (.int p0), .val (.int p1), .val (.int p2), .val (.int ln), .val (.int bt0), .val (.int bt1), .val (.int bt2), .val (.int bt3), .val (.int bt4), .val (.int bt5), .val (.ref bb), .val (.ref b192), .val (.double (own_fin p2 (own_ap (own_B bt0 bt1 bt2 bt3 bt4 bt5) ln.toNatClampNeg).2)), .second, .val (.int bt0), .val (.int (bt0 + bt1)), .unset, .unset, .unset, .unset, .unset, .unset, .unset, .unset] [(.int bt2), (.int (bt0 + bt1))])) _
    refine XS.iadd X196.here hx rfl (hb hby at_214) rfl ?_
    show Steps p.tables e below (T196.setTop (mkF m 215 #[.val (.int p0), .val (.int p1), .val (.int p2), .val (.int ln), .val (.int bt0), .val (.int bt1), .val (.int bt2), .val (.int bt3), .val (.int bt4), .val (.int bt5), .val (.ref bb), .val (.ref b192), .val (.double (own_fin p2 (own_ap (own_B bt0 bt1 bt2 bt3 bt4 bt5) ln.toNatClampNeg).2)), .second, .val (.int bt0), .val (.int (bt0 + bt1)), .unset, .unset, .unset, .unset, .unset, .unset, .unset, .unset] [(.int ((bt0 + bt1) + bt2))])) _
    refine XS.istore X196.here hx rfl (hb hby at_215) rfl (l' := #[.val (.int p0), .val (.int p1), .val (.int p2), .val (.int ln), .val (.int bt0), .val (.int bt1), .val (.int bt2), .val (.int bt3), .val (.int bt4), .val (.int bt5), .val (.ref bb), .val (.ref b192), .val (.double (own_fin p2 (own_ap (own_B bt0 bt1 bt2 bt3 bt4 bt5) ln.toNatClampNeg).2)), .second, .val (.int bt0), .val (.int (bt0 + bt1)), .val (.int ((bt0 + bt1) + bt2)), .unset, .unset, .unset, .unset, .unset, .unset, .unset]) rfl ?_
    show Steps p.tables e below (T196.setTop (mkF m 217 #[.val (.int p0), .val (.int p1), .val (.int p2), .val (.int ln), .val (.int bt0), .val (.int bt1), .val (.int bt2), .val (.int bt3), .val (.int bt4), .val (.int bt5), .val (.ref bb), .val (.ref b192), .val (.double (own_fin p2 (own_ap (own_B bt0 bt1 bt2 bt3 bt4 bt5) ln.toNatClampNeg).2)), .second, .val (.int bt0), .val (.int (bt0 + bt1)), .val (.int ((bt0 + bt1) + bt2)), .unset, .unset, .unset, .unset, .unset, .unset, .unset] [])) _
    refine XS.iload X196.here hx rfl (hb hby at_217) rfl ?_
    show Steps p.tables e below (T196.setTop (mkF m 219 #[.val (.int p0), .val (.int p1), .val (.int p2), .val (.int ln), .val (.int bt0), .val (.int bt1), .val (.int bt2), .val (.int bt3), .val (.int bt4), .val (.int bt5), .val (.ref bb), .val (.ref b192), .val (.double (own_fin p2 (own_ap (own_B bt0 bt1 bt2 bt3 bt4 bt5) ln.toNatClampNeg).2)), .second, .val (.int bt0), .val (.int (bt0 + bt1)), .val (.int ((bt0 + bt1) + bt2)), .unset, .unset, .unset, .unset, .unset, .unset, .unset] [(.int ((bt0 + bt1) + bt2))])) _
    refine XS.iload X196.here hx rfl (hb hby at_219) rfl ?_
    show Steps p.tables e below (T196.setTop (mkF m 221 #[.val (.int p0), .val (.int p1), .val (.int p2), .val (.int ln), .val (.int bt0), .val (.int bt1), .val (.int bt2), .val (.int bt3), .val (.int bt4), .val (.int bt5), .val (.ref bb), .val (.ref b192), .val (.double (own_fin p2 (own_ap (own_B bt0 bt1 bt2 bt3 bt4 bt5) ln.toNatClampNeg).2)), .second, .val (.int bt0), .val (.int (bt0 + bt1)), .val (.int ((bt0 + bt1) + bt2)), .unset, .unset, .unset, .unset, .unset, .unset, .unset] [(.int bt3), (.int ((bt0 + bt1) + bt2))])) _
    refine XS.iadd X196.here hx rfl (hb hby at_221) rfl ?_
    show Steps p.tables e below (T196.setTop (mkF m 222 #[.val (.int p0), .val (.int p1), .val (.int p2), .val (.int ln), .val (.int bt0), .val (.int bt1), .val (.int bt2), .val (.int bt3), .val (.int bt4), .val (.int bt5), .val (.ref bb), .val (.ref b192), .val (.double (own_fin p2 (own_ap (own_B bt0 bt1 bt2 bt3 bt4 bt5) ln.toNatClampNeg).2)), .second, .val (.int bt0), .val (.int (bt0 + bt1)), .val (.int ((bt0 + bt1) + bt2)), .unset, .unset, .unset, .unset, .unset, .unset, .unset] [(.int (((bt0 + bt1) + bt2) + bt3))])) _
    refine XS.istore X196.here hx rfl (hb hby at_222) rfl (l' := #[.val (.int p0), .val (.int p1), .val (.int p2), .val (.int ln), .val (.int bt0), .val (.int bt1), .val (.int bt2), .val (.int bt3), .val (.int bt4), .val (.int bt5), .val (.ref bb), .val (.ref b192), .val (.double (own_fin p2 (own_ap (own_B bt0 bt1 bt2 bt3 bt4 bt5) ln.toNatClampNeg).2)), .second, .val (.int bt0), .val (.int (bt0 + bt1)), .val (.int ((bt0 + bt1) + bt2)), .val (.int (((bt0 + bt1) + bt2) + bt3)), .unset, .unset, .unset, .unset, .unset, .unset]) rfl ?_
    show Steps p.tables e below (T196.setTop (mkF m 224 #[.val (.int p0), .val (.int p1), .val (.int p2), .val (.int ln), .val (.int bt0), .val (.int bt1), .val (.int bt2), .val (.int bt3), .val (.int bt4), .val (.int bt5), .val (.ref bb), .val (.ref b192), .val (.double (own_fin p2 (own_ap (own_B bt0 bt1 bt2 bt3 bt4 bt5) ln.toNatClampNeg).2)), .second, .val (.int bt0), .val (.int (bt0 + bt1)), .val (.int ((bt0 + bt1) + bt2)), .val (.int (((bt0 + bt1) + bt2) + bt3)), .unset, .unset, .unset, .unset, .unset, .unset] [])) _
    refine XS.iload X196.here hx rfl (hb hby at_224) rfl ?_
    show Steps p.tables e below (T196.setTop (mkF m 226 #[.val (.int p0), .val (.int p1), .val (.int p2), .val (.int ln), .val (.int bt0), .val (.int bt1), .val (.int bt2), .val (.int bt3), .val (.int bt4), .val (.int bt5), .val (.ref bb), .val (.ref b192), .val (.double (own_fin p2 (own_ap (own_B bt0 bt1 bt2 bt3 bt4 bt5) ln.toNatClampNeg).2)), .second, .val (.int bt0), .val (.int (bt0 + bt1)), .val (.int ((bt0 + bt1) + bt2)), .val (.int (((bt0 + bt1) + bt2) + bt3)), .unset, .unset, .unset, .unset, .unset, .unset] [(.int (((bt0 + bt1) + bt2) + bt3))])) _
    refine XS.iload X196.here hx rfl (hb hby at_226) rfl ?_
    show Steps p.tables e below (T196.setTop (mkF m 228 #[.val (.int p0), .val (.int p1), .val (.int p2), .val (.int ln), .val (.int bt0), .val (.int bt1), .val (.int bt2), .val (.int bt3), .val (.int bt4), .val (.int bt5), .val (.ref bb), .val (.ref b192), .val (.double (own_fin p2 (own_ap (own_B bt0 bt1 bt2 bt3 bt4 bt5) ln.toNatClampNeg).2)), .second, .val (.int bt0), .val (.int (bt0 + bt1)), .val (.int ((bt0 + bt1) + bt2)), .val (.int (((bt0 + bt1) + bt2) + bt3)), .unset, .unset, .unset, .unset, .unset, .unset] [(.int bt4), (.int (((bt0 + bt1) + bt2) + bt3))])) _
    refine XS.iadd X196.here hx rfl (hb hby at_228) rfl ?_
    show Steps p.tables e below (T196.setTop (mkF m 229 #[.val (.int p0), .val (.int p1), .val (.int p2), .val (.int ln), .val (.int bt0), .val (.int bt1), .val (.int bt2), .val (.int bt3), .val (.int bt4), .val (.int bt5), .val (.ref bb), .val (.ref b192), .val (.double (own_fin p2 (own_ap (own_B bt0 bt1 bt2 bt3 bt4 bt5) ln.toNatClampNeg).2)), .second, .val (.int bt0), .val (.int (bt0 + bt1)), .val (.int ((bt0 + bt1) + bt2)), .val (.int (((bt0 + bt1) + bt2) + bt3)), .unset, .unset, .unset, .unset, .unset, .unset] [(.int ((((bt0 + bt1) + bt2) + bt3) + bt4))])) _
    refine XS.istore X196.here hx rfl (hb hby at_229) rfl (l' := #[.val (.int p0), .val (.int p1), .val (.int p2), .val (.int ln), .val (.int bt0), .val (.int bt1), .val (.int bt2), .val (.int bt3), .val (.int bt4), .val (.int bt5), .val (.ref bb), .val (.ref b192), .val (.double (own_fin p2 (own_ap (own_B bt0 bt1 bt2 bt3 bt4 bt5) ln.toNatClampNeg).2)), .second, .val (.int bt0), .val (.int (bt0 + bt1)), .val (.int ((bt0 + bt1) + bt2)), .val (.int (((bt0 + bt1) + bt2) + bt3)), .val (.int ((((bt0 + bt1) + bt2) + bt3) + bt4)), .unset, .unset, .unset, .unset, .unset]) rfl ?_
    show Steps p.tables e below (T196.setTop (mkF m 231 #[.val (.int p0), .val (.int p1), .val (.int p2), .val (.int ln), .val (.int bt0), .val (.int bt1), .val (.int bt2), .val (.int bt3), .val (.int bt4), .val (.int bt5), .val (.ref bb), .val (.ref b192), .val (.double (own_fin p2 (own_ap (own_B bt0 bt1 bt2 bt3 bt4 bt5) ln.toNatClampNeg).2)), .second, .val (.int bt0), .val (.int (bt0 + bt1)), .val (.int ((bt0 + bt1) + bt2)), .val (.int (((bt0 + bt1) + bt2) + bt3)), .val (.int ((((bt0 + bt1) + bt2) + bt3) + bt4)), .unset, .unset, .unset, .unset, .unset] [])) _
    refine XS.iload X196.here hx rfl (hb hby at_231) rfl ?_
    show Steps p.tables e below (T196.setTop (mkF m 233 #[.val (.int p0), .val (.int p1), .val (.int p2), .val (.int ln), .val (.int bt0), .val (.int bt1), .val (.int bt2), .val (.int bt3), .val (.int bt4), .val (.int bt5), .val (.ref bb), .val (.ref b192), .val (.double (own_fin p2 (own_ap (own_B bt0 bt1 bt2 bt3 bt4 bt5) ln.toNatClampNeg).2)), .second, .val (.int bt0), .val (.int (bt0 + bt1)), .val (.int ((bt0 + bt1) + bt2)), .val (.int (((bt0 + bt1) + bt2) + bt3)), .val (.int ((((bt0 + bt1) + bt2) + bt3) + bt4)), .unset, .unset, .unset, .unset, .unset] [(.int ((((bt0 + bt1) + bt2) + bt3) + bt4))])) _
    refine XS.iload X196.here hx rfl (hb hby at_233) rfl ?_
    show Steps p.tables e below (T196.setTop (mkF m 235 #[.val (.int p0), .val (.int p1), .val (.int p2), .val (.int ln), .val (.int bt0), .val (.int bt1), .val (.int bt2), .val (.int bt3), .val (.int bt4), .val (.int bt5), .val (.ref bb), .val (.ref b192), .val (.double (own_fin p2 (own_ap (own_B bt0 bt1 bt2 bt3 bt4 bt5) ln.toNatClampNeg).2)), .second, .val (.int bt0), .val (.int (bt0 + bt1)), .val (.int ((bt0 + bt1) + bt2)), .val (.int (((bt0 + bt1) + bt2) + bt3)), .val (.int ((((bt0 + bt1) + bt2) + bt3) + bt4)), .unset, .unset, .unset, .unset, .unset] [(.int bt5), (.int ((((bt0 + bt1) + bt2) + bt3) + bt4))])) _
    refine XS.iadd X196.here hx rfl (hb hby at_235) rfl ?_
    show Steps p.tables e below (T196.setTop (mkF m 236 #[.val (.int p0), .val (.int p1), .val (.int p2), .val (.int ln), .val (.int bt0), .val (.int bt1), .val (.int bt2), .val (.int bt3), .val (.int bt4), .val (.int bt5), .val (.ref bb), .val (.ref b192), .val (.double (own_fin p2 (own_ap (own_B bt0 bt1 bt2 bt3 bt4 bt5) ln.toNatClampNeg).2)), .second, .val (.int bt0), .val (.int (bt0 + bt1)), .val (.int ((bt0 + bt1) + bt2)), .val (.int (((bt0 + bt1) + bt2) + bt3)), .val (.int ((((bt0 + bt1) + bt2) + bt3) + bt4)), .unset, .unset, .unset, .unset, .unset] [(.int (((((bt0 + bt1) + bt2) + bt3) + bt4) + bt5))])) _
    refine XS.istore X196.here hx rfl (hb hby at_236) rfl (l' := #[.val (.int p0), .val (.int p1), .val (.int p2), .val (.int ln), .val (.int bt0), .val (.int bt1), .val (.int bt2), .val (.int bt3), .val (.int bt4), .val (.int bt5), .val (.ref bb), .val (.ref b192), .val (.double (own_fin p2 (own_ap (own_B bt0 bt1 bt2 bt3 bt4 bt5) ln.toNatClampNeg).2)), .second, .val (.int bt0), .val (.int (bt0 + bt1)), .val (.int ((bt0 + bt1) + bt2)), .val (.int (((bt0 + bt1) + bt2) + bt3)), .val (.int ((((bt0 + bt1) + bt2) + bt3) + bt4)), .val (.int (((((bt0 + bt1) + bt2) + bt3) + bt4) + bt5)), .unset, .unset, .unset, .unset]) rfl ?_
    show Steps p.tables e below (T196.setTop (mkF m 238 #[.val (.int p0), .val (.int p1), .val (.int p2), .val (.int ln), .val (.int bt0), .val (.int bt1), .val (.int bt2), .val (.int bt3), .val (.int bt4), .val (.int bt5), .val (.ref bb), .val (.ref b192), .val (.double (own_fin p2 (own_ap (own_B bt0 bt1 bt2 bt3 bt4 bt5) ln.toNatClampNeg).2)), .second, .val (.int bt0), .val (.int (bt0 + bt1)), .val (.int ((bt0 + bt1) + bt2)), .val (.int (((bt0 + bt1) + bt2) + bt3)), .val (.int ((((bt0 + bt1) + bt2) + bt3) + bt4)), .val (.int (((((bt0 + bt1) + bt2) + bt3) + bt4) + bt5)), .unset, .unset, .unset, .unset] [])) _
    refine XS.dconst0 X196.here hx rfl (hb hby at_238) rfl ?_
    show Steps p.tables e below (T196.setTop (mkF m 239 #[.val (.int p0), .val (.int p1), .val (.int p2), .val (.int ln), .val (.int bt0), .val (.int bt1), .val (.int bt2), .val (.int bt3), .val (.int bt4), .val (.int bt5), .val (.ref bb), .val (.ref b192), .val (.double (own_fin p2 (own_ap (own_B bt0 bt1 bt2 bt3 bt4 bt5) ln.toNatClampNeg).2)), .second, .val (.int bt0), .val (.int (bt0 + bt1)), .val (.int ((bt0 + bt1) + bt2)), .val (.int (((bt0 + bt1) + bt2) + bt3)), .val (.int ((((bt0 + bt1) + bt2) + bt3) + bt4)), .val (.int (((((bt0 + bt1) + bt2) + bt3) + bt4) + bt5)), .unset, .unset, .unset, .unset] [(.double FP.dconst0)])) _
    refine XS.dstore X196.here hx rfl (hb hby at_239) rfl (l' := #[.val (.int p0), .val (.int p1), .val (.int p2), .val (.int ln), .val (.int bt0), .val (.int bt1), .val (.int bt2), .val (.int bt3), .val (.int bt4), .val (.int bt5), .val (.ref bb), .val (.ref b192), .val (.double (own_fin p2 (own_ap (own_B bt0 bt1 bt2 bt3 bt4 bt5) ln.toNatClampNeg).2)), .second, .val (.int bt0), .val (.int (bt0 + bt1)), .val (.int ((bt0 + bt1) + bt2)), .val (.int (((bt0 + bt1) + bt2) + bt3)), .val (.int ((((bt0 + bt1) + bt2) + bt3) + bt4)), .val (.int (((((bt0 + bt1) + bt2) + bt3) + bt4) + bt5)), .val (.double FP.dconst0), .second, .unset, .unset]) rfl ?_
    exact k)
  obtain ⟨sm0, rfl, pre198⟩ : ∃ (sm0 : UInt64), (sm0 = (own_ap (own_B bt0 bt1 bt2 bt3 bt4 bt5) 1).2) ∧ ∀ t, Steps p.tables e below (T196.setTop (mkF m 257 #[.val (.int p0), .val (.int p1), .val (.int p2), .val (.int ln), .val (.int bt0), .val (.int bt1), .val (.int bt2), .val (.int bt3), .val (.int bt4), .val (.int bt5), .val (.ref bb), .val (.ref b192), .val (.double (own_fin p2 (own_ap (own_B bt0 bt1 bt2 bt3 bt4 bt5) ln.toNatClampNeg).2)), .second, .val (.int bt0), .val (.int (bt0 + bt1)), .val (.int ((bt0 + bt1) + bt2)), .val (.int (((bt0 + bt1) + bt2) + bt3)), .val (.int ((((bt0 + bt1) + bt2) + bt3) + bt4)), .val (.int (((((bt0 + bt1) + bt2) + bt3) + bt4) + bt5)), .val (.double sm0), .second, .unset, .unset] [])) t → Steps p.tables e below (s₁.setTop (mkF m 0 #[.val (.int p0), .val (.int p1), .val (.int p2), .unset, .unset, .unset, .unset, .unset, .unset, .unset, .unset, .unset, .unset, .unset, .unset, .unset, .unset, .unset, .unset, .unset, .unset, .unset, .unset, .unset] [])) t := by
    have pre200 : ∀ t, Steps p.tables e below (T196.setTop (mkF m 244 #[.val (.int p0), .val (.int p1), .val (.int p2), .val (.int ln), .val (.int bt0), .val (.int bt1), .val (.int bt2), .val (.int bt3), .val (.int bt4), .val (.int bt5), .val (.ref bb), .val (.ref b192), .val (.double (own_fin p2 (own_ap (own_B bt0 bt1 bt2 bt3 bt4 bt5) ln.toNatClampNeg).2)), .second, .val (.int bt0), .val (.int (bt0 + bt1)), .val (.int ((bt0 + bt1) + bt2)), .val (.int (((bt0 + bt1) + bt2) + bt3)), .val (.int ((((bt0 + bt1) + bt2) + bt3) + bt4)), .val (.int (((((bt0 + bt1) + bt2) + bt3) + bt4) + bt5)), .val (.double FP.dconst0), .second, .unset, .unset] [(.int (1 : Int32)), (.int bt0)])) t → Steps p.tables e below (s₁.setTop (mkF m 0 #[.val (.int p0), .val (.int p1), .val (.int p2), .unset, .unset, .unset, .unset, .unset, .unset, .unset, .unset, .unset, .unset, .unset, .unset, .unset, .unset, .unset, .unset, .unset, .unset, .unset, .unset, .unset] [])) t := fun t k => pre197 t (by
      show Steps p.tables e below (T196.setTop (mkF m 241 #[.val (.int p0), .val (.int p1), .val (.int p2), .val (.int ln), .val (.int bt0), .val (.int bt1), .val (.int bt2), .val (.int bt3), .val (.int bt4), .val (.int bt5), .val (.ref bb), .val (.ref b192), .val (.double (own_fin p2 (own_ap (own_B bt0 bt1 bt2 bt3 bt4 bt5) ln.toNatClampNeg).2)), .second, .val (.int bt0), .val (.int (bt0 + bt1)), .val (.int ((bt0 + bt1) + bt2)), .val (.int (((bt0 + bt1) + bt2) + bt3)), .val (.int ((((bt0 + bt1) + bt2) + bt3) + bt4)), .val (.int (((((bt0 + bt1) + bt2) + bt3) + bt4) + bt5)), .val (.double FP.dconst0), .second, .unset, .unset] [])) _
      refine XS.iload X196.here hx rfl (hb hby at_241) rfl ?_
      show Steps p.tables e below (T196.setTop (mkF m 243 #[.val (.int p0), .val (.int p1), .val (.int p2), .val (.int ln), .val (.int bt0), .val (.int bt1), .val (.int bt2), .val (.int bt3), .val (.int bt4), .val (.int bt5), .val (.ref bb), .val (.ref b192), .val (.double (own_fin p2 (own_ap (own_B bt0 bt1 bt2 bt3 bt4 bt5) ln.toNatClampNeg).2)), .second, .val (.int bt0), .val (.int (bt0 + bt1)), .val (.int ((bt0 + bt1) + bt2)), .val (.int (((bt0 + bt1) + bt2) + bt3)), .val (.int ((((bt0 + bt1) + bt2) + bt3) + bt4)), .val (.int (((((bt0 + bt1) + bt2) + bt3) + bt4) + bt5)), .val (.double FP.dconst0), .second, .unset, .unset] [(.int bt0)])) _
      refine XS.iconst X196.here hx rfl (hb hby at_243) ?_
      exact k)
    by_cases hc199 : bt0 = (1 : Int32)
    · skip
      have ohc199 : bt0.toInt = 1 := own_eq.mp hc199
      refine ⟨(FP.dadd FP.dconst0 (FP.ddiv (FP.i2d bt0) FP.dconst1)), ?_, fun t k => pre200 t ?_⟩
      · exact own_s1_0 bt0 bt1 bt2 bt3 bt4 bt5  ohc199
      · skip
        show Steps p.tables e below (T196.setTop (mkF m 244 #[.val (.int p0), .val (.int p1), .val (.int p2), .val (.int ln), .val (.int bt0), .val (.int bt1), .val (.int bt2), .val (.int bt3), .val (.int bt4), .val (.int bt5), .val (.ref bb), .val (.ref b192), .val (.double (own_fin p2 (own_ap (own_B bt0 bt1 bt2 bt3 bt4 bt5) ln.toNatClampNeg).2)), .second, .val (.int bt0), .val (.int (bt0 + bt1)), .val (.int ((bt0 + bt1) + bt2)), .val (.int (((bt0 + bt1) + bt2) + bt3)), .val (.int ((((bt0 + bt1) + bt2) + bt3) + bt4)), .val (.int (((((bt0 + bt1) + bt2) + bt3) + bt4) + bt5)), .val (.double FP.dconst0), .second, .unset, .unset] [(.int (1 : Int32)), (.int bt0)])) _
        refine XS.icmpNo X196.here hx rfl (hb hby at_244) rfl (teq hc199).2 ?_
        show Steps p.tables e below (T196.setTop (mkF m 247 #[.val (.int p0), .val (.int p1), .val (.int p2), .val (.int ln), .val (.int bt0), .val (.int bt1), .val (.int bt2), .val (.int bt3), .val (.int bt4), .val (.int bt5), .val (.ref bb), .val (.ref b192), .val (.double (own_fin p2 (own_ap (own_B bt0 bt1 bt2 bt3 bt4 bt5) ln.toNatClampNeg).2)), .second, .val (.int bt0), .val (.int (bt0 + bt1)), .val (.int ((bt0 + bt1) + bt2)), .val (.int (((bt0 + bt1) + bt2) + bt3)), .val (.int ((((bt0 + bt1) + bt2) + bt3) + bt4)), .val (.int (((((bt0 + bt1) + bt2) + bt3) + bt4) + bt5)), .val (.double FP.dconst0), .second, .unset, .unset] [])) _
        refine XS.dload X196.here hx rfl (hb hby at_247) rfl ?_
        show Steps p.tables e below (T196.setTop (mkF m 249 #[.val (.int p0), .val (.int p1), .val (.int p2), .val (.int ln), .val (.int bt0), .val (.int bt1), .val (.int bt2), .val (.int bt3), .val (.int bt4), .val (.int bt5), .val (.ref bb), .val (.ref b192), .val (.double (own_fin p2 (own_ap (own_B bt0 bt1 bt2 bt3 bt4 bt5) ln.toNatClampNeg).2)), .second, .val (.int bt0), .val (.int (bt0 + bt1)), .val (.int ((bt0 + bt1) + bt2)), .val (.int (((bt0 + bt1) + bt2) + bt3)), .val (.int ((((bt0 + bt1) + bt2) + bt3) + bt4)), .val (.int (((((bt0 + bt1) + bt2) + bt3) + bt4) + bt5)), .val (.double FP.dconst0), .second, .unset, .unset] [(.double FP.dconst0)])) _
        refine XS.iload X196.here hx rfl (hb hby at_249) rfl ?_
        show Steps p.tables e below (T196.setTop (mkF m 251 #[.val (.int p0), .val (.int p1), .val (.int p2), .val (.int ln), .val (.int bt0), .val (.int bt1), .val (.int bt2), .val (.int bt3), .val (.int bt4), .val (.int bt5), .val (.ref bb), .val (.ref b192), .val (.double (own_fin p2 (own_ap (own_B bt0 bt1 bt2 bt3 bt4 bt5) ln.toNatClampNeg).2)), .second, .val (.int bt0), .val (.int (bt0 + bt1)), .val (.int ((bt0 + bt1) + bt2)), .val (.int (((bt0 + bt1) + bt2) + bt3)), .val (.int ((((bt0 + bt1) + bt2) + bt3) + bt4)), .val (.int (((((bt0 + bt1) + bt2) + bt3) + bt4) + bt5)), .val (.double FP.dconst0), .second, .unset, .unset] [(.int bt0), (.double FP.dconst0)])) _
        refine XS.i2dS X196.here hx rfl (hb hby at_251) rfl rfl ?_
        show Steps p.tables e below (T196.setTop (mkF m 252 #[.val (.int p0), .val (.int p1), .val (.int p2), .val (.int ln), .val (.int bt0), .val (.int bt1), .val (.int bt2), .val (.int bt3), .val (.int bt4), .val (.int bt5), .val (.ref bb), .val (.ref b192), .val (.double (own_fin p2 (own_ap (own_B bt0 bt1 bt2 bt3 bt4 bt5) ln.toNatClampNeg).2)), .second, .val (.int bt0), .val (.int (bt0 + bt1)), .val (.int ((bt0 + bt1) + bt2)), .val (.int (((bt0 + bt1) + bt2) + bt3)), .val (.int ((((bt0 + bt1) + bt2) + bt3) + bt4)), .val (.int (((((bt0 + bt1) + bt2) + bt3) + bt4) + bt5)), .val (.double FP.dconst0), .second, .unset, .unset] [(.double (FP.i2d bt0)), (.double FP.dconst0)])) _
        refine XS.dconst1 X196.here hx rfl (hb hby at_252) rfl ?_
        show Steps p.tables e below (T196.setTop (mkF m 253 #[.val (.int p0), .val (.int p1), .val (.int p2), .val (.int ln), .val (.int bt0), .val (.int bt1), .val (.int bt2), .val (.int bt3), .val (.int bt4), .val (.int bt5), .val (.ref bb), .val (.ref b192), .val (.double (own_fin p2 (own_ap (own_B bt0 bt1 bt2 bt3 bt4 bt5) ln.toNatClampNeg).2)), .second, .val (.int bt0), .val (.int (bt0 + bt1)), .val (.int ((bt0 + bt1) + bt2)), .val (.int (((bt0 + bt1) + bt2) + bt3)), .val (.int ((((bt0 + bt1) + bt2) + bt3) + bt4)), .val (.int (((((bt0 + bt1) + bt2) + bt3) + bt4) + bt5)), .val (.double FP.dconst0), .second, .unset, .unset] [(.double FP.dconst1), (.double (FP.i2d bt0)), (.double FP.dconst0)])) _
        refine XS.ddivS X196.here hx rfl (hb hby at_253) rfl (own_nk _ 1 (by decide) own_k1) rfl ?_
        show Steps p.tables e below (T196.setTop (mkF m 254 #[.val (.int p0), .val (.int p1), .val (.int p2), .val (.int ln), .val (.int bt0), .val (.int bt1), .val (.int bt2), .val (.int bt3), .val (.int bt4), .val (.int bt5), .val (.ref bb), .val (.ref b192), .val (.double (own_fin p2 (own_ap (own_B bt0 bt1 bt2 bt3 bt4 bt5) ln.toNatClampNeg).2)), .second, .val (.int bt0), .val (.int (bt0 + bt1)), .val (.int ((bt0 + bt1) + bt2)), .val (.int (((bt0 + bt1) + bt2) + bt3)), .val (.int ((((bt0 + bt1) + bt2) + bt3) + bt4)), .val (.int (((((bt0 + bt1) + bt2) + bt3) + bt4) + bt5)), .val (.double FP.dconst0), .second, .unset, .unset] [(.double (FP.ddiv (FP.i2d bt0) FP.dconst1)), (.double FP.dconst0)])) _
        refine XS.daddS X196.here hx rfl (hb hby at_254) rfl (own_na (own_apm (own_B bt0 bt1 bt2 bt3 bt4 bt5) 0) (own_mk _ 1 (by decide) own_k1) (by decide)) rfl ?_
        show Steps p.tables e below (T196.setTop (mkF m 255 #[.val (.int p0), .val (.int p1), .val (.int p2), .val (.int ln), .val (.int bt0), .val (.int bt1), .val (.int bt2), .val (.int bt3), .val (.int bt4), .val (.int bt5), .val (.ref bb), .val (.ref b192), .val (.double (own_fin p2 (own_ap (own_B bt0 bt1 bt2 bt3 bt4 bt5) ln.toNatClampNeg).2)), .second, .val (.int bt0), .val (.int (bt0 + bt1)), .val (.int ((bt0 + bt1) + bt2)), .val (.int (((bt0 + bt1) + bt2) + bt3)), .val (.int ((((bt0 + bt1) + bt2) + bt3) + bt4)), .val (.int (((((bt0 + bt1) + bt2) + bt3) + bt4) + bt5)), .val (.double FP.dconst0), .second, .unset, .unset] [(.double (FP.dadd FP.dconst0 (FP.ddiv (FP.i2d bt0) FP.dconst1)))])) _
        refine XS.dstore X196.here hx rfl (hb hby at_255) rfl (l' := #[.val (.int p0), .val (.int p1), .val (.int p2), .val (.int ln), .val (.int bt0), .val (.int bt1), .val (.int bt2), .val (.int bt3), .val (.int bt4), .val (.int bt5), .val (.ref bb), .val (.ref b192), .val (.double (own_fin p2 (own_ap (own_B bt0 bt1 bt2 bt3 bt4 bt5) ln.toNatClampNeg).2)), .second, .val (.int bt0), .val (.int (bt0 + bt1)), .val (.int ((bt0 + bt1) + bt2)), .val (.int (((bt0 + bt1) + bt2) + bt3)), .val (.int ((((bt0 + bt1) + bt2) + bt3) + bt4)), .val (.int (((((bt0 + bt1) + bt2) + bt3) + bt4) + bt5)), .val (.double (FP.dadd FP.dconst0 (FP.ddiv (FP.i2d bt0) FP.dconst1))), .second, .unset, .unset]) rfl ?_
        exact k
    · skip
      have ohc199 : ¬ (bt0.toInt = 1) := own_neq.mp hc199
      refine ⟨FP.dconst0, ?_, fun t k => pre200 t ?_⟩
      · exact own_s0_0 bt0 bt1 bt2 bt3 bt4 bt5 ohc199
      · skip
        show Steps p.tables e below (T196.setTop (mkF m 244 #[.val (.int p0), .val (.int p1), .val (.int p2), .val (.int ln), .val (.int bt0), .val (.int bt1), .val (.int bt2), .val (.int bt3), .val (.int bt4), .val (.int bt5), .val (.ref bb), .val (.ref b192), .val (.double (own_fin p2 (own_ap (own_B bt0 bt1 bt2 bt3 bt4 bt5) ln.toNatClampNeg).2)), .second, .val (.int bt0), .val (.int (bt0 + bt1)), .val (.int ((bt0 + bt1) + bt2)), .val (.int (((bt0 + bt1) + bt2) + bt3)), .val (.int ((((bt0 + bt1) + bt2) + bt3) + bt4)), .val (.int (((((bt0 + bt1) + bt2) + bt3) + bt4) + bt5)), .val (.double FP.dconst0), .second, .unset, .unset] [(.int (1 : Int32)), (.int bt0)])) _
        refine XS.icmpYes X196.here hx rfl (pc0 := 244) (pc' := 257) rfl (hb hby at_244) rfl (feq hc199).2 (by decide) (by decide) ?_
        exact k
  obtain ⟨sm1, rfl, pre201⟩ : ∃ (sm1 : UInt64), (sm1 = (own_ap (own_B bt0 bt1 bt2 bt3 bt4 bt5) 2).2) ∧ ∀ t, Steps p.tables e below (T196.setTop (mkF m 275 #[.val (.int p0), .val (.int p1), .val (.int p2), .val (.int ln), .val (.int bt0), .val (.int bt1), .val (.int bt2), .val (.int bt3), .val (.int bt4), .val (.int bt5), .val (.ref bb), .val (.ref b192), .val (.double (own_fin p2 (own_ap (own_B bt0 bt1 bt2 bt3 bt4 bt5) ln.toNatClampNeg).2)), .second, .val (.int bt0), .val (.int (bt0 + bt1)), .val (.int ((bt0 + bt1) + bt2)), .val (.int (((bt0 + bt1) + bt2) + bt3)), .val (.int ((((bt0 + bt1) + bt2) + bt3) + bt4)), .val (.int (((((bt0 + bt1) + bt2) + bt3) + bt4) + bt5)), .val (.double sm1), .second, .unset, .unset] [])) t → Steps p.tables e below (s₁.setTop (mkF m 0 #[.val (.int p0), .val (.int p1), .val (.int p2), .unset, .unset, .unset, .unset, .unset, .unset, .unset, .unset, .unset, .unset, .unset, .unset, .unset, .unset, .unset, .unset, .unset, .unset, .unset, .unset, .unset] [])) t := by
    have pre203 : ∀ t, Steps p.tables e below (T196.setTop (mkF m 260 #[.val (.int p0), .val (.int p1), .val (.int p2), .val (.int ln), .val (.int bt0), .val (.int bt1), .val (.int bt2), .val (.int bt3), .val (.int bt4), .val (.int bt5), .val (.ref bb), .val (.ref b192), .val (.double (own_fin p2 (own_ap (own_B bt0 bt1 bt2 bt3 bt4 bt5) ln.toNatClampNeg).2)), .second, .val (.int bt0), .val (.int (bt0 + bt1)), .val (.int ((bt0 + bt1) + bt2)), .val (.int (((bt0 + bt1) + bt2) + bt3)), .val (.int ((((bt0 + bt1) + bt2) + bt3) + bt4)), .val (.int (((((bt0 + bt1) + bt2) + bt3) + bt4) + bt5)), .val (.double (own_ap (own_B bt0 bt1 bt2 bt3 bt4 bt5) 1).2), .second, .unset, .unset] [(.int (1 : Int32)), (.int bt1)])) t → Steps p.tables e below (s₁.setTop (mkF m 0 #[.val (.int p0), .val (.int p1), .val (.int p2), .unset, .unset, .unset, .unset, .unset, .unset, .unset, .unset, .unset, .unset, .unset, .unset, .unset, .unset, .unset, .unset, .unset, .unset, .unset, .unset, .unset] [])) t := fun t k => pre198 t (by
      show Steps p.tables e below (T196.setTop (mkF m 257 #[.val (.int p0), .val (.int p1), .val (.int p2), .val (.int ln), .val (.int bt0), .val (.int bt1), .val (.int bt2), .val (.int bt3), .val (.int bt4), .val (.int bt5), .val (.ref bb), .val (.ref b192), .val (.double (own_fin p2 (own_ap (own_B bt0 bt1 bt2 bt3 bt4 bt5) ln.toNatClampNeg).2)), .second, .val (.int bt0), .val (.int (bt0 + bt1)), .val (.int ((bt0 + bt1) + bt2)), .val (.int (((bt0 + bt1) + bt2) + bt3)), .val (.int ((((bt0 + bt1) + bt2) + bt3) + bt4)), .val (.int (((((bt0 + bt1) + bt2) + bt3) + bt4) + bt5)), .val (.double (own_ap (own_B bt0 bt1 bt2 bt3 bt4 bt5) 1).2), .second, .unset, .unset] [])) _
      refine XS.iload X196.here hx rfl (hb hby at_257) rfl ?_
      show Steps p.tables e below (T196.setTop (mkF m 259 #[.val (.int p0), .val (.int p1), .val (.int p2), .val (.int ln), .val (.int bt0), .val (.int bt1), .val (.int bt2), .val (.int bt3), .val (.int bt4), .val (.int bt5), .val (.ref bb), .val (.ref b192), .val (.double (own_fin p2 (own_ap (own_B bt0 bt1 bt2 bt3 bt4 bt5) ln.toNatClampNeg).2)), .second, .val (.int bt0), .val (.int (bt0 + bt1)), .val (.int ((bt0 + bt1) + bt2)), .val (.int (((bt0 + bt1) + bt2) + bt3)), .val (.int ((((bt0 + bt1) + bt2) + bt3) + bt4)), .val (.int (((((bt0 + bt1) + bt2) + bt3) + bt4) + bt5)), .val (.double (own_ap (own_B bt0 bt1 bt2 bt3 bt4 bt5) 1).2), .second, .unset, .unset] [(.int bt1)])) _
      refine XS.iconst X196.here hx rfl (hb hby at_259) ?_
      exact k)
    by_cases hc202 : bt1 = (1 : Int32)
    · skip
      have ohc202 : bt1.toInt = 1 := own_eq.mp hc202
      refine ⟨(FP.dadd (own_ap (own_B bt0 bt1 bt2 bt3 bt4 bt5) 1).2 (FP.ddiv (FP.i2d (bt0 + bt1)) (4611686018427387904 : UInt64))), ?_, fun t k => pre203 t ?_⟩
      · exact own_s1_1 bt0 bt1 bt2 bt3 bt4 bt5 r_bt0 ohc202
      · skip
        show Steps p.tables e below (T196.setTop (mkF m 260 #[.val (.int p0), .val (.int p1), .val (.int p2), .val (.int ln), .val (.int bt0), .val (.int bt1), .val (.int bt2), .val (.int bt3), .val (.int bt4), .val (.int bt5), .val (.ref bb), .val (.ref b192), .val (.double (own_fin p2 (own_ap (own_B bt0 bt1 bt2 bt3 bt4 bt5) ln.toNatClampNeg).2)), .second, .val (.int bt0), .val (.int (bt0 + bt1)), .val (.int ((bt0 + bt1) + bt2)), .val (.int (((bt0 + bt1) + bt2) + bt3)), .val (.int ((((bt0 + bt1) + bt2) + bt3) + bt4)), .val (.int (((((bt0 + bt1) + bt2) + bt3) + bt4) + bt5)), .val (.double (own_ap (own_B bt0 bt1 bt2 bt3 bt4 bt5) 1).2), .second, .unset, .unset] [(.int (1 : Int32)), (.int bt1)])) _
        refine XS.icmpNo X196.here hx rfl (hb hby at_260) rfl (teq hc202).2 ?_
        show Steps p.tables e below (T196.setTop (mkF m 263 #[.val (.int p0), .val (.int p1), .val (.int p2), .val (.int ln), .val (.int bt0), .val (.int bt1), .val (.int bt2), .val (.int bt3), .val (.int bt4), .val (.int bt5), .val (.ref bb), .val (.ref b192), .val (.double (own_fin p2 (own_ap (own_B bt0 bt1 bt2 bt3 bt4 bt5) ln.toNatClampNeg).2)), .second, .val (.int bt0), .val (.int (bt0 + bt1)), .val (.int ((bt0 + bt1) + bt2)), .val (.int (((bt0 + bt1) + bt2) + bt3)), .val (.int ((((bt0 + bt1) + bt2) + bt3) + bt4)), .val (.int (((((bt0 + bt1) + bt2) + bt3) + bt4) + bt5)), .val (.double (own_ap (own_B bt0 bt1 bt2 bt3 bt4 bt5) 1).2), .second, .unset, .unset] [])) _
        refine XS.dload X196.here hx rfl (hb hby at_263) rfl ?_
        show Steps p.tables e below (T196.setTop (mkF m 265 #[.val (.int p0), .val (.int p1), .val (.int p2), .val (.int ln), .val (.int bt0), .val (.int bt1), .val (.int bt2), .val (.int bt3), .val (.int bt4), .val (.int bt5), .val (.ref bb), .val (.ref b192), .val (.double (own_fin p2 (own_ap (own_B bt0 bt1 bt2 bt3 bt4 bt5) ln.toNatClampNeg).2)), .second, .val (.int bt0), .val (.int (bt0 + bt1)), .val (.int ((bt0 + bt1) + bt2)), .val (.int (((bt0 + bt1) + bt2) + bt3)), .val (.int ((((bt0 + bt1) + bt2) + bt3) + bt4)), .val (.int (((((bt0 + bt1) + bt2) + bt3) + bt4) + bt5)), .val (.double (own_ap (own_B bt0 bt1 bt2 bt3 bt4 bt5) 1).2), .second, .unset, .unset] [(.double (own_ap (own_B bt0 bt1 bt2 bt3 bt4 bt5) 1).2)])) _
        refine XS.iload X196.here hx rfl (hb hby at_265) rfl ?_
        show Steps p.tables e below (T196.setTop (mkF m 267 #[.val (.int p0), .val (.int p1), .val (.int p2), .val (.int ln), .val (.int bt0), .val (.int bt1), .val (.int bt2), .val (.int bt3), .val (.int bt4), .val (.int bt5), .val (.ref bb), .val (.ref b192), .val (.double (own_fin p2 (own_ap (own_B bt0 bt1 bt2 bt3 bt4 bt5) ln.toNatClampNeg).2)), .second, .val (.int bt0), .val (.int (bt0 + bt1)), .val (.int ((bt0 + bt1) + bt2)), .val (.int (((bt0 + bt1) + bt2) + bt3)), .val (.int ((((bt0 + bt1) + bt2) + bt3) + bt4)), .val (.int (((((bt0 + bt1) + bt2) + bt3) + bt4) + bt5)), .val (.double (own_ap (own_B bt0 bt1 bt2 bt3 bt4 bt5) 1).2), .second, .unset, .unset] [(.int (bt0 + bt1)), (.double (own_ap (own_B bt0 bt1 bt2 bt3 bt4 bt5) 1).2)])) _
        refine XS.i2dS X196.here hx rfl (hb hby at_267) rfl rfl ?_
        show Steps p.tables e below (T196.setTop (mkF m 268 #[.val (.int p0), .val (.int p1), .val (.int p2), .val (.int ln), .val (.int bt0), .val (.int bt1), .val (.int bt2), .val (.int bt3), .val (.int bt4), .val (.int bt5), .val (.ref bb), .val (.ref b192), .val (.double (own_fin p2 (own_ap (own_B bt0 bt1 bt2 bt3 bt4 bt5) ln.toNatClampNeg).2)), .second, .val (.int bt0), .val (.int (bt0 + bt1)), .val (.int ((bt0 + bt1) + bt2)), .val (.int (((bt0 + bt1) + bt2) + bt3)), .val (.int ((((bt0 + bt1) + bt2) + bt3) + bt4)), .val (.int (((((bt0 + bt1) + bt2) + bt3) + bt4) + bt5)), .val (.double (own_ap (own_B bt0 bt1 bt2 bt3 bt4 bt5) 1).2), .second, .unset, .unset] [(.double (FP.i2d (bt0 + bt1))), (.double (own_ap (own_B bt0 bt1 bt2 bt3 bt4 bt5) 1).2)])) _
        refine X196.ldc2DoubleC hx hown (mvT hZ (hw _ (List.mem_of_getElem? (i := 24) rfl))) (g := (mkF m 268 #[.val (.int p0), .val (.int p1), .val (.int p2), .val (.int ln), .val (.int bt0), .val (.int bt1), .val (.int bt2), .val (.int bt3), .val (.int bt4), .val (.int bt5), .val (.ref bb), .val (.ref b192), .val (.double (own_fin p2 (own_ap (own_B bt0 bt1 bt2 bt3 bt4 bt5) ln.toNatClampNeg).2)), .second, .val (.int bt0), .val (.int (bt0 + bt1)), .val (.int ((bt0 + bt1) + bt2)), .val (.int (((bt0 + bt1) + bt2) + bt3)), .val (.int ((((bt0 + bt1) + bt2) + bt3) + bt4)), .val (.int (((((bt0 + bt1) + bt2) + bt3) + bt4) + bt5)), .val (.double (own_ap (own_B bt0 bt1 bt2 bt3 bt4 bt5) 1).2), .second, .unset, .unset] [(.double (FP.i2d (bt0 + bt1))), (.double (own_ap (own_B bt0 bt1 bt2 bt3 bt4 bt5) 1).2)])) rfl (hb hby at_268) _ ?_
        show Steps p.tables e below (T196.setTop (mkF m 271 #[.val (.int p0), .val (.int p1), .val (.int p2), .val (.int ln), .val (.int bt0), .val (.int bt1), .val (.int bt2), .val (.int bt3), .val (.int bt4), .val (.int bt5), .val (.ref bb), .val (.ref b192), .val (.double (own_fin p2 (own_ap (own_B bt0 bt1 bt2 bt3 bt4 bt5) ln.toNatClampNeg).2)), .second, .val (.int bt0), .val (.int (bt0 + bt1)), .val (.int ((bt0 + bt1) + bt2)), .val (.int (((bt0 + bt1) + bt2) + bt3)), .val (.int ((((bt0 + bt1) + bt2) + bt3) + bt4)), .val (.int (((((bt0 + bt1) + bt2) + bt3) + bt4) + bt5)), .val (.double (own_ap (own_B bt0 bt1 bt2 bt3 bt4 bt5) 1).2), .second, .unset, .unset] [(.double (4611686018427387904 : UInt64)), (.double (FP.i2d (bt0 + bt1))), (.double (own_ap (own_B bt0 bt1 bt2 bt3 bt4 bt5) 1).2)])) _
        refine XS.ddivS X196.here hx rfl (hb hby at_271) rfl (own_nk _ 2 (by decide) own_k2) rfl ?_
        show Steps p.tables e below (T196.setTop (mkF m 272 #[.val (.int p0), .val (.int p1), .val (.int p2), .val (.int ln), .val (.int bt0), .val (.int bt1), .val (.int bt2), .val (.int bt3), .val (.int bt4), .val (.int bt5), .val (.ref bb), .val (.ref b192), .val (.double (own_fin p2 (own_ap (own_B bt0 bt1 bt2 bt3 bt4 bt5) ln.toNatClampNeg).2)), .second, .val (.int bt0), .val (.int (bt0 + bt1)), .val (.int ((bt0 + bt1) + bt2)), .val (.int (((bt0 + bt1) + bt2) + bt3)), .val (.int ((((bt0 + bt1) + bt2) + bt3) + bt4)), .val (.int (((((bt0 + bt1) + bt2) + bt3) + bt4) + bt5)), .val (.double (own_ap (own_B bt0 bt1 bt2 bt3 bt4 bt5) 1).2), .second, .unset, .unset] [(.double (FP.ddiv (FP.i2d (bt0 + bt1)) (4611686018427387904 : UInt64))), (.double (own_ap (own_B bt0 bt1 bt2 bt3 bt4 bt5) 1).2)])) _
        refine XS.daddS X196.here hx rfl (hb hby at_272) rfl (own_na (own_apm (own_B bt0 bt1 bt2 bt3 bt4 bt5) 1) (own_mk _ 2 (by decide) own_k2) (by decide)) rfl ?_
        show Steps p.tables e below (T196.setTop (mkF m 273 #[.val (.int p0), .val (.int p1), .val (.int p2), .val (.int ln), .val (.int bt0), .val (.int bt1), .val (.int bt2), .val (.int bt3), .val (.int bt4), .val (.int bt5), .val (.ref bb), .val (.ref b192), .val (.double (own_fin p2 (own_ap (own_B bt0 bt1 bt2 bt3 bt4 bt5) ln.toNatClampNeg).2)), .second, .val (.int bt0), .val (.int (bt0 + bt1)), .val (.int ((bt0 + bt1) + bt2)), .val (.int (((bt0 + bt1) + bt2) + bt3)), .val (.int ((((bt0 + bt1) + bt2) + bt3) + bt4)), .val (.int (((((bt0 + bt1) + bt2) + bt3) + bt4) + bt5)), .val (.double (own_ap (own_B bt0 bt1 bt2 bt3 bt4 bt5) 1).2), .second, .unset, .unset] [(.double (FP.dadd (own_ap (own_B bt0 bt1 bt2 bt3 bt4 bt5) 1).2 (FP.ddiv (FP.i2d (bt0 + bt1)) (4611686018427387904 : UInt64))))])) _
        refine XS.dstore X196.here hx rfl (hb hby at_273) rfl (l' := #[.val (.int p0), .val (.int p1), .val (.int p2), .val (.int ln), .val (.int bt0), .val (.int bt1), .val (.int bt2), .val (.int bt3), .val (.int bt4), .val (.int bt5), .val (.ref bb), .val (.ref b192), .val (.double (own_fin p2 (own_ap (own_B bt0 bt1 bt2 bt3 bt4 bt5) ln.toNatClampNeg).2)), .second, .val (.int bt0), .val (.int (bt0 + bt1)), .val (.int ((bt0 + bt1) + bt2)), .val (.int (((bt0 + bt1) + bt2) + bt3)), .val (.int ((((bt0 + bt1) + bt2) + bt3) + bt4)), .val (.int (((((bt0 + bt1) + bt2) + bt3) + bt4) + bt5)), .val (.double (FP.dadd (own_ap (own_B bt0 bt1 bt2 bt3 bt4 bt5) 1).2 (FP.ddiv (FP.i2d (bt0 + bt1)) (4611686018427387904 : UInt64)))), .second, .unset, .unset]) rfl ?_
        exact k
    · skip
      have ohc202 : ¬ (bt1.toInt = 1) := own_neq.mp hc202
      refine ⟨(own_ap (own_B bt0 bt1 bt2 bt3 bt4 bt5) 1).2, ?_, fun t k => pre203 t ?_⟩
      · exact own_s0_1 bt0 bt1 bt2 bt3 bt4 bt5 ohc202
      · skip
        show Steps p.tables e below (T196.setTop (mkF m 260 #[.val (.int p0), .val (.int p1), .val (.int p2), .val (.int ln), .val (.int bt0), .val (.int bt1), .val (.int bt2), .val (.int bt3), .val (.int bt4), .val (.int bt5), .val (.ref bb), .val (.ref b192), .val (.double (own_fin p2 (own_ap (own_B bt0 bt1 bt2 bt3 bt4 bt5) ln.toNatClampNeg).2)), .second, .val (.int bt0), .val (.int (bt0 + bt1)), .val (.int ((bt0 + bt1) + bt2)), .val (.int (((bt0 + bt1) + bt2) + bt3)), .val (.int ((((bt0 + bt1) + bt2) + bt3) + bt4)), .val (.int (((((bt0 + bt1) + bt2) + bt3) + bt4) + bt5)), .val (.double (own_ap (own_B bt0 bt1 bt2 bt3 bt4 bt5) 1).2), .second, .unset, .unset] [(.int (1 : Int32)), (.int bt1)])) _
        refine XS.icmpYes X196.here hx rfl (pc0 := 260) (pc' := 275) rfl (hb hby at_260) rfl (feq hc202).2 (by decide) (by decide) ?_
        exact k
  obtain ⟨sm2, rfl, pre204⟩ : ∃ (sm2 : UInt64), (sm2 = (own_ap (own_B bt0 bt1 bt2 bt3 bt4 bt5) 3).2) ∧ ∀ t, Steps p.tables e below (T196.setTop (mkF m 293 #[.val (.int p0), .val (.int p1), .val (.int p2), .val (.int ln), .val (.int bt0), .val (.int bt1), .val (.int bt2), .val (.int bt3), .val (.int bt4), .val (.int bt5), .val (.ref bb), .val (.ref b192), .val (.double (own_fin p2 (own_ap (own_B bt0 bt1 bt2 bt3 bt4 bt5) ln.toNatClampNeg).2)), .second, .val (.int bt0), .val (.int (bt0 + bt1)), .val (.int ((bt0 + bt1) + bt2)), .val (.int (((bt0 + bt1) + bt2) + bt3)), .val (.int ((((bt0 + bt1) + bt2) + bt3) + bt4)), .val (.int (((((bt0 + bt1) + bt2) + bt3) + bt4) + bt5)), .val (.double sm2), .second, .unset, .unset] [])) t → Steps p.tables e below (s₁.setTop (mkF m 0 #[.val (.int p0), .val (.int p1), .val (.int p2), .unset, .unset, .unset, .unset, .unset, .unset, .unset, .unset, .unset, .unset, .unset, .unset, .unset, .unset, .unset, .unset, .unset, .unset, .unset, .unset, .unset] [])) t := by
    have pre206 : ∀ t, Steps p.tables e below (T196.setTop (mkF m 278 #[.val (.int p0), .val (.int p1), .val (.int p2), .val (.int ln), .val (.int bt0), .val (.int bt1), .val (.int bt2), .val (.int bt3), .val (.int bt4), .val (.int bt5), .val (.ref bb), .val (.ref b192), .val (.double (own_fin p2 (own_ap (own_B bt0 bt1 bt2 bt3 bt4 bt5) ln.toNatClampNeg).2)), .second, .val (.int bt0), .val (.int (bt0 + bt1)), .val (.int ((bt0 + bt1) + bt2)), .val (.int (((bt0 + bt1) + bt2) + bt3)), .val (.int ((((bt0 + bt1) + bt2) + bt3) + bt4)), .val (.int (((((bt0 + bt1) + bt2) + bt3) + bt4) + bt5)), .val (.double (own_ap (own_B bt0 bt1 bt2 bt3 bt4 bt5) 2).2), .second, .unset, .unset] [(.int (1 : Int32)), (.int bt2)])) t → Steps p.tables e below (s₁.setTop (mkF m 0 #[.val (.int p0), .val (.int p1), .val (.int p2), .unset, .unset, .unset, .unset, .unset, .unset, .unset, .unset, .unset, .unset, .unset, .unset, .unset, .unset, .unset, .unset, .unset, .unset, .unset, .unset, .unset] [])) t := fun t k => pre201 t (by
      show Steps p.tables e below (T196.setTop (mkF m 275 #[.val (.int p0), .val (.int p1), .val (.int p2), .val (.int ln), .val (.int bt0), .val (.int bt1), .val (.int bt2), .val (.int bt3), .val (.int bt4), .val (.int bt5), .val (.ref bb), .val (.ref b192), .val (.double (own_fin p2 (own_ap (own_B bt0 bt1 bt2 bt3 bt4 bt5) ln.toNatClampNeg).2)), .second, .val (.int bt0), .val (.int (bt0 + bt1)), .val (.int ((bt0 + bt1) + bt2)), .val (.int (((bt0 + bt1) + bt2) + bt3)), .val (.int ((((bt0 + bt1) + bt2) + bt3) + bt4)), .val (.int (((((bt0 + bt1) + bt2) + bt3) + bt4) + bt5)), .val (.double (own_ap (own_B bt0 bt1 bt2 bt3 bt4 bt5) 2).2), .second, .unset, .unset] [])) _
      refine XS.iload X196.here hx rfl (hb hby at_275) rfl ?_
      show Steps p.tables e below (T196.setTop (mkF m 277 #[.val (.int p0), .val (.int p1), .val (.int p2), .val (.int ln), .val (.int bt0), .val (.int bt1), .val (.int bt2), .val (.int bt3), .val (.int bt4), .val (.int bt5), .val (.ref bb), .val (.ref b192), .val (.double (own_fin p2 (own_ap (own_B bt0 bt1 bt2 bt3 bt4 bt5) ln.toNatClampNeg).2)), .second, .val (.int bt0), .val (.int (bt0 + bt1)), .val (.int ((bt0 + bt1) + bt2)), .val (.int (((bt0 + bt1) + bt2) + bt3)), .val (.int ((((bt0 + bt1) + bt2) + bt3) + bt4)), .val (.int (((((bt0 + bt1) + bt2) + bt3) + bt4) + bt5)), .val (.double (own_ap (own_B bt0 bt1 bt2 bt3 bt4 bt5) 2).2), .second, .unset, .unset] [(.int bt2)])) _
      refine XS.iconst X196.here hx rfl (hb hby at_277) ?_
      exact k)
    by_cases hc205 : bt2 = (1 : Int32)
    · skip
      have ohc205 : bt2.toInt = 1 := own_eq.mp hc205
      refine ⟨(FP.dadd (own_ap (own_B bt0 bt1 bt2 bt3 bt4 bt5) 2).2 (FP.ddiv (FP.i2d ((bt0 + bt1) + bt2)) (4613937818241073152 : UInt64))), ?_, fun t k => pre206 t ?_⟩
      · exact own_s1_2 bt0 bt1 bt2 bt3 bt4 bt5 r_bt0 r_bt1 ohc205
      · skip
        show Steps p.tables e below (T196.setTop (mkF m 278 #[.val (.int p0), .val (.int p1), .val (.int p2), .val (.int ln), .val (.int bt0), .val (.int bt1), .val (.int bt2), .val (.int bt3), .val (.int bt4), .val (.int bt5), .val (.ref bb), .val (.ref b192), .val (.double (own_fin p2 (own_ap (own_B bt0 bt1 bt2 bt3 bt4 bt5) ln.toNatClampNeg).2)), .second, .val (.int bt0), .val (.int (bt0 + bt1)), .val (.int ((bt0 + bt1) + bt2)), .val (.int (((bt0 + bt1) + bt2) + bt3)), .val (.int ((((bt0 + bt1) + bt2) + bt3) + bt4)), .val (.int (((((bt0 + bt1) + bt2) + bt3) + bt4) + bt5)), .val (.double (own_ap (own_B bt0 bt1 bt2 bt3 bt4 bt5) 2).2), .second, .unset, .unset] [(.int (1 : Int32)), (.int bt2)])) _
        refine XS.icmpNo X196.here hx rfl (hb hby at_278) rfl (teq hc205).2 ?_
        show Steps p.tables e below (T196.setTop (mkF m 281 #[.val (.int p0), .val (.int p1), .val (.int p2), .val (.int ln), .val (.int bt0), .val (.int bt1), .val (.int bt2), .val (.int bt3), .val (.int bt4), .val (.int bt5), .val (.ref bb), .val (.ref b192), .val (.double (own_fin p2 (own_ap (own_B bt0 bt1 bt2 bt3 bt4 bt5) ln.toNatClampNeg).2)), .second, .val (.int bt0), .val (.int (bt0 + bt1)), .val (.int ((bt0 + bt1) + bt2)), .val (.int (((bt0 + bt1) + bt2) + bt3)), .val (.int ((((bt0 + bt1) + bt2) + bt3) + bt4)), .val (.int (((((bt0 + bt1) + bt2) + bt3) + bt4) + bt5)), .val (.double (own_ap (own_B bt0 bt1 bt2 bt3 bt4 bt5) 2).2), .second, .unset, .unset] [])) _
        refine XS.dload X196.here hx rfl (hb hby at_281) rfl ?_
        show Steps p.tables e below (T196.setTop (mkF m 283 #[.val (.int p0), .val (.int p1), .val (.int p2), .val (.int ln), .val (.int bt0), .val (.int bt1), .val (.int bt2), .val (.int bt3), .val (.int bt4), .val (.int bt5), .val (.ref bb), .val (.ref b192), .val (.double (own_fin p2 (own_ap (own_B bt0 bt1 bt2 bt3 bt4 bt5) ln.toNatClampNeg).2)), .second, .val (.int bt0), .val (.int (bt0 + bt1)), .val (.int ((bt0 + bt1) + bt2)), .val (.int (((bt0 + bt1) + bt2) + bt3)), .val (.int ((((bt0 + bt1) + bt2) + bt3) + bt4)), .val (.int (((((bt0 + bt1) + bt2) + bt3) + bt4) + bt5)), .val (.double (own_ap (own_B bt0 bt1 bt2 bt3 bt4 bt5) 2).2), .second, .unset, .unset] [(.double (own_ap (own_B bt0 bt1 bt2 bt3 bt4 bt5) 2).2)])) _
        refine XS.iload X196.here hx rfl (hb hby at_283) rfl ?_
        show Steps p.tables e below (T196.setTop (mkF m 285 #[.val (.int p0), .val (.int p1), .val (.int p2), .val (.int ln), .val (.int bt0), .val (.int bt1), .val (.int bt2), .val (.int bt3), .val (.int bt4), .val (.int bt5), .val (.ref bb), .val (.ref b192), .val (.double (own_fin p2 (own_ap (own_B bt0 bt1 bt2 bt3 bt4 bt5) ln.toNatClampNeg).2)), .second, .val (.int bt0), .val (.int (bt0 + bt1)), .val (.int ((bt0 + bt1) + bt2)), .val (.int (((bt0 + bt1) + bt2) + bt3)), .val (.int ((((bt0 + bt1) + bt2) + bt3) + bt4)), .val (.int (((((bt0 + bt1) + bt2) + bt3) + bt4) + bt5)), .val (.double (own_ap (own_B bt0 bt1 bt2 bt3 bt4 bt5) 2).2), .second, .unset, .unset] [(.int ((bt0 + bt1) + bt2)), (.double (own_ap (own_B bt0 bt1 bt2 bt3 bt4 bt5) 2).2)])) _
        refine XS.i2dS X196.here hx rfl (hb hby at_285) rfl rfl ?_
        show Steps p.tables e below (T196.setTop (mkF m 286 #[.val (.int p0), .val (.int p1), .val (.int p2), .val (.int ln), .val (.int bt0), .val (.int bt1), .val (.int bt2), .val (.int bt3), .val (.int bt4), .val (.int bt5), .val (.ref bb), .val (.ref b192), .val (.double (own_fin p2 (own_ap (own_B bt0 bt1 bt2 bt3 bt4 bt5) ln.toNatClampNeg).2)), .second, .val (.int bt0), .val (.int (bt0 + bt1)), .val (.int ((bt0 + bt1) + bt2)), .val (.int (((bt0 + bt1) + bt2) + bt3)), .val (.int ((((bt0 + bt1) + bt2) + bt3) + bt4)), .val (.int (((((bt0 + bt1) + bt2) + bt3) + bt4) + bt5)), .val (.double (own_ap (own_B bt0 bt1 bt2 bt3 bt4 bt5) 2).2), .second, .unset, .unset] [(.double (FP.i2d ((bt0 + bt1) + bt2))), (.double (own_ap (own_B bt0 bt1 bt2 bt3 bt4 bt5) 2).2)])) _
        refine X196.ldc2DoubleC hx hown (mvT hZ (hw _ (List.mem_of_getElem? (i := 26) rfl))) (g := (mkF m 286 #[.val (.int p0), .val (.int p1), .val (.int p2), .val (.int ln), .val (.int bt0), .val (.int bt1), .val (.int bt2), .val (.int bt3), .val (.int bt4), .val (.int bt5), .val (.ref bb), .val (.ref b192), .val (.double (own_fin p2 (own_ap (own_B bt0 bt1 bt2 bt3 bt4 bt5) ln.toNatClampNeg).2)), .second, .val (.int bt0), .val (.int (bt0 + bt1)), .val (.int ((bt0 + bt1) + bt2)), .val (.int (((bt0 + bt1) + bt2) + bt3)), .val (.int ((((bt0 + bt1) + bt2) + bt3) + bt4)), .val (.int (((((bt0 + bt1) + bt2) + bt3) + bt4) + bt5)), .val (.double (own_ap (own_B bt0 bt1 bt2 bt3 bt4 bt5) 2).2), .second, .unset, .unset] [(.double (FP.i2d ((bt0 + bt1) + bt2))), (.double (own_ap (own_B bt0 bt1 bt2 bt3 bt4 bt5) 2).2)])) rfl (hb hby at_286) _ ?_
        show Steps p.tables e below (T196.setTop (mkF m 289 #[.val (.int p0), .val (.int p1), .val (.int p2), .val (.int ln), .val (.int bt0), .val (.int bt1), .val (.int bt2), .val (.int bt3), .val (.int bt4), .val (.int bt5), .val (.ref bb), .val (.ref b192), .val (.double (own_fin p2 (own_ap (own_B bt0 bt1 bt2 bt3 bt4 bt5) ln.toNatClampNeg).2)), .second, .val (.int bt0), .val (.int (bt0 + bt1)), .val (.int ((bt0 + bt1) + bt2)), .val (.int (((bt0 + bt1) + bt2) + bt3)), .val (.int ((((bt0 + bt1) + bt2) + bt3) + bt4)), .val (.int (((((bt0 + bt1) + bt2) + bt3) + bt4) + bt5)), .val (.double (own_ap (own_B bt0 bt1 bt2 bt3 bt4 bt5) 2).2), .second, .unset, .unset] [(.double (4613937818241073152 : UInt64)), (.double (FP.i2d ((bt0 + bt1) + bt2))), (.double (own_ap (own_B bt0 bt1 bt2 bt3 bt4 bt5) 2).2)])) _
        refine XS.ddivS X196.here hx rfl (hb hby at_289) rfl (own_nk _ 3 (by decide) own_k3) rfl ?_
        show Steps p.tables e below (T196.setTop (mkF m 290 #[.val (.int p0), .val (.int p1), .val (.int p2), .val (.int ln), .val (.int bt0), .val (.int bt1), .val (.int bt2), .val (.int bt3), .val (.int bt4), .val (.int bt5), .val (.ref bb), .val (.ref b192), .val (.double (own_fin p2 (own_ap (own_B bt0 bt1 bt2 bt3 bt4 bt5) ln.toNatClampNeg).2)), .second, .val (.int bt0), .val (.int (bt0 + bt1)), .val (.int ((bt0 + bt1) + bt2)), .val (.int (((bt0 + bt1) + bt2) + bt3)), .val (.int ((((bt0 + bt1) + bt2) + bt3) + bt4)), .val (.int (((((bt0 + bt1) + bt2) + bt3) + bt4) + bt5)), .val (.double (own_ap (own_B bt0 bt1 bt2 bt3 bt4 bt5) 2).2), .second, .unset, .unset] [(.double (FP.ddiv (FP.i2d ((bt0 + bt1) + bt2)) (4613937818241073152 : UInt64))), (.double (own_ap (own_B bt0 bt1 bt2 bt3 bt4 bt5) 2).2)])) _
        refine XS.daddS X196.here hx rfl (hb hby at_290) rfl (own_na (own_apm (own_B bt0 bt1 bt2 bt3 bt4 bt5) 2) (own_mk _ 3 (by decide) own_k3) (by decide)) rfl ?_
        show Steps p.tables e below (T196.setTop (mkF m 291 #[.val (.int p0), .val (.int p1), .val (.int p2), .val (.int ln), .val (.int bt0), .val (.int bt1), .val (.int bt2), .val (.int bt3), .val (.int bt4), .val (.int bt5), .val (.ref bb), .val (.ref b192), .val (.double (own_fin p2 (own_ap (own_B bt0 bt1 bt2 bt3 bt4 bt5) ln.toNatClampNeg).2)), .second, .val (.int bt0), .val (.int (bt0 + bt1)), .val (.int ((bt0 + bt1) + bt2)), .val (.int (((bt0 + bt1) + bt2) + bt3)), .val (.int ((((bt0 + bt1) + bt2) + bt3) + bt4)), .val (.int (((((bt0 + bt1) + bt2) + bt3) + bt4) + bt5)), .val (.double (own_ap (own_B bt0 bt1 bt2 bt3 bt4 bt5) 2).2), .second, .unset, .unset] [(.double (FP.dadd (own_ap (own_B bt0 bt1 bt2 bt3 bt4 bt5) 2).2 (FP.ddiv (FP.i2d ((bt0 + bt1) + bt2)) (4613937818241073152 : UInt64))))])) _
        refine XS.dstore X196.here hx rfl (hb hby at_291) rfl (l' := #[.val (.int p0), .val (.int p1), .val (.int p2), .val (.int ln), .val (.int bt0), .val (.int bt1), .val (.int bt2), .val (.int bt3), .val (.int bt4), .val (.int bt5), .val (.ref bb), .val (.ref b192), .val (.double (own_fin p2 (own_ap (own_B bt0 bt1 bt2 bt3 bt4 bt5) ln.toNatClampNeg).2)), .second, .val (.int bt0), .val (.int (bt0 + bt1)), .val (.int ((bt0 + bt1) + bt2)), .val (.int (((bt0 + bt1) + bt2) + bt3)), .val (.int ((((bt0 + bt1) + bt2) + bt3) + bt4)), .val (.int (((((bt0 + bt1) + bt2) + bt3) + bt4) + bt5)), .val (.double (FP.dadd (own_ap (own_B bt0 bt1 bt2 bt3 bt4 bt5) 2).2 (FP.ddiv (FP.i2d ((bt0 + bt1) + bt2)) (4613937818241073152 : UInt64)))), .second, .unset, .unset]) rfl ?_
        exact k
    · skip
      have ohc205 : ¬ (bt2.toInt = 1) := own_neq.mp hc205
      refine ⟨(own_ap (own_B bt0 bt1 bt2 bt3 bt4 bt5) 2).2, ?_, fun t k => pre206 t ?_⟩
      · exact own_s0_2 bt0 bt1 bt2 bt3 bt4 bt5 ohc205
      · skip
        show Steps p.tables e below (T196.setTop (mkF m 278 #[.val (.int p0), .val (.int p1), .val (.int p2), .val (.int ln), .val (.int bt0), .val (.int bt1), .val (.int bt2), .val (.int bt3), .val (.int bt4), .val (.int bt5), .val (.ref bb), .val (.ref b192), .val (.double (own_fin p2 (own_ap (own_B bt0 bt1 bt2 bt3 bt4 bt5) ln.toNatClampNeg).2)), .second, .val (.int bt0), .val (.int (bt0 + bt1)), .val (.int ((bt0 + bt1) + bt2)), .val (.int (((bt0 + bt1) + bt2) + bt3)), .val (.int ((((bt0 + bt1) + bt2) + bt3) + bt4)), .val (.int (((((bt0 + bt1) + bt2) + bt3) + bt4) + bt5)), .val (.double (own_ap (own_B bt0 bt1 bt2 bt3 bt4 bt5) 2).2), .second, .unset, .unset] [(.int (1 : Int32)), (.int bt2)])) _
        refine XS.icmpYes X196.here hx rfl (pc0 := 278) (pc' := 293) rfl (hb hby at_278) rfl (feq hc205).2 (by decide) (by decide) ?_
        exact k
  obtain ⟨sm3, rfl, pre207⟩ : ∃ (sm3 : UInt64), (sm3 = (own_ap (own_B bt0 bt1 bt2 bt3 bt4 bt5) 4).2) ∧ ∀ t, Steps p.tables e below (T196.setTop (mkF m 311 #[.val (.int p0), .val (.int p1), .val (.int p2), .val (.int ln), .val (.int bt0), .val (.int bt1), .val (.int bt2), .val (.int bt3), .val (.int bt4), .val (.int bt5), .val (.ref bb), .val (.ref b192), .val (.double (own_fin p2 (own_ap (own_B bt0 bt1 bt2 bt3 bt4 bt5) ln.toNatClampNeg).2)), .second, .val (.int bt0), .val (.int (bt0 + bt1)), .val (.int ((bt0 + bt1) + bt2)), .val (.int (((bt0 + bt1) + bt2) + bt3)), .val (.int ((((bt0 + bt1) + bt2) + bt3) + bt4)), .val (.int (((((bt0 + bt1) + bt2) + bt3) + bt4) + bt5)), .val (.double sm3), .second, .unset, .unset] [])) t → Steps p.tables e below (s₁.setTop (mkF m 0 #[.val (.int p0), .val (.int p1), .val (.int p2), .unset, .unset, .unset, .unset, .unset, .unset, .unset, .unset, .unset, .unset, .unset, .unset, .unset, .unset, .unset, .unset, .unset, .unset, .unset, .unset, .unset] [])) t := by
    have pre209 : ∀ t, Steps p.tables e below (T196.setTop (mkF m 296 #[.val (.int p0), .val (.int p1), .val (.int p2), .val (.int ln), .val (.int bt0), .val (.int bt1), .val (.int bt2), .val (.int bt3), .val (.int bt4), .val (.int bt5), .val (.ref bb), .val (.ref b192), .val (.double (own_fin p2 (own_ap (own_B bt0 bt1 bt2 bt3 bt4 bt5) ln.toNatClampNeg).2)), .second, .val (.int bt0), .val (.int (bt0 + bt1)), .val (.int ((bt0 + bt1) + bt2)), .val (.int (((bt0 + bt1) + bt2) + bt3)), .val (.int ((((bt0 + bt1) + bt2) + bt3) + bt4)), .val (.int (((((bt0 + bt1) + bt2) + bt3) + bt4) + bt5)), .val (.double (own_ap (own_B bt0 bt1 bt2 bt3 bt4 bt5) 3).2), .second, .unset, .unset] [(.int (1 : Int32)), (.int bt3)])) t → Steps p.tables e below (s₁.setTop (mkF m 0 #[.val (.int p0), .val (.int p1), .val (.int p2), .unset, .unset, .unset, .unset, .unset, .unset, .unset, .unset, .unset, .unset, .unset, .unset, .unset, .unset, .unset, .unset, .unset, .unset, .unset, .unset, .unset] [])) t := fun t k => pre204 t (by
      show Steps p.tables e below (T196.setTop (mkF m 293 #[.val (.int p0), .val (.int p1), .val (.int p2), .val (.int ln), .val (.int bt0), .val (.int bt1), .val (.int bt2), .val (.int bt3), .val (.int bt4), .val (.int bt5), .val (.ref bb), .val (.ref b192), .val (.double (own_fin p2 (own_ap (own_B bt0 bt1 bt2 bt3 bt4 bt5) ln.toNatClampNeg).2)), .second, .val (.int bt0), .val (.int (bt0 + bt1)), .val (.int ((bt0 + bt1) + bt2)), .val (.int (((bt0 + bt1) + bt2) + bt3)), .val (.int ((((bt0 + bt1) + bt2) + bt3) + bt4)), .val (.int (((((bt0 + bt1) + bt2) + bt3) + bt4) + bt5)), .val (.double (own_ap (own_B bt0 bt1 bt2 bt3 bt4 bt5) 3).2), .second, .unset, .unset] [])) _
      refine XS.iload X196.here hx rfl (hb hby at_293) rfl ?_
      show Steps p.tables e below (T196.setTop (mkF m 295 #[.val (.int p0), .val (.int p1), .val (.int p2), .val (.int ln), .val (.int bt0), .val (.int bt1), .val (.int bt2), .val (.int bt3), .val (.int bt4), .val (.int bt5), .val (.ref bb), .val (.ref b192), .val (.double (own_fin p2 (own_ap (own_B bt0 bt1 bt2 bt3 bt4 bt5) ln.toNatClampNeg).2)), .second, .val (.int bt0), .val (.int (bt0 + bt1)), .val (.int ((bt0 + bt1) + bt2)), .val (.int (((bt0 + bt1) + bt2) + bt3)), .val (.int ((((bt0 + bt1) + bt2) + bt3) + bt4)), .val (.int (((((bt0 + bt1) + bt2) + bt3) + bt4) + bt5)), .val (.double (own_ap (own_B bt0 bt1 bt2 bt3 bt4 bt5) 3).2), .second, .unset, .unset] [(.int bt3)])) _
      refine XS.iconst X196.here hx rfl (hb hby at_295) ?_
      exact k)
    by_cases hc208 : bt3 = (1 : Int32)
    · skip
      have ohc208 : bt3.toInt = 1 := own_eq.mp hc208
      refine ⟨(FP.dadd (own_ap (own_B bt0 bt1 bt2 bt3 bt4 bt5) 3).2 (FP.ddiv (FP.i2d (((bt0 + bt1) + bt2) + bt3)) (4616189618054758400 : UInt64))), ?_, fun t k => pre209 t ?_⟩
      · exact own_s1_3 bt0 bt1 bt2 bt3 bt4 bt5 r_bt0 r_bt1 r_bt2 ohc208
      · skip
        show Steps p.tables e below (T196.setTop (mkF m 296 #[.val (.int p0), .val (.int p1), .val (.int p2), .val (.int ln), .val (.int bt0), .val (.int bt1), .val (.int bt2), .val (.int bt3), .val (.int bt4), .val (.int bt5), .val (.ref bb), .val (.ref b192), .val (.double (own_fin p2 (own_ap (own_B bt0 bt1 bt2 bt3 bt4 bt5) ln.toNatClampNeg).2)), .second, .val (.int bt0), .val (.int (bt0 + bt1)), .val (.int ((bt0 + bt1) + bt2)), .val (.int (((bt0 + bt1) + bt2) + bt3)), .val (.int ((((bt0 + bt1) + bt2) + bt3) + bt4)), .val (.int (((((bt0 + bt1) + bt2) + bt3) + bt4) + bt5)), .val (.double (own_ap (own_B bt0 bt1 bt2 bt3 bt4 bt5) 3).2), .second, .unset, .unset] [(.int (1 : Int32)), (.int bt3)])) _
        refine XS.icmpNo X196.here hx rfl (hb hby at_296) rfl (teq hc208).2 ?_
        show Steps p.tables e below (T196.setTop (mkF m 299 #[.val (.int p0), .val (.int p1), .val (.int p2), .val (.int ln), .val (.int bt0), .val (.int bt1), .val (.int bt2), .val (.int bt3), .val (.int bt4), .val (.int bt5), .val (.ref bb), .val (.ref b192), .val (.double (own_fin p2 (own_ap (own_B bt0 bt1 bt2 bt3 bt4 bt5) ln.toNatClampNeg).2)), .second, .val (.int bt0), .val (.int (bt0 + bt1)), .val (.int ((bt0 + bt1) + bt2)), .val (.int (((bt0 + bt1) + bt2) + bt3)), .val (.int ((((bt0 + bt1) + bt2) + bt3) + bt4)), .val (.int (((((bt0 + bt1) + bt2) + bt3) + bt4) + bt5)), .val (.double (own_ap (own_B bt0 bt1 bt2 bt3 bt4 bt5) 3).2), .second, .unset, .unset] [])) _
        refine XS.dload X196.here hx rfl (hb hby at_299) rfl ?_
        show Steps p.tables e below (T196.setTop (mkF m 301 #[.val (.int p0), .val (.int p1), .val (.int p2), .val (.int ln), .val (.int bt0), .val (.int bt1), .val (.int bt2), .val (.int bt3), .val (.int bt4), .val (.int bt5), .val (.ref bb), .val (.ref b192), .val (.double (own_fin p2 (own_ap (own_B bt0 bt1 bt2 bt3 bt4 bt5) ln.toNatClampNeg).2)), .second, .val (.int bt0), .val (.int (bt0 + bt1)), .val (.int ((bt0 + bt1) + bt2)), .val (.int (((bt0 + bt1) + bt2) + bt3)), .val (.int ((((bt0 + bt1) + bt2) + bt3) + bt4)), .val (.int (((((bt0 + bt1) + bt2) + bt3) + bt4) + bt5)), .val (.double (own_ap (own_B bt0 bt1 bt2 bt3 bt4 bt5) 3).2), .second, .unset, .unset] [(.double (own_ap (own_B bt0 bt1 bt2 bt3 bt4 bt5) 3).2)])) _
        refine XS.iload X196.here hx rfl (hb hby at_301) rfl ?_
        show Steps p.tables e below (T196.setTop (mkF m 303 #[.val (.int p0), .val (.int p1), .val (.int p2), .val (.int ln), .val (.int bt0), .val (.int bt1), .val (.int bt2), .val (.int bt3), .val (.int bt4), .val (.int bt5), .val (.ref bb), .val (.ref b192), .val (.double (own_fin p2 (own_ap (own_B bt0 bt1 bt2 bt3 bt4 bt5) ln.toNatClampNeg).2)), .second, .val (.int bt0), .val (.int (bt0 + bt1)), .val (.int ((bt0 + bt1) + bt2)), .val (.int (((bt0 + bt1) + bt2) + bt3)), .val (.int ((((bt0 + bt1) + bt2) + bt3) + bt4)), .val (.int (((((bt0 + bt1) + bt2) + bt3) + bt4) + bt5)), .val (.double (own_ap (own_B bt0 bt1 bt2 bt3 bt4 bt5) 3).2), .second, .unset, .unset] [(.int (((bt0 + bt1) + bt2) + bt3)), (.double (own_ap (own_B bt0 bt1 bt2 bt3 bt4 bt5) 3).2)])) _
        refine XS.i2dS X196.here hx rfl (hb hby at_303) rfl rfl ?_
        show Steps p.tables e below (T196.setTop (mkF m 304 #[.val (.int p0), .val (.int p1), .val (.int p2), .val (.int ln), .val (.int bt0), .val (.int bt1), .val (.int bt2), .val (.int bt3), .val (.int bt4), .val (.int bt5), .val (.ref bb), .val (.ref b192), .val (.double (own_fin p2 (own_ap (own_B bt0 bt1 bt2 bt3 bt4 bt5) ln.toNatClampNeg).2)), .second, .val (.int bt0), .val (.int (bt0 + bt1)), .val (.int ((bt0 + bt1) + bt2)), .val (.int (((bt0 + bt1) + bt2) + bt3)), .val (.int ((((bt0 + bt1) + bt2) + bt3) + bt4)), .val (.int (((((bt0 + bt1) + bt2) + bt3) + bt4) + bt5)), .val (.double (own_ap (own_B bt0 bt1 bt2 bt3 bt4 bt5) 3).2), .second, .unset, .unset] [(.double (FP.i2d (((bt0 + bt1) + bt2) + bt3))), (.double (own_ap (own_B bt0 bt1 bt2 bt3 bt4 bt5) 3).2)])) _
        refine X196.ldc2DoubleC hx hown (mvT hZ (hw _ (List.mem_of_getElem? (i := 27) rfl))) (g := (mkF m 304 #[.val (.int p0), .val (.int p1), .val (.int p2), .val (.int ln), .val (.int bt0), .val (.int bt1), .val (.int bt2), .val (.int bt3), .val (.int bt4), .val (.int bt5), .val (.ref bb), .val (.ref b192), .val (.double (own_fin p2 (own_ap (own_B bt0 bt1 bt2 bt3 bt4 bt5) ln.toNatClampNeg).2)), .second, .val (.int bt0), .val (.int (bt0 + bt1)), .val (.int ((bt0 + bt1) + bt2)), .val (.int (((bt0 + bt1) + bt2) + bt3)), .val (.int ((((bt0 + bt1) + bt2) + bt3) + bt4)), .val (.int (((((bt0 + bt1) + bt2) + bt3) + bt4) + bt5)), .val (.double (own_ap (own_B bt0 bt1 bt2 bt3 bt4 bt5) 3).2), .second, .unset, .unset] [(.double (FP.i2d (((bt0 + bt1) + bt2) + bt3))), (.double (own_ap (own_B bt0 bt1 bt2 bt3 bt4 bt5) 3).2)])) rfl (hb hby at_304) _ ?_
        show Steps p.tables e below (T196.setTop (mkF m 307 #[.val (.int p0), .val (.int p1), .val (.int p2), .val (.int ln), .val (.int bt0), .val (.int bt1), .val (.int bt2), .val (.int bt3), .val (.int bt4), .val (.int bt5), .val (.ref bb), .val (.ref b192), .val (.double (own_fin p2 (own_ap (own_B bt0 bt1 bt2 bt3 bt4 bt5) ln.toNatClampNeg).2)), .second, .val (.int bt0), .val (.int (bt0 + bt1)), .val (.int ((bt0 + bt1) + bt2)), .val (.int (((bt0 + bt1) + bt2) + bt3)), .val (.int ((((bt0 + bt1) + bt2) + bt3) + bt4)), .val (.int (((((bt0 + bt1) + bt2) + bt3) + bt4) + bt5)), .val (.double (own_ap (own_B bt0 bt1 bt2 bt3 bt4 bt5) 3).2), .second, .unset, .unset] [(.double (4616189618054758400 : UInt64)), (.double (FP.i2d (((bt0 + bt1) + bt2) + bt3))), (.double (own_ap (own_B bt0 bt1 bt2 bt3 bt4 bt5) 3).2)])) _
        refine XS.ddivS X196.here hx rfl (hb hby at_307) rfl (own_nk _ 4 (by decide) own_k4) rfl ?_
        show Steps p.tables e below (T196.setTop (mkF m 308 #[.val (.int p0), .val (.int p1), .val (.int p2), .val (.int ln), .val (.int bt0), .val (.int bt1), .val (.int bt2), .val (.int bt3), .val (.int bt4), .val (.int bt5), .val (.ref bb), .val (.ref b192), .val (.double (own_fin p2 (own_ap (own_B bt0 bt1 bt2 bt3 bt4 bt5) ln.toNatClampNeg).2)), .second, .val (.int bt0), .val (.int (bt0 + bt1)), .val (.int ((bt0 + bt1) + bt2)), .val (.int (((bt0 + bt1) + bt2) + bt3)), .val (.int ((((bt0 + bt1) + bt2) + bt3) + bt4)), .val (.int (((((bt0 + bt1) + bt2) + bt3) + bt4) + bt5)), .val (.double (own_ap (own_B bt0 bt1 bt2 bt3 bt4 bt5) 3).2), .second, .unset, .unset] [(.double (FP.ddiv (FP.i2d (((bt0 + bt1) + bt2) + bt3)) (4616189618054758400 : UInt64))), (.double (own_ap (own_B bt0 bt1 bt2 bt3 bt4 bt5) 3).2)])) _
        refine XS.daddS X196.here hx rfl (hb hby at_308) rfl (own_na (own_apm (own_B bt0 bt1 bt2 bt3 bt4 bt5) 3) (own_mk _ 4 (by decide) own_k4) (by decide)) rfl ?_
        show Steps p.tables e below (T196.setTop (mkF m 309 #[.val (.int p0), .val (.int p1), .val (.int p2), .val (.int ln), .val (.int bt0), .val (.int bt1), .val (.int bt2), .val (.int bt3), .val (.int bt4), .val (.int bt5), .val (.ref bb), .val (.ref b192), .val (.double (own_fin p2 (own_ap (own_B bt0 bt1 bt2 bt3 bt4 bt5) ln.toNatClampNeg).2)), .second, .val (.int bt0), .val (.int (bt0 + bt1)), .val (.int ((bt0 + bt1) + bt2)), .val (.int (((bt0 + bt1) + bt2) + bt3)), .val (.int ((((bt0 + bt1) + bt2) + bt3) + bt4)), .val (.int (((((bt0 + bt1) + bt2) + bt3) + bt4) + bt5)), .val (.double (own_ap (own_B bt0 bt1 bt2 bt3 bt4 bt5) 3).2), .second, .unset, .unset] [(.double (FP.dadd (own_ap (own_B bt0 bt1 bt2 bt3 bt4 bt5) 3).2 (FP.ddiv (FP.i2d (((bt0 + bt1) + bt2) + bt3)) (4616189618054758400 : UInt64))))])) _
        refine XS.dstore X196.here hx rfl (hb hby at_309) rfl (l' := #[.val (.int p0), .val (.int p1), .val (.int p2), .val (.int ln), .val (.int bt0), .val (.int bt1), .val (.int bt2), .val (.int bt3), .val (.int bt4), .val (.int bt5), .val (.ref bb), .val (.ref b192), .val (.double (own_fin p2 (own_ap (own_B bt0 bt1 bt2 bt3 bt4 bt5) ln.toNatClampNeg).2)), .second, .val (.int bt0), .val (.int (bt0 + bt1)), .val (.int ((bt0 + bt1) + bt2)), .val (.int (((bt0 + bt1) + bt2) + bt3)), .val (.int ((((bt0 + bt1) + bt2) + bt3) + bt4)), .val (.int (((((bt0 + bt1) + bt2) + bt3) + bt4) + bt5)), .val (.double (FP.dadd (own_ap (own_B bt0 bt1 bt2 bt3 bt4 bt5) 3).2 (FP.ddiv (FP.i2d (((bt0 + bt1) + bt2) + bt3)) (4616189618054758400 : UInt64)))), .second, .unset, .unset]) rfl ?_
        exact k
    · skip
      have ohc208 : ¬ (bt3.toInt = 1) := own_neq.mp hc208
      refine ⟨(own_ap (own_B bt0 bt1 bt2 bt3 bt4 bt5) 3).2, ?_, fun t k => pre209 t ?_⟩
      · exact own_s0_3 bt0 bt1 bt2 bt3 bt4 bt5 ohc208
      · skip
        show Steps p.tables e below (T196.setTop (mkF m 296 #[.val (.int p0), .val (.int p1), .val (.int p2), .val (.int ln), .val (.int bt0), .val (.int bt1), .val (.int bt2), .val (.int bt3), .val (.int bt4), .val (.int bt5), .val (.ref bb), .val (.ref b192), .val (.double (own_fin p2 (own_ap (own_B bt0 bt1 bt2 bt3 bt4 bt5) ln.toNatClampNeg).2)), .second, .val (.int bt0), .val (.int (bt0 + bt1)), .val (.int ((bt0 + bt1) + bt2)), .val (.int (((bt0 + bt1) + bt2) + bt3)), .val (.int ((((bt0 + bt1) + bt2) + bt3) + bt4)), .val (.int (((((bt0 + bt1) + bt2) + bt3) + bt4) + bt5)), .val (.double (own_ap (own_B bt0 bt1 bt2 bt3 bt4 bt5) 3).2), .second, .unset, .unset] [(.int (1 : Int32)), (.int bt3)])) _
        refine XS.icmpYes X196.here hx rfl (pc0 := 296) (pc' := 311) rfl (hb hby at_296) rfl (feq hc208).2 (by decide) (by decide) ?_
        exact k
  obtain ⟨sm4, rfl, pre210⟩ : ∃ (sm4 : UInt64), (sm4 = (own_ap (own_B bt0 bt1 bt2 bt3 bt4 bt5) 5).2) ∧ ∀ t, Steps p.tables e below (T196.setTop (mkF m 329 #[.val (.int p0), .val (.int p1), .val (.int p2), .val (.int ln), .val (.int bt0), .val (.int bt1), .val (.int bt2), .val (.int bt3), .val (.int bt4), .val (.int bt5), .val (.ref bb), .val (.ref b192), .val (.double (own_fin p2 (own_ap (own_B bt0 bt1 bt2 bt3 bt4 bt5) ln.toNatClampNeg).2)), .second, .val (.int bt0), .val (.int (bt0 + bt1)), .val (.int ((bt0 + bt1) + bt2)), .val (.int (((bt0 + bt1) + bt2) + bt3)), .val (.int ((((bt0 + bt1) + bt2) + bt3) + bt4)), .val (.int (((((bt0 + bt1) + bt2) + bt3) + bt4) + bt5)), .val (.double sm4), .second, .unset, .unset] [])) t → Steps p.tables e below (s₁.setTop (mkF m 0 #[.val (.int p0), .val (.int p1), .val (.int p2), .unset, .unset, .unset, .unset, .unset, .unset, .unset, .unset, .unset, .unset, .unset, .unset, .unset, .unset, .unset, .unset, .unset, .unset, .unset, .unset, .unset] [])) t := by
    have pre212 : ∀ t, Steps p.tables e below (T196.setTop (mkF m 314 #[.val (.int p0), .val (.int p1), .val (.int p2), .val (.int ln), .val (.int bt0), .val (.int bt1), .val (.int bt2), .val (.int bt3), .val (.int bt4), .val (.int bt5), .val (.ref bb), .val (.ref b192), .val (.double (own_fin p2 (own_ap (own_B bt0 bt1 bt2 bt3 bt4 bt5) ln.toNatClampNeg).2)), .second, .val (.int bt0), .val (.int (bt0 + bt1)), .val (.int ((bt0 + bt1) + bt2)), .val (.int (((bt0 + bt1) + bt2) + bt3)), .val (.int ((((bt0 + bt1) + bt2) + bt3) + bt4)), .val (.int (((((bt0 + bt1) + bt2) + bt3) + bt4) + bt5)), .val (.double (own_ap (own_B bt0 bt1 bt2 bt3 bt4 bt5) 4).2), .second, .unset, .unset] [(.int (1 : Int32)), (.int bt4)])) t → Steps p.tables e below (s₁.setTop (mkF m 0 #[.val (.int p0), .val (.int p1), .val (.int p2), .unset, .unset, .unset, .unset, .unset, .unset, .unset, .unset, .unset, .unset, .unset, .unset, .unset, .unset, .unset, .unset, .unset, .unset, .unset, .unset, .unset] [])) t := fun t k => pre207 t (by
      show Steps p.tables e below (T196.setTop (mkF m 311 #[.val (.int p0), .val (.int p1), .val (.int p2), .val (.int ln), .val (.int bt0), .val (.int bt1), .val (.int bt2), .val (.int bt3), .val (.int bt4), .val (.int bt5), .val (.ref bb), .val (.ref b192), .val (.double (own_fin p2 (own_ap (own_B bt0 bt1 bt2 bt3 bt4 bt5) ln.toNatClampNeg).2)), .second, .val (.int bt0), .val (.int (bt0 + bt1)), .val (.int ((bt0 + bt1) + bt2)), .val (.int (((bt0 + bt1) + bt2) + bt3)), .val (.int ((((bt0 + bt1) + bt2) + bt3) + bt4)), .val (.int (((((bt0 + bt1) + bt2) + bt3) + bt4) + bt5)), .val (.double (own_ap (own_B bt0 bt1 bt2 bt3 bt4 bt5) 4).2), .second, .unset, .unset] [])) _
      refine XS.iload X196.here hx rfl (hb hby at_311) rfl ?_
      show Steps p.tables e below (T196.setTop (mkF m 313 #[.val (.int p0), .val (.int p1), .val (.int p2), .val (.int ln), .val (.int bt0), .val (.int bt1), .val (.int bt2), .val (.int bt3), .val (.int bt4), .val (.int bt5), .val (.ref bb), .val (.ref b192), .val (.double (own_fin p2 (own_ap (own_B bt0 bt1 bt2 bt3 bt4 bt5) ln.toNatClampNeg).2)), .second, .val (.int bt0), .val (.int (bt0 + bt1)), .val (.int ((bt0 + bt1) + bt2)), .val (.int (((bt0 + bt1) + bt2) + bt3)), .val (.int ((((bt0 + bt1) + bt2) + bt3) + bt4)), .val (.int (((((bt0 + bt1) + bt2) + bt3) + bt4) + bt5)), .val (.double (own_ap (own_B bt0 bt1 bt2 bt3 bt4 bt5) 4).2), .second, .unset, .unset] [(.int bt4)])) _
      refine XS.iconst X196.here hx rfl (hb hby at_313) ?_
      exact k)
    by_cases hc211 : bt4 = (1 : Int32)
    · skip
      have ohc211 : bt4.toInt = 1 := own_eq.mp hc211
      refine ⟨(FP.dadd (own_ap (own_B bt0 bt1 bt2 bt3 bt4 bt5) 4).2 (FP.ddiv (FP.i2d ((((bt0 + bt1) + bt2) + bt3) + bt4)) (4617315517961601024 : UInt64))), ?_, fun t k => pre212 t ?_⟩
      · exact own_s1_4 bt0 bt1 bt2 bt3 bt4 bt5 r_bt0 r_bt1 r_bt2 r_bt3 ohc211
      · skip
        show Steps p.tables e below (T196.setTop (mkF m 314 #[.val (.int p0), .val (.int p1), .val (.int p2), .val (.int ln), .val (.int bt0), .val (.int bt1), .val (.int bt2), .val (.int bt3), .val (.int bt4), .val (.int bt5), .val (.ref bb), .val (.ref b192), .val (.double (own_fin p2 (own_ap (own_B bt0 bt1 bt2 bt3 bt4 bt5) ln.toNatClampNeg).2)), .second, .val (.int bt0), .val (.int (bt0 + bt1)), .val (.int ((bt0 + bt1) + bt2)), .val (.int (((bt0 + bt1) + bt2) + bt3)), .val (.int ((((bt0 + bt1) + bt2) + bt3) + bt4)), .val (.int (((((bt0 + bt1) + bt2) + bt3) + bt4) + bt5)), .val (.double (own_ap (own_B bt0 bt1 bt2 bt3 bt4 bt5) 4).2), .second, .unset, .unset] [(.int (1 : Int32)), (.int bt4)])) _
        refine XS.icmpNo X196.here hx rfl (hb hby at_314) rfl (teq hc211).2 ?_
        show Steps p.tables e below (T196.setTop (mkF m 317 #[.val (.int p0), .val (.int p1), .val (.int p2), .val (.int ln), .val (.int bt0), .val (.int bt1), .val (.int bt2), .val (.int bt3), .val (.int bt4), .val (.int bt5), .val (.ref bb), .val (.ref b192), .val (.double (own_fin p2 (own_ap (own_B bt0 bt1 bt2 bt3 bt4 bt5) ln.toNatClampNeg).2)), .second, .val (.int bt0), .val (.int (bt0 + bt1)), .val (.int ((bt0 + bt1) + bt2)), .val (.int (((bt0 + bt1) + bt2) + bt3)), .val (.int ((((bt0 + bt1) + bt2) + bt3) + bt4)), .val (.int (((((bt0 + bt1) + bt2) + bt3) + bt4) + bt5)), .val (.double (own_ap (own_B bt0 bt1 bt2 bt3 bt4 bt5) 4).2), .second, .unset, .unset] [])) _
        refine XS.dload X196.here hx rfl (hb hby at_317) rfl ?_
        show Steps p.tables e below (T196.setTop (mkF m 319 #[.val (.int p0), .val (.int p1), .val (.int p2), .val (.int ln), .val (.int bt0), .val (.int bt1), .val (.int bt2), .val (.int bt3), .val (.int bt4), .val (.int bt5), .val (.ref bb), .val (.ref b192), .val (.double (own_fin p2 (own_ap (own_B bt0 bt1 bt2 bt3 bt4 bt5) ln.toNatClampNeg).2)), .second, .val (.int bt0), .val (.int (bt0 + bt1)), .val (.int ((bt0 + bt1) + bt2)), .val (.int (((bt0 + bt1) + bt2) + bt3)), .val (.int ((((bt0 + bt1) + bt2) + bt3) + bt4)), .val (.int (((((bt0 + bt1) + bt2) + bt3) + bt4) + bt5)), .val (.double (own_ap (own_B bt0 bt1 bt2 bt3 bt4 bt5) 4).2), .second, .unset, .unset] [(.double (own_ap (own_B bt0 bt1 bt2 bt3 bt4 bt5) 4).2)])) _
        refine XS.iload X196.here hx rfl (hb hby at_319) rfl ?_
        show Steps p.tables e below (T196.setTop (mkF m 321 #[.val (.int p0), .val (.int p1), .val (.int p2), .val (.int ln), .val (.int bt0), .val (.int bt1), .val (.int bt2), .val (.int bt3), .val (.int bt4), .val (.int bt5), .val (.ref bb), .val (.ref b192), .val (.double (own_fin p2 (own_ap (own_B bt0 bt1 bt2 bt3 bt4 bt5) ln.toNatClampNeg).2)), .second, .val (.int bt0), .val (.int (bt0 + bt1)), .val (.int ((bt0 + bt1) + bt2)), .val (.int (((bt0 + bt1) + bt2) + bt3)), .val (.int ((((bt0 + bt1) + bt2) + bt3) + bt4)), .val (.int (((((bt0 + bt1) + bt2) + bt3) + bt4) + bt5)), .val (.double (own_ap (own_B bt0 bt1 bt2 bt3 bt4 bt5) 4).2), .second, .unset, .unset] [(.int ((((bt0 + bt1) + bt2) + bt3) + bt4)), (.double (own_ap (own_B bt0 bt1 bt2 bt3 bt4 bt5) 4).2)])) _
        refine XS.i2dS X196.here hx rfl (hb hby at_321) rfl rfl ?_
        show Steps p.tables e below (T196.setTop (mkF m 322 #[.val (.int p0), .val (.int p1), .val (.int p2), .val (.int ln), .val (.int bt0), .val (.int bt1), .val (.int bt2), .val (.int bt3), .val (.int bt4), .val (.int bt5), .val (.ref bb), .val (.ref b192), .val (.double (own_fin p2 (own_ap (own_B bt0 bt1 bt2 bt3 bt4 bt5) ln.toNatClampNeg).2)), .second, .val (.int bt0), .val (.int (bt0 + bt1)), .val (.int ((bt0 + bt1) + bt2)), .val (.int (((bt0 + bt1) + bt2) + bt3)), .val (.int ((((bt0 + bt1) + bt2) + bt3) + bt4)), .val (.int (((((bt0 + bt1) + bt2) + bt3) + bt4) + bt5)), .val (.double (own_ap (own_B bt0 bt1 bt2 bt3 bt4 bt5) 4).2), .second, .unset, .unset] [(.double (FP.i2d ((((bt0 + bt1) + bt2) + bt3) + bt4))), (.double (own_ap (own_B bt0 bt1 bt2 bt3 bt4 bt5) 4).2)])) _
        refine X196.ldc2DoubleC hx hown (mvT hZ (hw _ (List.mem_of_getElem? (i := 25) rfl))) (g := (mkF m 322 #[.val (.int p0), .val (.int p1), .val (.int p2), .val (.int ln), .val (.int bt0), .val (.int bt1), .val (.int bt2), .val (.int bt3), .val (.int bt4), .val (.int bt5), .val (.ref bb), .val (.ref b192), .val (.double (own_fin p2 (own_ap (own_B bt0 bt1 bt2 bt3 bt4 bt5) ln.toNatClampNeg).2)), .second, .val (.int bt0), .val (.int (bt0 + bt1)), .val (.int ((bt0 + bt1) + bt2)), .val (.int (((bt0 + bt1) + bt2) + bt3)), .val (.int ((((bt0 + bt1) + bt2) + bt3) + bt4)), .val (.int (((((bt0 + bt1) + bt2) + bt3) + bt4) + bt5)), .val (.double (own_ap (own_B bt0 bt1 bt2 bt3 bt4 bt5) 4).2), .second, .unset, .unset] [(.double (FP.i2d ((((bt0 + bt1) + bt2) + bt3) + bt4))), (.double (own_ap (own_B bt0 bt1 bt2 bt3 bt4 bt5) 4).2)])) rfl (hb hby at_322) _ ?_
        show Steps p.tables e below (T196.setTop (mkF m 325 #[.val (.int p0), .val (.int p1), .val (.int p2), .val (.int ln), .val (.int bt0), .val (.int bt1), .val (.int bt2), .val (.int bt3), .val (.int bt4), .val (.int bt5), .val (.ref bb), .val (.ref b192), .val (.double (own_fin p2 (own_ap (own_B bt0 bt1 bt2 bt3 bt4 bt5) ln.toNatClampNeg).2)), .second, .val (.int bt0), .val (.int (bt0 + bt1)), .val (.int ((bt0 + bt1) + bt2)), .val (.int (((bt0 + bt1) + bt2) + bt3)), .val (.int ((((bt0 + bt1) + bt2) + bt3) + bt4)), .val (.int (((((bt0 + bt1) + bt2) + bt3) + bt4) + bt5)), .val (.double (own_ap (own_B bt0 bt1 bt2 bt3 bt4 bt5) 4).2), .second, .unset, .unset] [(.double (4617315517961601024 : UInt64)), (.double (FP.i2d ((((bt0 + bt1) + bt2) + bt3) + bt4))), (.double (own_ap (own_B bt0 bt1 bt2 bt3 bt4 bt5) 4).2)])) _
        refine XS.ddivS X196.here hx rfl (hb hby at_325) rfl (own_nk _ 5 (by decide) own_k5) rfl ?_
        show Steps p.tables e below (T196.setTop (mkF m 326 #[.val (.int p0), .val (.int p1), .val (.int p2), .val (.int ln), .val (.int bt0), .val (.int bt1), .val (.int bt2), .val (.int bt3), .val (.int bt4), .val (.int bt5), .val (.ref bb), .val (.ref b192), .val (.double (own_fin p2 (own_ap (own_B bt0 bt1 bt2 bt3 bt4 bt5) ln.toNatClampNeg).2)), .second, .val (.int bt0), .val (.int (bt0 + bt1)), .val (.int ((bt0 + bt1) + bt2)), .val (.int (((bt0 + bt1) + bt2) + bt3)), .val (.int ((((bt0 + bt1) + bt2) + bt3) + bt4)), .val (.int (((((bt0 + bt1) + bt2) + bt3) + bt4) + bt5)), .val (.double (own_ap (own_B bt0 bt1 bt2 bt3 bt4 bt5) 4).2), .second, .unset, .unset] [(.double (FP.ddiv (FP.i2d ((((bt0 + bt1) + bt2) + bt3) + bt4)) (4617315517961601024 : UInt64))), (.double (own_ap (own_B bt0 bt1 bt2 bt3 bt4 bt5) 4).2)])) _
        refine XS.daddS X196.here hx rfl (hb hby at_326) rfl (own_na (own_apm (own_B bt0 bt1 bt2 bt3 bt4 bt5) 4) (own_mk _ 5 (by decide) own_k5) (by decide)) rfl ?_
        show Steps p.tables e below (T196.setTop (mkF m 327 #[.val (.int p0), .val (.int p1), .val (.int p2), .val (.int ln), .val (.int bt0), .val (.int bt1), .val (.int bt2), .val (.int bt3), .val (.int bt4), .val (.int bt5), .val (.ref bb), .val (.ref b192), .val (.double (own_fin p2 (own_ap (own_B bt0 bt1 bt2 bt3 bt4 bt5) ln.toNatClampNeg).2)), .second, .val (.int bt0), .val (.int (bt0 + bt1)), .val (.int ((bt0 + bt1) + bt2)), .val (.int (((bt0 + bt1) + bt2) + bt3)), .val (.int ((((bt0 + bt1) + bt2) + bt3) + bt4)), .val (.int (((((bt0 + bt1) + bt2) + bt3) + bt4) + bt5)), .val (.double (own_ap (own_B bt0 bt1 bt2 bt3 bt4 bt5) 4).2), .second, .unset, .unset] [(.double (FP.dadd (own_ap (own_B bt0 bt1 bt2 bt3 bt4 bt5) 4).2 (FP.ddiv (FP.i2d ((((bt0 + bt1) + bt2) + bt3) + bt4)) (4617315517961601024 : UInt64))))])) _
        refine XS.dstore X196.here hx rfl (hb hby at_327) rfl (l' := #[.val (.int p0), .val (.int p1), .val (.int p2), .val (.int ln), .val (.int bt0), .val (.int bt1), .val (.int bt2), .val (.int bt3), .val (.int bt4), .val (.int bt5), .val (.ref bb), .val (.ref b192), .val (.double (own_fin p2 (own_ap (own_B bt0 bt1 bt2 bt3 bt4 bt5) ln.toNatClampNeg).2)), .second, .val (.int bt0), .val (.int (bt0 + bt1)), .val (.int ((bt0 + bt1) + bt2)), .val (.int (((bt0 + bt1) + bt2) + bt3)), .val (.int ((((bt0 + bt1) + bt2) + bt3) + bt4)), .val (.int (((((bt0 + bt1) + bt2) + bt3) + bt4) + bt5)), .val (.double (FP.dadd (own_ap (own_B bt0 bt1 bt2 bt3 bt4 bt5) 4).2 (FP.ddiv (FP.i2d ((((bt0 + bt1) + bt2) + bt3) + bt4)) (4617315517961601024 : UInt64)))), .second, .unset, .unset]) rfl ?_
        exact k
    · skip
      have ohc211 : ¬ (bt4.toInt = 1) := own_neq.mp hc211
      refine ⟨(own_ap (own_B bt0 bt1 bt2 bt3 bt4 bt5) 4).2, ?_, fun t k => pre212 t ?_⟩
      · exact own_s0_4 bt0 bt1 bt2 bt3 bt4 bt5 ohc211
      · skip
        show Steps p.tables e below (T196.setTop (mkF m 314 #[.val (.int p0), .val (.int p1), .val (.int p2), .val (.int ln), .val (.int bt0), .val (.int bt1), .val (.int bt2), .val (.int bt3), .val (.int bt4), .val (.int bt5), .val (.ref bb), .val (.ref b192), .val (.double (own_fin p2 (own_ap (own_B bt0 bt1 bt2 bt3 bt4 bt5) ln.toNatClampNeg).2)), .second, .val (.int bt0), .val (.int (bt0 + bt1)), .val (.int ((bt0 + bt1) + bt2)), .val (.int (((bt0 + bt1) + bt2) + bt3)), .val (.int ((((bt0 + bt1) + bt2) + bt3) + bt4)), .val (.int (((((bt0 + bt1) + bt2) + bt3) + bt4) + bt5)), .val (.double (own_ap (own_B bt0 bt1 bt2 bt3 bt4 bt5) 4).2), .second, .unset, .unset] [(.int (1 : Int32)), (.int bt4)])) _
        refine XS.icmpYes X196.here hx rfl (pc0 := 314) (pc' := 329) rfl (hb hby at_314) rfl (feq hc211).2 (by decide) (by decide) ?_
        exact k
  obtain ⟨sm5, rfl, pre213⟩ : ∃ (sm5 : UInt64), (sm5 = (own_ap (own_B bt0 bt1 bt2 bt3 bt4 bt5) 6).2) ∧ ∀ t, Steps p.tables e below (T196.setTop (mkF m 347 #[.val (.int p0), .val (.int p1), .val (.int p2), .val (.int ln), .val (.int bt0), .val (.int bt1), .val (.int bt2), .val (.int bt3), .val (.int bt4), .val (.int bt5), .val (.ref bb), .val (.ref b192), .val (.double (own_fin p2 (own_ap (own_B bt0 bt1 bt2 bt3 bt4 bt5) ln.toNatClampNeg).2)), .second, .val (.int bt0), .val (.int (bt0 + bt1)), .val (.int ((bt0 + bt1) + bt2)), .val (.int (((bt0 + bt1) + bt2) + bt3)), .val (.int ((((bt0 + bt1) + bt2) + bt3) + bt4)), .val (.int (((((bt0 + bt1) + bt2) + bt3) + bt4) + bt5)), .val (.double sm5), .second, .unset, .unset] [])) t → Steps p.tables e below (s₁.setTop (mkF m 0 #[.val (.int p0), .val (.int p1), .val (.int p2), .unset, .unset, .unset, .unset, .unset, .unset, .unset, .unset, .unset, .unset, .unset, .unset, .unset, .unset, .unset, .unset, .unset, .unset, .unset, .unset, .unset] [])) t := by
    have pre215 : ∀ t, Steps p.tables e below (T196.setTop (mkF m 332 #[.val (.int p0), .val (.int p1), .val (.int p2), .val (.int ln), .val (.int bt0), .val (.int bt1), .val (.int bt2), .val (.int bt3), .val (.int bt4), .val (.int bt5), .val (.ref bb), .val (.ref b192), .val (.double (own_fin p2 (own_ap (own_B bt0 bt1 bt2 bt3 bt4 bt5) ln.toNatClampNeg).2)), .second, .val (.int bt0), .val (.int (bt0 + bt1)), .val (.int ((bt0 + bt1) + bt2)), .val (.int (((bt0 + bt1) + bt2) + bt3)), .val (.int ((((bt0 + bt1) + bt2) + bt3) + bt4)), .val (.int (((((bt0 + bt1) + bt2) + bt3) + bt4) + bt5)), .val (.double (own_ap (own_B bt0 bt1 bt2 bt3 bt4 bt5) 5).2), .second, .unset, .unset] [(.int (1 : Int32)), (.int bt5)])) t → Steps p.tables e below (s₁.setTop (mkF m 0 #[.val (.int p0), .val (.int p1), .val (.int p2), .unset, .unset, .unset, .unset, .unset, .unset, .unset, .unset, .unset, .unset, .unset, .unset, .unset, .unset, .unset, .unset, .unset, .unset, .unset, .unset, .unset] [])) t := fun t k => pre210 t (by
      show Steps p.tables e below (T196.setTop (mkF m 329 #[.val (.int p0), .val (.int p1), .val (.int p2), .val (.int ln), .val (.int bt0), .val (.int bt1), .val (.int bt2), .val (.int bt3), .val (.int bt4), .val (.int bt5), .val (.ref bb), .val (.ref b192), .val (.double (own_fin p2 (own_ap (own_B bt0 bt1 bt2 bt3 bt4 bt5) ln.toNatClampNeg).2)), .second, .val (.int bt0), .val (.int (bt0 + bt1)), .val (.int ((bt0 + bt1) + bt2)), .val (.int (((bt0 + bt1) + bt2) + bt3)), .val (.int ((((bt0 + bt1) + bt2) + bt3) + bt4)), .val (.int (((((bt0 + bt1) + bt2) + bt3) + bt4) + bt5)), .val (.double (own_ap (own_B bt0 bt1 bt2 bt3 bt4 bt5) 5).2), .second, .unset, .unset] [])) _
      refine XS.iload X196.here hx rfl (hb hby at_329) rfl ?_
      show Steps p.tables e below (T196.setTop (mkF m 331 #[.val (.int p0), .val (.int p1), .val (.int p2), .val (.int ln), .val (.int bt0), .val (.int bt1), .val (.int bt2), .val (.int bt3), .val (.int bt4), .val (.int bt5), .val (.ref bb), .val (.ref b192), .val (.double (own_fin p2 (own_ap (own_B bt0 bt1 bt2 bt3 bt4 bt5) ln.toNatClampNeg).2)), .second, .val (.int bt0), .val (.int (bt0 + bt1)), .val (.int ((bt0 + bt1) + bt2)), .val (.int (((bt0 + bt1) + bt2) + bt3)), .val (.int ((((bt0 + bt1) + bt2) + bt3) + bt4)), .val (.int (((((bt0 + bt1) + bt2) + bt3) + bt4) + bt5)), .val (.double (own_ap (own_B bt0 bt1 bt2 bt3 bt4 bt5) 5).2), .second, .unset, .unset] [(.int bt5)])) _
      refine XS.iconst X196.here hx rfl (hb hby at_331) ?_
      exact k)
    by_cases hc214 : bt5 = (1 : Int32)
    · skip
      have ohc214 : bt5.toInt = 1 := own_eq.mp hc214
      refine ⟨(FP.dadd (own_ap (own_B bt0 bt1 bt2 bt3 bt4 bt5) 5).2 (FP.ddiv (FP.i2d (((((bt0 + bt1) + bt2) + bt3) + bt4) + bt5)) (4618441417868443648 : UInt64))), ?_, fun t k => pre215 t ?_⟩
      · exact own_s1_5 bt0 bt1 bt2 bt3 bt4 bt5 r_bt0 r_bt1 r_bt2 r_bt3 r_bt4 ohc214
      · skip
        show Steps p.tables e below (T196.setTop (mkF m 332 #[.val (.int p0), .val (.int p1), .val (.int p2), .val (.int ln), .val (.int bt0), .val (.int bt1), .val (.int bt2), .val (.int bt3), .val (.int bt4), .val (.int bt5), .val (.ref bb), .val (.ref b192), .val (.double (own_fin p2 (own_ap (own_B bt0 bt1 bt2 bt3 bt4 bt5) ln.toNatClampNeg).2)), .second, .val (.int bt0), .val (.int (bt0 + bt1)), .val (.int ((bt0 + bt1) + bt2)), .val (.int (((bt0 + bt1) + bt2) + bt3)), .val (.int ((((bt0 + bt1) + bt2) + bt3) + bt4)), .val (.int (((((bt0 + bt1) + bt2) + bt3) + bt4) + bt5)), .val (.double (own_ap (own_B bt0 bt1 bt2 bt3 bt4 bt5) 5).2), .second, .unset, .unset] [(.int (1 : Int32)), (.int bt5)])) _
        refine XS.icmpNo X196.here hx rfl (hb hby at_332) rfl (teq hc214).2 ?_
        show Steps p.tables e below (T196.setTop (mkF m 335 #[.val (.int p0), .val (.int p1), .val (.int p2), .val (.int ln), .val (.int bt0), .val (.int bt1), .val (.int bt2), .val (.int bt3), .val (.int bt4), .val (.int bt5), .val (.ref bb), .val (.ref b192), .val (.double (own_fin p2 (own_ap (own_B bt0 bt1 bt2 bt3 bt4 bt5) ln.toNatClampNeg).2)), .second, .val (.int bt0), .val (.int (bt0 + bt1)), .val (.int ((bt0 + bt1) + bt2)), .val (.int (((bt0 + bt1) + bt2) + bt3)), .val (.int ((((bt0 + bt1) + bt2) + bt3) + bt4)), .val (.int (((((bt0 + bt1) + bt2) + bt3) + bt4) + bt5)), .val (.double (own_ap (own_B bt0 bt1 bt2 bt3 bt4 bt5) 5).2), .second, .unset, .unset] [])) _
        refine XS.dload X196.here hx rfl (hb hby at_335) rfl ?_
        show Steps p.tables e below (T196.setTop (mkF m 337 #[.val (.int p0), .val (.int p1), .val (.int p2), .val (.int ln), .val (.int bt0), .val (.int bt1), .val (.int bt2), .val (.int bt3), .val (.int bt4), .val (.int bt5), .val (.ref bb), .val (.ref b192), .val (.double (own_fin p2 (own_ap (own_B bt0 bt1 bt2 bt3 bt4 bt5) ln.toNatClampNeg).2)), .second, .val (.int bt0), .val (.int (bt0 + bt1)), .val (.int ((bt0 + bt1) + bt2)), .val (.int (((bt0 + bt1) + bt2) + bt3)), .val (.int ((((bt0 + bt1) + bt2) + bt3) + bt4)), .val (.int (((((bt0 + bt1) + bt2) + bt3) + bt4) + bt5)), .val (.double (own_ap (own_B bt0 bt1 bt2 bt3 bt4 bt5) 5).2), .second, .unset, .unset] [(.double (own_ap (own_B bt0 bt1 bt2 bt3 bt4 bt5) 5).2)])) _
        refine XS.iload X196.here hx rfl (hb hby at_337) rfl ?_
        show Steps p.tables e below (T196.setTop (mkF m 339 #[.val (.int p0), .val (.int p1), .val (.int p2), .val (.int ln), .val (.int bt0), .val (.int bt1), .val (.int bt2), .val (.int bt3), .val (.int bt4), .val (.int bt5), .val (.ref bb), .val (.ref b192), .val (.double (own_fin p2 (own_ap (own_B bt0 bt1 bt2 bt3 bt4 bt5) ln.toNatClampNeg).2)), .second, .val (.int bt0), .val (.int (bt0 + bt1)), .val (.int ((bt0 + bt1) + bt2)), .val (.int (((bt0 + bt1) + bt2) + bt3)), .val (.int ((((bt0 + bt1) + bt2) + bt3) + bt4)), .val (.int (((((bt0 + bt1) + bt2) + bt3) + bt4) + bt5)), .val (.double (own_ap (own_B bt0 bt1 bt2 bt3 bt4 bt5) 5).2), .second, .unset, .unset] [(.int (((((bt0 + bt1) + bt2) + bt3) + bt4) + bt5)), (.double (own_ap (own_B bt0 bt1 bt2 bt3 bt4 bt5) 5).2)])) _
        refine XS.i2dS X196.here hx rfl (hb hby at_339) rfl rfl ?_
        show Steps p.tables e below (T196.setTop (mkF m 340 #[.val (.int p0), .val (.int p1), .val (.int p2), .val (.int ln), .val (.int bt0), .val (.int bt1), .val (.int bt2), .val (.int bt3), .val (.int bt4), .val (.int bt5), .val (.ref bb), .val (.ref b192), .val (.double (own_fin p2 (own_ap (own_B bt0 bt1 bt2 bt3 bt4 bt5) ln.toNatClampNeg).2)), .second, .val (.int bt0), .val (.int (bt0 + bt1)), .val (.int ((bt0 + bt1) + bt2)), .val (.int (((bt0 + bt1) + bt2) + bt3)), .val (.int ((((bt0 + bt1) + bt2) + bt3) + bt4)), .val (.int (((((bt0 + bt1) + bt2) + bt3) + bt4) + bt5)), .val (.double (own_ap (own_B bt0 bt1 bt2 bt3 bt4 bt5) 5).2), .second, .unset, .unset] [(.double (FP.i2d (((((bt0 + bt1) + bt2) + bt3) + bt4) + bt5))), (.double (own_ap (own_B bt0 bt1 bt2 bt3 bt4 bt5) 5).2)])) _
        refine X196.ldc2DoubleC hx hown (mvT hZ (hw _ (List.mem_of_getElem? (i := 28) rfl))) (g := (mkF m 340 #[.val (.int p0), .val (.int p1), .val (.int p2), .val (.int ln), .val (.int bt0), .val (.int bt1), .val (.int bt2), .val (.int bt3), .val (.int bt4), .val (.int bt5), .val (.ref bb), .val (.ref b192), .val (.double (own_fin p2 (own_ap (own_B bt0 bt1 bt2 bt3 bt4 bt5) ln.toNatClampNeg).2)), .second, .val (.int bt0), .val (.int (bt0 + bt1)), .val (.int ((bt0 + bt1) + bt2)), .val (.int (((bt0 + bt1) + bt2) + bt3)), .val (.int ((((bt0 + bt1) + bt2) + bt3) + bt4)), .val (.int (((((bt0 + bt1) + bt2) + bt3) + bt4) + bt5)), .val (.double (own_ap (own_B bt0 bt1 bt2 bt3 bt4 bt5) 5).2), .second, .unset, .unset] [(.double (FP.i2d (((((bt0 + bt1) + bt2) + bt3) + bt4) + bt5))), (.double (own_ap (own_B bt0 bt1 bt2 bt3 bt4 bt5) 5).2)])) rfl (hb hby at_340) _ ?_
        show Steps p.tables e below (T196.setTop (mkF m 343 #[.val (.int p0), .val (.int p1), .val (.int p2), .val (.int ln), .val (.int bt0), .val (.int bt1), .val (.int bt2), .val (.int bt3), .val (.int bt4), .val (.int bt5), .val (.ref bb), .val (.ref b192), .val (.double (own_fin p2 (own_ap (own_B bt0 bt1 bt2 bt3 bt4 bt5) ln.toNatClampNeg).2)), .second, .val (.int bt0), .val (.int (bt0 + bt1)), .val (.int ((bt0 + bt1) + bt2)), .val (.int (((bt0 + bt1) + bt2) + bt3)), .val (.int ((((bt0 + bt1) + bt2) + bt3) + bt4)), .val (.int (((((bt0 + bt1) + bt2) + bt3) + bt4) + bt5)), .val (.double (own_ap (own_B bt0 bt1 bt2 bt3 bt4 bt5) 5).2), .second, .unset, .unset] [(.double (4618441417868443648 : UInt64)), (.double (FP.i2d (((((bt0 + bt1) + bt2) + bt3) + bt4) + bt5))), (.double (own_ap (own_B bt0 bt1 bt2 bt3 bt4 bt5) 5).2)])) _
        refine XS.ddivS X196.here hx rfl (hb hby at_343) rfl (own_nk _ 6 (by decide) own_k6) rfl ?_
        show Steps p.tables e below (T196.setTop (mkF m 344 #[.val (.int p0), .val (.int p1), .val (.int p2), .val (.int ln), .val (.int bt0), .val (.int bt1), .val (.int bt2), .val (.int bt3), .val (.int bt4), .val (.int bt5), .val (.ref bb), .val (.ref b192), .val (.double (own_fin p2 (own_ap (own_B bt0 bt1 bt2 bt3 bt4 bt5) ln.toNatClampNeg).2)), .second, .val (.int bt0), .val (.int (bt0 + bt1)), .val (.int ((bt0 + bt1) + bt2)), .val (.int (((bt0 + bt1) + bt2) + bt3)), .val (.int ((((bt0 + bt1) + bt2) + bt3) + bt4)), .val (.int (((((bt0 + bt1) + bt2) + bt3) + bt4) + bt5)), .val (.double (own_ap (own_B bt0 bt1 bt2 bt3 bt4 bt5) 5).2), .second, .unset, .unset] [(.double (FP.ddiv (FP.i2d (((((bt0 + bt1) + bt2) + bt3) + bt4) + bt5)) (4618441417868443648 : UInt64))), (.double (own_ap (own_B bt0 bt1 bt2 bt3 bt4 bt5) 5).2)])) _
        refine XS.daddS X196.here hx rfl (hb hby at_344) rfl (own_na (own_apm (own_B bt0 bt1 bt2 bt3 bt4 bt5) 5) (own_mk _ 6 (by decide) own_k6) (by decide)) rfl ?_
        show Steps p.tables e below (T196.setTop (mkF m 345 #[.val (.int p0), .val (.int p1), .val (.int p2), .val (.int ln), .val (.int bt0), .val (.int bt1), .val (.int bt2), .val (.int bt3), .val (.int bt4), .val (.int bt5), .val (.ref bb), .val (.ref b192), .val (.double (own_fin p2 (own_ap (own_B bt0 bt1 bt2 bt3 bt4 bt5) ln.toNatClampNeg).2)), .second, .val (.int bt0), .val (.int (bt0 + bt1)), .val (.int ((bt0 + bt1) + bt2)), .val (.int (((bt0 + bt1) + bt2) + bt3)), .val (.int ((((bt0 + bt1) + bt2) + bt3) + bt4)), .val (.int (((((bt0 + bt1) + bt2) + bt3) + bt4) + bt5)), .val (.double (own_ap (own_B bt0 bt1 bt2 bt3 bt4 bt5) 5).2), .second, .unset, .unset] [(.double (FP.dadd (own_ap (own_B bt0 bt1 bt2 bt3 bt4 bt5) 5).2 (FP.ddiv (FP.i2d (((((bt0 + bt1) + bt2) + bt3) + bt4) + bt5)) (4618441417868443648 : UInt64))))])) _
        refine XS.dstore X196.here hx rfl (hb hby at_345) rfl (l' := #[.val (.int p0), .val (.int p1), .val (.int p2), .val (.int ln), .val (.int bt0), .val (.int bt1), .val (.int bt2), .val (.int bt3), .val (.int bt4), .val (.int bt5), .val (.ref bb), .val (.ref b192), .val (.double (own_fin p2 (own_ap (own_B bt0 bt1 bt2 bt3 bt4 bt5) ln.toNatClampNeg).2)), .second, .val (.int bt0), .val (.int (bt0 + bt1)), .val (.int ((bt0 + bt1) + bt2)), .val (.int (((bt0 + bt1) + bt2) + bt3)), .val (.int ((((bt0 + bt1) + bt2) + bt3) + bt4)), .val (.int (((((bt0 + bt1) + bt2) + bt3) + bt4) + bt5)), .val (.double (FP.dadd (own_ap (own_B bt0 bt1 bt2 bt3 bt4 bt5) 5).2 (FP.ddiv (FP.i2d (((((bt0 + bt1) + bt2) + bt3) + bt4) + bt5)) (4618441417868443648 : UInt64)))), .second, .unset, .unset]) rfl ?_
        exact k
    · skip
      have ohc214 : ¬ (bt5.toInt = 1) := own_neq.mp hc214
      refine ⟨(own_ap (own_B bt0 bt1 bt2 bt3 bt4 bt5) 5).2, ?_, fun t k => pre215 t ?_⟩
      · exact own_s0_5 bt0 bt1 bt2 bt3 bt4 bt5 ohc214
      · skip
        show Steps p.tables e below (T196.setTop (mkF m 332 #[.val (.int p0), .val (.int p1), .val (.int p2), .val (.int ln), .val (.int bt0), .val (.int bt1), .val (.int bt2), .val (.int bt3), .val (.int bt4), .val (.int bt5), .val (.ref bb), .val (.ref b192), .val (.double (own_fin p2 (own_ap (own_B bt0 bt1 bt2 bt3 bt4 bt5) ln.toNatClampNeg).2)), .second, .val (.int bt0), .val (.int (bt0 + bt1)), .val (.int ((bt0 + bt1) + bt2)), .val (.int (((bt0 + bt1) + bt2) + bt3)), .val (.int ((((bt0 + bt1) + bt2) + bt3) + bt4)), .val (.int (((((bt0 + bt1) + bt2) + bt3) + bt4) + bt5)), .val (.double (own_ap (own_B bt0 bt1 bt2 bt3 bt4 bt5) 5).2), .second, .unset, .unset] [(.int (1 : Int32)), (.int bt5)])) _
        refine XS.icmpYes X196.here hx rfl (pc0 := 332) (pc' := 347) rfl (hb hby at_332) rfl (feq hc214).2 (by decide) (by decide) ?_
        exact k
  obtain ⟨dv, rfl, pre216⟩ : ∃ (dv : UInt64), (dv = own_fin p2 (own_ap (own_B bt0 bt1 bt2 bt3 bt4 bt5) 6).2) ∧ ∀ t, Steps p.tables e below (T196.setTop (mkF m 360 #[.val (.int p0), .val (.int p1), .val (.int p2), .val (.int ln), .val (.int bt0), .val (.int bt1), .val (.int bt2), .val (.int bt3), .val (.int bt4), .val (.int bt5), .val (.ref bb), .val (.ref b192), .val (.double (own_fin p2 (own_ap (own_B bt0 bt1 bt2 bt3 bt4 bt5) ln.toNatClampNeg).2)), .second, .val (.int bt0), .val (.int (bt0 + bt1)), .val (.int ((bt0 + bt1) + bt2)), .val (.int (((bt0 + bt1) + bt2) + bt3)), .val (.int ((((bt0 + bt1) + bt2) + bt3) + bt4)), .val (.int (((((bt0 + bt1) + bt2) + bt3) + bt4) + bt5)), .val (.double (own_ap (own_B bt0 bt1 bt2 bt3 bt4 bt5) 6).2), .second, .unset, .unset] [(.double dv)])) t → Steps p.tables e below (s₁.setTop (mkF m 0 #[.val (.int p0), .val (.int p1), .val (.int p2), .unset, .unset, .unset, .unset, .unset, .unset, .unset, .unset, .unset, .unset, .unset, .unset, .unset, .unset, .unset, .unset, .unset, .unset, .unset, .unset, .unset] [])) t := by
    have pre218 : ∀ t, Steps p.tables e below (T196.setTop (mkF m 348 #[.val (.int p0), .val (.int p1), .val (.int p2), .val (.int ln), .val (.int bt0), .val (.int bt1), .val (.int bt2), .val (.int bt3), .val (.int bt4), .val (.int bt5), .val (.ref bb), .val (.ref b192), .val (.double (own_fin p2 (own_ap (own_B bt0 bt1 bt2 bt3 bt4 bt5) ln.toNatClampNeg).2)), .second, .val (.int bt0), .val (.int (bt0 + bt1)), .val (.int ((bt0 + bt1) + bt2)), .val (.int (((bt0 + bt1) + bt2) + bt3)), .val (.int ((((bt0 + bt1) + bt2) + bt3) + bt4)), .val (.int (((((bt0 + bt1) + bt2) + bt3) + bt4) + bt5)), .val (.double (own_ap (own_B bt0 bt1 bt2 bt3 bt4 bt5) 6).2), .second, .unset, .unset] [(.int p2)])) t → Steps p.tables e below (s₁.setTop (mkF m 0 #[.val (.int p0), .val (.int p1), .val (.int p2), .unset, .unset, .unset, .unset, .unset, .unset, .unset, .unset, .unset, .unset, .unset, .unset, .unset, .unset, .unset, .unset, .unset, .unset, .unset, .unset, .unset] [])) t := fun t k => pre213 t (by
      show Steps p.tables e below (T196.setTop (mkF m 347 #[.val (.int p0), .val (.int p1), .val (.int p2), .val (.int ln), .val (.int bt0), .val (.int bt1), .val (.int bt2), .val (.int bt3), .val (.int bt4), .val (.int bt5), .val (.ref bb), .val (.ref b192), .val (.double (own_fin p2 (own_ap (own_B bt0 bt1 bt2 bt3 bt4 bt5) ln.toNatClampNeg).2)), .second, .val (.int bt0), .val (.int (bt0 + bt1)), .val (.int ((bt0 + bt1) + bt2)), .val (.int (((bt0 + bt1) + bt2) + bt3)), .val (.int ((((bt0 + bt1) + bt2) + bt3) + bt4)), .val (.int (((((bt0 + bt1) + bt2) + bt3) + bt4) + bt5)), .val (.double (own_ap (own_B bt0 bt1 bt2 bt3 bt4 bt5) 6).2), .second, .unset, .unset] [])) _
      refine XS.iloadN X196.here hx rfl (hb hby at_347) rfl ?_
      exact k)
    by_cases hc217 : p2 = (0 : Int32)
    · skip
      have ohc217 : p2.toInt = 0 := own_eq.mp hc217
      refine ⟨FP.dconst0, ?_, fun t k => pre218 t ?_⟩
      · exact (own_fin0 hc217).symm
      · skip
        show Steps p.tables e below (T196.setTop (mkF m 348 #[.val (.int p0), .val (.int p1), .val (.int p2), .val (.int ln), .val (.int bt0), .val (.int bt1), .val (.int bt2), .val (.int bt3), .val (.int bt4), .val (.int bt5), .val (.ref bb), .val (.ref b192), .val (.double (own_fin p2 (own_ap (own_B bt0 bt1 bt2 bt3 bt4 bt5) ln.toNatClampNeg).2)), .second, .val (.int bt0), .val (.int (bt0 + bt1)), .val (.int ((bt0 + bt1) + bt2)), .val (.int (((bt0 + bt1) + bt2) + bt3)), .val (.int ((((bt0 + bt1) + bt2) + bt3) + bt4)), .val (.int (((((bt0 + bt1) + bt2) + bt3) + bt4) + bt5)), .val (.double (own_ap (own_B bt0 bt1 bt2 bt3 bt4 bt5) 6).2), .second, .unset, .unset] [(.int p2)])) _
        refine XS.ifNo X196.here hx rfl (hb hby at_348) rfl ((if0 _ _).trans (teq hc217).2) ?_
        show Steps p.tables e below (T196.setTop (mkF m 351 #[.val (.int p0), .val (.int p1), .val (.int p2), .val (.int ln), .val (.int bt0), .val (.int bt1), .val (.int bt2), .val (.int bt3), .val (.int bt4), .val (.int bt5), .val (.ref bb), .val (.ref b192), .val (.double (own_fin p2 (own_ap (own_B bt0 bt1 bt2 bt3 bt4 bt5) ln.toNatClampNeg).2)), .second, .val (.int bt0), .val (.int (bt0 + bt1)), .val (.int ((bt0 + bt1) + bt2)), .val (.int (((bt0 + bt1) + bt2) + bt3)), .val (.int ((((bt0 + bt1) + bt2) + bt3) + bt4)), .val (.int (((((bt0 + bt1) + bt2) + bt3) + bt4) + bt5)), .val (.double (own_ap (own_B bt0 bt1 bt2 bt3 bt4 bt5) 6).2), .second, .unset, .unset] [])) _
        refine XS.dconst0 X196.here hx rfl (hb hby at_351) rfl ?_
        show Steps p.tables e below (T196.setTop (mkF m 352 #[.val (.int p0), .val (.int p1), .val (.int p2), .val (.int ln), .val (.int bt0), .val (.int bt1), .val (.int bt2), .val (.int bt3), .val (.int bt4), .val (.int bt5), .val (.ref bb), .val (.ref b192), .val (.double (own_fin p2 (own_ap (own_B bt0 bt1 bt2 bt3 bt4 bt5) ln.toNatClampNeg).2)), .second, .val (.int bt0), .val (.int (bt0 + bt1)), .val (.int ((bt0 + bt1) + bt2)), .val (.int (((bt0 + bt1) + bt2) + bt3)), .val (.int ((((bt0 + bt1) + bt2) + bt3) + bt4)), .val (.int (((((bt0 + bt1) + bt2) + bt3) + bt4) + bt5)), .val (.double (own_ap (own_B bt0 bt1 bt2 bt3 bt4 bt5) 6).2), .second, .unset, .unset] [(.double FP.dconst0)])) _
        refine XS.goto X196.here hx rfl (pc0 := 352) (pc' := 360) rfl (hb hby at_352) (by decide) (by decide) ?_
        exact k
    · skip
      have ohc217 : ¬ (p2.toInt = 0) := own_neq.mp hc217
      refine ⟨(FP.ddiv (own_ap (own_B bt0 bt1 bt2 bt3 bt4 bt5) 6).2 (FP.i2d p2)), ?_, fun t k => pre218 t ?_⟩
      · exact (own_fin1 hc217).symm
      · skip
        show Steps p.tables e below (T196.setTop (mkF m 348 #[.val (.int p0), .val (.int p1), .val (.int p2), .val (.int ln), .val (.int bt0), .val (.int bt1), .val (.int bt2), .val (.int bt3), .val (.int bt4), .val (.int bt5), .val (.ref bb), .val (.ref b192), .val (.double (own_fin p2 (own_ap (own_B bt0 bt1 bt2 bt3 bt4 bt5) ln.toNatClampNeg).2)), .second, .val (.int bt0), .val (.int (bt0 + bt1)), .val (.int ((bt0 + bt1) + bt2)), .val (.int (((bt0 + bt1) + bt2) + bt3)), .val (.int ((((bt0 + bt1) + bt2) + bt3) + bt4)), .val (.int (((((bt0 + bt1) + bt2) + bt3) + bt4) + bt5)), .val (.double (own_ap (own_B bt0 bt1 bt2 bt3 bt4 bt5) 6).2), .second, .unset, .unset] [(.int p2)])) _
        refine XS.ifYes X196.here hx rfl (pc0 := 348) (pc' := 355) rfl (hb hby at_348) rfl ((if0 _ _).trans (feq hc217).2) (by decide) (by decide) ?_
        show Steps p.tables e below (T196.setTop (mkF m 355 #[.val (.int p0), .val (.int p1), .val (.int p2), .val (.int ln), .val (.int bt0), .val (.int bt1), .val (.int bt2), .val (.int bt3), .val (.int bt4), .val (.int bt5), .val (.ref bb), .val (.ref b192), .val (.double (own_fin p2 (own_ap (own_B bt0 bt1 bt2 bt3 bt4 bt5) ln.toNatClampNeg).2)), .second, .val (.int bt0), .val (.int (bt0 + bt1)), .val (.int ((bt0 + bt1) + bt2)), .val (.int (((bt0 + bt1) + bt2) + bt3)), .val (.int ((((bt0 + bt1) + bt2) + bt3) + bt4)), .val (.int (((((bt0 + bt1) + bt2) + bt3) + bt4) + bt5)), .val (.double (own_ap (own_B bt0 bt1 bt2 bt3 bt4 bt5) 6).2), .second, .unset, .unset] [])) _
        refine XS.dload X196.here hx rfl (hb hby at_355) rfl ?_
        show Steps p.tables e below (T196.setTop (mkF m 357 #[.val (.int p0), .val (.int p1), .val (.int p2), .val (.int ln), .val (.int bt0), .val (.int bt1), .val (.int bt2), .val (.int bt3), .val (.int bt4), .val (.int bt5), .val (.ref bb), .val (.ref b192), .val (.double (own_fin p2 (own_ap (own_B bt0 bt1 bt2 bt3 bt4 bt5) ln.toNatClampNeg).2)), .second, .val (.int bt0), .val (.int (bt0 + bt1)), .val (.int ((bt0 + bt1) + bt2)), .val (.int (((bt0 + bt1) + bt2) + bt3)), .val (.int ((((bt0 + bt1) + bt2) + bt3) + bt4)), .val (.int (((((bt0 + bt1) + bt2) + bt3) + bt4) + bt5)), .val (.double (own_ap (own_B bt0 bt1 bt2 bt3 bt4 bt5) 6).2), .second, .unset, .unset] [(.double (own_ap (own_B bt0 bt1 bt2 bt3 bt4 bt5) 6).2)])) _
        refine XS.iloadN X196.here hx rfl (hb hby at_357) rfl ?_
        show Steps p.tables e below (T196.setTop (mkF m 358 #[.val (.int p0), .val (.int p1), .val (.int p2), .val (.int ln), .val (.int bt0), .val (.int bt1), .val (.int bt2), .val (.int bt3), .val (.int bt4), .val (.int bt5), .val (.ref bb), .val (.ref b192), .val (.double (own_fin p2 (own_ap (own_B bt0 bt1 bt2 bt3 bt4 bt5) ln.toNatClampNeg).2)), .second, .val (.int bt0), .val (.int (bt0 + bt1)), .val (.int ((bt0 + bt1) + bt2)), .val (.int (((bt0 + bt1) + bt2) + bt3)), .val (.int ((((bt0 + bt1) + bt2) + bt3) + bt4)), .val (.int (((((bt0 + bt1) + bt2) + bt3) + bt4) + bt5)), .val (.double (own_ap (own_B bt0 bt1 bt2 bt3 bt4 bt5) 6).2), .second, .unset, .unset] [(.int p2), (.double (own_ap (own_B bt0 bt1 bt2 bt3 bt4 bt5) 6).2)])) _
        refine XS.i2dS X196.here hx rfl (hb hby at_358) rfl rfl ?_
        show Steps p.tables e below (T196.setTop (mkF m 359 #[.val (.int p0), .val (.int p1), .val (.int p2), .val (.int ln), .val (.int bt0), .val (.int bt1), .val (.int bt2), .val (.int bt3), .val (.int bt4), .val (.int bt5), .val (.ref bb), .val (.ref b192), .val (.double (own_fin p2 (own_ap (own_B bt0 bt1 bt2 bt3 bt4 bt5) ln.toNatClampNeg).2)), .second, .val (.int bt0), .val (.int (bt0 + bt1)), .val (.int ((bt0 + bt1) + bt2)), .val (.int (((bt0 + bt1) + bt2) + bt3)), .val (.int ((((bt0 + bt1) + bt2) + bt3) + bt4)), .val (.int (((((bt0 + bt1) + bt2) + bt3) + bt4) + bt5)), .val (.double (own_ap (own_B bt0 bt1 bt2 bt3 bt4 bt5) 6).2), .second, .unset, .unset] [(.double (FP.i2d p2)), (.double (own_ap (own_B bt0 bt1 bt2 bt3 bt4 bt5) 6).2)])) _
        refine XS.ddivS X196.here hx rfl (hb hby at_359) rfl (own_nf (own_apm (own_B bt0 bt1 bt2 bt3 bt4 bt5) 6) hc217 (by decide)) rfl ?_
        exact k
  have hc219 : (0 : Int32) = (0 : Int32) := by decide
  obtain ⟨fs, hr, hrun, hended, hW, hsame⟩ := X196.leave (v := some (.int (1 : Int32))) (fun h => by rw [Bd.returns] at h; cases h)
  refine ⟨_, _, pre0 _ (pre216 _ ?_), hrun, hended, _, _, rfl, ?_, ⟨_, rfl⟩, hW, hsame.mono (by decide) (by decide)⟩
  · skip
    show Steps p.tables e below (T196.setTop (mkF m 360 #[.val (.int p0), .val (.int p1), .val (.int p2), .val (.int ln), .val (.int bt0), .val (.int bt1), .val (.int bt2), .val (.int bt3), .val (.int bt4), .val (.int bt5), .val (.ref bb), .val (.ref b192), .val (.double (own_fin p2 (own_ap (own_B bt0 bt1 bt2 bt3 bt4 bt5) ln.toNatClampNeg).2)), .second, .val (.int bt0), .val (.int (bt0 + bt1)), .val (.int ((bt0 + bt1) + bt2)), .val (.int (((bt0 + bt1) + bt2) + bt3)), .val (.int ((((bt0 + bt1) + bt2) + bt3) + bt4)), .val (.int (((((bt0 + bt1) + bt2) + bt3) + bt4) + bt5)), .val (.double (own_ap (own_B bt0 bt1 bt2 bt3 bt4 bt5) 6).2), .second, .unset, .unset] [(.double (own_fin p2 (own_ap (own_B bt0 bt1 bt2 bt3 bt4 bt5) 6).2))])) _
    refine XS.dstore X196.here hx rfl (hb hby at_360) rfl (l' := #[.val (.int p0), .val (.int p1), .val (.int p2), .val (.int ln), .val (.int bt0), .val (.int bt1), .val (.int bt2), .val (.int bt3), .val (.int bt4), .val (.int bt5), .val (.ref bb), .val (.ref b192), .val (.double (own_fin p2 (own_ap (own_B bt0 bt1 bt2 bt3 bt4 bt5) ln.toNatClampNeg).2)), .second, .val (.int bt0), .val (.int (bt0 + bt1)), .val (.int ((bt0 + bt1) + bt2)), .val (.int (((bt0 + bt1) + bt2) + bt3)), .val (.int ((((bt0 + bt1) + bt2) + bt3) + bt4)), .val (.int (((((bt0 + bt1) + bt2) + bt3) + bt4) + bt5)), .val (.double (own_ap (own_B bt0 bt1 bt2 bt3 bt4 bt5) 6).2), .second, .val (.double (own_fin p2 (own_ap (own_B bt0 bt1 bt2 bt3 bt4 bt5) 6).2)), .second]) rfl ?_
    show Steps p.tables e below (T196.setTop (mkF m 362 #[.val (.int p0), .val (.int p1), .val (.int p2), .val (.int ln), .val (.int bt0), .val (.int bt1), .val (.int bt2), .val (.int bt3), .val (.int bt4), .val (.int bt5), .val (.ref bb), .val (.ref b192), .val (.double (own_fin p2 (own_ap (own_B bt0 bt1 bt2 bt3 bt4 bt5) ln.toNatClampNeg).2)), .second, .val (.int bt0), .val (.int (bt0 + bt1)), .val (.int ((bt0 + bt1) + bt2)), .val (.int (((bt0 + bt1) + bt2) + bt3)), .val (.int ((((bt0 + bt1) + bt2) + bt3) + bt4)), .val (.int (((((bt0 + bt1) + bt2) + bt3) + bt4) + bt5)), .val (.double (own_ap (own_B bt0 bt1 bt2 bt3 bt4 bt5) 6).2), .second, .val (.double (own_fin p2 (own_ap (own_B bt0 bt1 bt2 bt3 bt4 bt5) 6).2)), .second] [])) _
    refine XS.dload X196.here hx rfl (hb hby at_362) rfl ?_
    show Steps p.tables e below (T196.setTop (mkF m 364 #[.val (.int p0), .val (.int p1), .val (.int p2), .val (.int ln), .val (.int bt0), .val (.int bt1), .val (.int bt2), .val (.int bt3), .val (.int bt4), .val (.int bt5), .val (.ref bb), .val (.ref b192), .val (.double (own_fin p2 (own_ap (own_B bt0 bt1 bt2 bt3 bt4 bt5) ln.toNatClampNeg).2)), .second, .val (.int bt0), .val (.int (bt0 + bt1)), .val (.int ((bt0 + bt1) + bt2)), .val (.int (((bt0 + bt1) + bt2) + bt3)), .val (.int ((((bt0 + bt1) + bt2) + bt3) + bt4)), .val (.int (((((bt0 + bt1) + bt2) + bt3) + bt4) + bt5)), .val (.double (own_ap (own_B bt0 bt1 bt2 bt3 bt4 bt5) 6).2), .second, .val (.double (own_fin p2 (own_ap (own_B bt0 bt1 bt2 bt3 bt4 bt5) 6).2)), .second] [(.double (own_fin p2 (own_ap (own_B bt0 bt1 bt2 bt3 bt4 bt5) ln.toNatClampNeg).2))])) _
    refine XS.dload X196.here hx rfl (hb hby at_364) rfl ?_
    show Steps p.tables e below (T196.setTop (mkF m 366 #[.val (.int p0), .val (.int p1), .val (.int p2), .val (.int ln), .val (.int bt0), .val (.int bt1), .val (.int bt2), .val (.int bt3), .val (.int bt4), .val (.int bt5), .val (.ref bb), .val (.ref b192), .val (.double (own_fin p2 (own_ap (own_B bt0 bt1 bt2 bt3 bt4 bt5) ln.toNatClampNeg).2)), .second, .val (.int bt0), .val (.int (bt0 + bt1)), .val (.int ((bt0 + bt1) + bt2)), .val (.int (((bt0 + bt1) + bt2) + bt3)), .val (.int ((((bt0 + bt1) + bt2) + bt3) + bt4)), .val (.int (((((bt0 + bt1) + bt2) + bt3) + bt4) + bt5)), .val (.double (own_ap (own_B bt0 bt1 bt2 bt3 bt4 bt5) 6).2), .second, .val (.double (own_fin p2 (own_ap (own_B bt0 bt1 bt2 bt3 bt4 bt5) 6).2)), .second] [(.double (own_fin p2 (own_ap (own_B bt0 bt1 bt2 bt3 bt4 bt5) 6).2)), (.double (own_fin p2 (own_ap (own_B bt0 bt1 bt2 bt3 bt4 bt5) ln.toNatClampNeg).2))])) _
    refine XS.dcmpS X196.here hx rfl (hb hby at_366) rfl (dcmpV_eq (by rw [own_all ln (by omega) (by omega) (by omega) (by omega) (by omega) (by omega) (by omega)]) (own_ff p2 (own_apm _ ln.toNatClampNeg (by have q := own_cl ln (by omega); omega)) (by have q := own_cl ln (by omega); omega)) .l) ?_
    show Steps p.tables e below (T196.setTop (mkF m 367 #[.val (.int p0), .val (.int p1), .val (.int p2), .val (.int ln), .val (.int bt0), .val (.int bt1), .val (.int bt2), .val (.int bt3), .val (.int bt4), .val (.int bt5), .val (.ref bb), .val (.ref b192), .val (.double (own_fin p2 (own_ap (own_B bt0 bt1 bt2 bt3 bt4 bt5) ln.toNatClampNeg).2)), .second, .val (.int bt0), .val (.int (bt0 + bt1)), .val (.int ((bt0 + bt1) + bt2)), .val (.int (((bt0 + bt1) + bt2) + bt3)), .val (.int ((((bt0 + bt1) + bt2) + bt3) + bt4)), .val (.int (((((bt0 + bt1) + bt2) + bt3) + bt4) + bt5)), .val (.double (own_ap (own_B bt0 bt1 bt2 bt3 bt4 bt5) 6).2), .second, .val (.double (own_fin p2 (own_ap (own_B bt0 bt1 bt2 bt3 bt4 bt5) 6).2)), .second] [(.int (0 : Int32))])) _
    refine XS.ifNo X196.here hx rfl (hb hby at_367) rfl ((if0 _ _).trans (teq hc219).2) ?_
    show Steps p.tables e below (T196.setTop (mkF m 370 #[.val (.int p0), .val (.int p1), .val (.int p2), .val (.int ln), .val (.int bt0), .val (.int bt1), .val (.int bt2), .val (.int bt3), .val (.int bt4), .val (.int bt5), .val (.ref bb), .val (.ref b192), .val (.double (own_fin p2 (own_ap (own_B bt0 bt1 bt2 bt3 bt4 bt5) ln.toNatClampNeg).2)), .second, .val (.int bt0), .val (.int (bt0 + bt1)), .val (.int ((bt0 + bt1) + bt2)), .val (.int (((bt0 + bt1) + bt2) + bt3)), .val (.int ((((bt0 + bt1) + bt2) + bt3) + bt4)), .val (.int (((((bt0 + bt1) + bt2) + bt3) + bt4) + bt5)), .val (.double (own_ap (own_B bt0 bt1 bt2 bt3 bt4 bt5) 6).2), .second, .val (.double (own_fin p2 (own_ap (own_B bt0 bt1 bt2 bt3 bt4 bt5) 6).2)), .second] [])) _
    refine XS.iconst X196.here hx rfl (hb hby at_370) ?_
    show Steps p.tables e below (T196.setTop (mkF m 371 #[.val (.int p0), .val (.int p1), .val (.int p2), .val (.int ln), .val (.int bt0), .val (.int bt1), .val (.int bt2), .val (.int bt3), .val (.int bt4), .val (.int bt5), .val (.ref bb), .val (.ref b192), .val (.double (own_fin p2 (own_ap (own_B bt0 bt1 bt2 bt3 bt4 bt5) ln.toNatClampNeg).2)), .second, .val (.int bt0), .val (.int (bt0 + bt1)), .val (.int ((bt0 + bt1) + bt2)), .val (.int (((bt0 + bt1) + bt2) + bt3)), .val (.int ((((bt0 + bt1) + bt2) + bt3) + bt4)), .val (.int (((((bt0 + bt1) + bt2) + bt3) + bt4) + bt5)), .val (.double (own_ap (own_B bt0 bt1 bt2 bt3 bt4 bt5) 6).2), .second, .val (.double (own_fin p2 (own_ap (own_B bt0 bt1 bt2 bt3 bt4 bt5) 6).2)), .second] [(.int (1 : Int32))])) _
    refine XS.goto X196.here hx rfl (pc0 := 371) (pc' := 375) rfl (hb hby at_371) (by decide) (by decide) ?_
    show Steps p.tables e below (T196.setTop (mkF m 375 #[.val (.int p0), .val (.int p1), .val (.int p2), .val (.int ln), .val (.int bt0), .val (.int bt1), .val (.int bt2), .val (.int bt3), .val (.int bt4), .val (.int bt5), .val (.ref bb), .val (.ref b192), .val (.double (own_fin p2 (own_ap (own_B bt0 bt1 bt2 bt3 bt4 bt5) ln.toNatClampNeg).2)), .second, .val (.int bt0), .val (.int (bt0 + bt1)), .val (.int ((bt0 + bt1) + bt2)), .val (.int (((bt0 + bt1) + bt2) + bt3)), .val (.int ((((bt0 + bt1) + bt2) + bt3) + bt4)), .val (.int (((((bt0 + bt1) + bt2) + bt3) + bt4) + bt5)), .val (.double (own_ap (own_B bt0 bt1 bt2 bt3 bt4 bt5) 6).2), .second, .val (.double (own_fin p2 (own_ap (own_B bt0 bt1 bt2 bt3 bt4 bt5) 6).2)), .second] [(.int (1 : Int32))])) _
    exact retN X196 hx (t := .boolean) Bd.returns (by simp) (hb hby at_375) hr
  · show Q0 Z p0 p1 p2 h0 n0 _ T196.heap _
    rw [e196]
    exact ⟨rfl, N196⟩
set_option maxRecDepth 65536 in
set_option maxHeartbeats 40000000 in
theorem comes_1 {Post : Tables → Env → Array Value → State → Outcome → State → Prop} (hpost : ∀ tb e args s v u, (limb_1_1.after args s (.returned v) u = true ∧ limb_1_2.after args s (.returned v) u = true ∧ True) → FrameEnd s (.returned v) u (Jvm.fieldLocs frame_1_writes args s ++ Jvm.arrayLocs frame_1_arrays args s ++ Jvm.staticLocs frame_1_statics s) 16 128 → Post tb e args s (.returned v) u) :
    ArmFor flags0 classFile x code maxLocals ret World_1 tables_1 room_1 Calls_1 rest_1 Pre_1 Post := by
  intro l hfl _ _ p e ha hc hk s m args below hf hA hF happ hP
  obtain ⟨hcalls, hrest, hpre⟩ := hP
  obtain ⟨-, -, -, hnamed, -, -, -, hat⟩ := (Spec.applies_iff hf).mp happ
  obtain ⟨hg, hn⟩ := and_e (Cond.before_iff.mp (show (Jvm.Cond.and given_1 narrow_1).before args s = true from hpre))
  obtain ⟨g1, g2⟩ := and_e hg
  obtain ⟨g3, g4⟩ := and_e g2
  obtain ⟨g5, g6⟩ := and_e g4
  obtain ⟨w0, w1, w2, rfl⟩ : ∃ w0 w1 w2 : Value, args = #[w0, w1, w2] := by
    have hs : args.size = 3 := by simpa [Cond.value, given_1] using g1
    obtain ⟨L⟩ := args
    match L, hs with
    | [w0, w1, w2], _ => exact ⟨w0, w1, w2, rfl⟩
  have hw := fun d (hd : d ∈ tables_1) => atoms_spec (ws := Jvm.Cond.code x code maxLocals ret :: tables_1) hat d (List.mem_cons_of_mem _ hd)
  have hfit : Fit s := fun {y c} hc i hi => by
    obtain ⟨ha, rfl⟩ := Array.getElem?_eq_some_iff.mp hc
    have q := List.all_eq_true.mp ((Array.all_eq_true_iff_forall_mem.mp hF) _ (Array.getElem_mem ha)) i (List.mem_range.mpr hi)
    simpa [Array.getElem?_eq_getElem hi] using q
  obtain ⟨i0, ei0⟩ := is_v g3
  obtain rfl : w0 = (.int i0) := Option.some.inj ei0
  obtain ⟨i1, ei1⟩ := is_v g5
  obtain rfl : w1 = (.int i1) := Option.some.inj ei1
  obtain ⟨i2, ei2⟩ := is_v g6
  obtain rfl : w2 = (.int i2) := Option.some.inj ei2
  obtain ⟨n, o, h1, h2, h3, _, L, rfl, ⟨rfl, N⟩, hq⟩ := rm0 l s _ hw tables_1 i0 i1 i2  s.heap s.heap.size (Nat.le_refl _)  p e ha hc hk s m _ below hf ((Spec.applies_iff_loose hf).mp happ).1 ⟨rfl, State.Warmed39.refl s, rfl⟩ trivial
  refine ⟨n, _, h1, h2, h3, hpost _ _ _ _ _ _ ⟨Cond.after_iff.mpr rfl, Cond.after_iff.mpr (eq_i res_at (Term.int_eval (1)) rfl), trivial⟩ ⟨hq.1, hq.2.1, (hq.2.2.sift fun y hy => Or.inr (N y hy)).mono (by decide) (by decide)⟩⟩
theorem main_1_1 : Claimed_1_1 := comes_1 fun _ _ _ _ _ _ h hF => ⟨h.1, hF⟩
theorem main_1_2 : Claimed_1_2 := comes_1 fun _ _ _ _ _ _ h hF => ⟨h.2.1, hF⟩
end Jvm.Pilot.@@N@@
namespace Jvm.Pilot.@@N@@
open Jvm Jvm.ClassFile Sem Op Lib Jvm.Free Jvm.Stand Jvm.Pilot.@@N@@.Jvm.D
/-! MADE BY PROGRAM (witnessworld.py) out of the Statement's table words and the real class files: 11 classes; the members and pool entries that the words name. The judged class is class 1, her method 2. -/
namespace start1
open Jvm.ClassFile
def u (s : String) : CpInfo := .utf8 (stringToUtf16 s)
/-- a pool by its gaps: so many unusable entries, then the entry; so many at the end -/
def gap : Nat → List CpInfo → List CpInfo
  | 0, r => r
  | n + 1, r => .unusable :: gap n r
def poolList (es : List (Nat × CpInfo)) (last : Nat) : List CpInfo := es.foldr (fun e r => gap e.1 (e.2 :: r)) (gap last [])
def pool (es : List (Nat × CpInfo)) (last : Nat) : Array CpInfo := ⟨poolList es last⟩
def fileOf (pool : Array CpInfo) (this : Nat) (attrs : Array Attribute := #[]) (ms : Array MethodInfo := #[]) (fl : Nat := 33) (sup : Nat := 0) (ifs : Array Nat := #[]) (fds : Array FieldInfo := #[]) : ClassFile where
  minorVersion := 0
  majorVersion := 65
  constantPool := pool
  accessFlags := fl
  thisClass := this
  superClass := sup
  interfaces := ifs
  fields := fds
  methods := ms
  attributes := attrs
def plain (name : String) (sup : Option ClassId) : Class where
  name := name
  kind := .ordinary
  loader := none
  accessFlags := 33
  super := sup
  interfaces := #[]
  cf := none
  fields := #[]
  methods := #[]
  instanceTypes := #[]
  staticTypes := #[]
  resolved := #[]
  callSites := []
  init := .initialized
  statics := none
  mirror := none

def pool0 : Array CpInfo := pool [(5, u "<init>"), (0, u "()V"), (1, .class_ 10), (1, u "java/lang/Object")] 113

def k0c0 : Code := { maxStack := 0, maxLocals := 1, code := object_method_1_code, exceptionTable := #[], attributes := #[] }
def k0m0 : Method := { name := "<init>", desc := "()V", sig := { parameters := [], returnType := none }, accessFlags := 1, code := some k0c0 }
/-- java/lang/Object -/
def k0 : Class := { plain "java/lang/Object" none with
  accessFlags := 33
  interfaces := #[]
  cf := some (fileOf pool0 8 #[] #[{ accessFlags := 1, nameIndex := 5, descriptorIndex := 6, attributes := #[] }] 33 0 #[] #[])
  fields := #[]
  methods := #[k0m0]
  instanceTypes := #[]
  staticTypes := #[]
  resolved := Array.replicate 124 none
  statics := none }

def pool1 : Array CpInfo := pool [(2, .class_ 4), (1, u "java/lang/Object"), (0, u "<init>"), (0, u "()V"), (0, .integer 2147483647), (0, .methodref 9 10), (0, .class_ 11), (0, .nameAndType 12 13), (0, u "com/example/cranfield/cranfield/eval/RankedTopicAveragePrecisionPinLaw"), (0, u "bit"), (0, u "(III)I"), (0, .class_ 15), (0, u "com/example/cranfield/cranfield/eval/RankedTopic"), (0, .methodref 14 17), (0, .nameAndType 5 18), (0, u "([ZI)V"), (0, .methodref 14 20), (0, .nameAndType 21 22), (0, u "averagePrecision"), (0, u "()D"), (0, .double 4611686018427387904), (1, .double 4613937818241073152), (1, .double 4616189618054758400), (1, .double 4617315517961601024), (1, .double 4618441417868443648), (4, u "law"), (0, u "(III)Z")] 4

def k1m0 : Method := { name := "<init>", desc := "()V", sig := { parameters := [], returnType := none }, accessFlags := 1, code := none }
def k1c1 : Code := { maxStack := 2, maxLocals := 3, code := method_2_code, exceptionTable := #[], attributes := #[] }
def k1m1 : Method := { name := "bit", desc := "(III)I", sig := { parameters := [.int, .int, .int], returnType := some .int }, accessFlags := 10, code := some k1c1 }
def k1c2 : Code := { maxStack := 6, maxLocals := 24, code := code, exceptionTable := #[], attributes := #[] }
def k1m2 : Method := { name := "law", desc := "(III)Z", sig := { parameters := [.int, .int, .int], returnType := some .boolean }, accessFlags := 9, code := some k1c2 }
/-- com/example/cranfield/cranfield/eval/RankedTopicAveragePrecisionPinLaw -/
def k1 : Class := { plain "com/example/cranfield/cranfield/eval/RankedTopicAveragePrecisionPinLaw" (some 0) with
  accessFlags := 49
  interfaces := #[]
  cf := some (fileOf pool1 9 #[] #[{ accessFlags := 1, nameIndex := 5, descriptorIndex := 6, attributes := #[] }, { accessFlags := 10, nameIndex := 12, descriptorIndex := 13, attributes := #[] }, { accessFlags := 9, nameIndex := 36, descriptorIndex := 37, attributes := #[] }] 49 2 #[] #[])
  fields := #[]
  methods := #[k1m0, k1m1, k1m2]
  instanceTypes := #[]
  staticTypes := #[]
  resolved := Array.replicate 42 none
  statics := none }

def pool2 : Array CpInfo := pool [(1, .methodref 2 3), (0, .class_ 4), (0, .nameAndType 5 6), (0, u "java/lang/Object"), (0, u "<init>"), (0, u "()V"), (0, .fieldref 8 9), (0, .class_ 10), (0, .nameAndType 11 12), (0, u "com/example/cranfield/cranfield/eval/RankedTopic"), (0, u "relevant"), (0, u "[Z"), (0, .fieldref 8 14), (0, .nameAndType 15 16), (0, u "relevantCount"), (0, u "I"), (22, u "([ZI)V"), (6, u "()D"), (1, u "averagePrecision")] 4

def k2c0 : Code := { maxStack := 2, maxLocals := 3, code := prog_20_method_1_code, exceptionTable := #[], attributes := #[] }
def k2m0 : Method := { name := "<init>", desc := "([ZI)V", sig := { parameters := [(.array .boolean), .int], returnType := none }, accessFlags := 0, code := some k2c0 }
def k2c1 : Code := { maxStack := 6, maxLocals := 5, code := prog_20_method_7_code, exceptionTable := #[], attributes := #[] }
def k2m1 : Method := { name := "averagePrecision", desc := "()D", sig := { parameters := [], returnType := some .double }, accessFlags := 0, code := some k2c1 }
/-- com/example/cranfield/cranfield/eval/RankedTopic -/
def k2 : Class := { plain "com/example/cranfield/cranfield/eval/RankedTopic" (some 0) with
  accessFlags := 32
  interfaces := #[]
  cf := some (fileOf pool2 8 #[] #[{ accessFlags := 0, nameIndex := 5, descriptorIndex := 39, attributes := #[] }, { accessFlags := 0, nameIndex := 48, descriptorIndex := 46, attributes := #[] }] 32 2 #[] #[{ accessFlags := 18, nameIndex := 11, descriptorIndex := 12, attributes := #[] }, { accessFlags := 18, nameIndex := 15, descriptorIndex := 16, attributes := #[] }])
  fields := #[{ name := "relevant", type := (.array .boolean), accessFlags := 18, slot := 0, constantValue := 0 }, { name := "relevantCount", type := .int, accessFlags := 18, slot := 1, constantValue := 0 }]
  methods := #[k2m0, k2m1]
  instanceTypes := #[(.array .boolean), .int]
  staticTypes := #[]
  resolved := Array.replicate 53 none
  statics := none }

def pool3 : Array CpInfo := pool [(1, u "java/lang/Cloneable"), (0, .class_ 1), (0, u "java/lang/Object"), (0, .class_ 3)] 3

/-- java/lang/Cloneable -/
def k3 : Class := { plain "java/lang/Cloneable" (some 0) with
  accessFlags := 1537
  interfaces := #[]
  cf := some (fileOf pool3 2 #[] #[] 1537 4 #[] #[])
  fields := #[]
  methods := #[]
  instanceTypes := #[]
  staticTypes := #[]
  resolved := Array.replicate 8 none
  statics := none }

def pool4 : Array CpInfo := pool [(1, u "java/io/Serializable"), (0, .class_ 1), (0, u "java/lang/Object"), (0, .class_ 3)] 3

/-- java/io/Serializable -/
def k4 : Class := { plain "java/io/Serializable" (some 0) with
  accessFlags := 1537
  interfaces := #[]
  cf := some (fileOf pool4 2 #[] #[] 1537 4 #[] #[])
  fields := #[]
  methods := #[]
  instanceTypes := #[]
  staticTypes := #[]
  resolved := Array.replicate 8 none
  statics := none }

/-- the primitive boolean -/
def k5 : Class := { plain "boolean" none with kind := .primitive 'Z', accessFlags := 0x411 }
/-- [Z -/
def k6 : Class := { plain "[Z" (some 0) with kind := .array 5 .boolean, interfaces := #[3, 4], accessFlags := 1041 }

/-- the primitive byte -/
def k7 : Class := { plain "byte" none with kind := .primitive 'B', accessFlags := 0x411 }
/-- [B -/
def k8 : Class := { plain "[B" (some 0) with kind := .array 7 .byte, interfaces := #[3, 4], accessFlags := 1041 }

/-- the primitive int -/
def k9 : Class := { plain "int" none with kind := .primitive 'I', accessFlags := 0x411 }
/-- [I -/
def k10 : Class := { plain "[I" (some 0) with kind := .array 9 .int, interfaces := #[3, 4], accessFlags := 1041 }

def heap : Heap := #[]
def classes : Array Class := #[k0, k1, k2, k3, k4, k5, k6, k7, k8, k9, k10]
def interned : List (Array UInt16 × Addr) := []
def slotsUsed : Nat := 0
def theMethod : MethodId := ⟨1, 2⟩
def args0 : Array Value := #[.int 5, .int 5, .int 5]
def aboutOver (below : List Frame) : State where
  vm := { classes := classes, interned := interned.toArray }
  heap := heap
  slotsUsed := slotsUsed
  threads := #[{ frames := .invoking theMethod args0 :: below }]
def below0 : List Frame := [.native { method := ⟨0, 0⟩, args := #[] }]
def about1 : State := aboutOver below0
def p0 : Program := .bare "" "" ""
def e0 : Env := launch0.env 0 0 0
theorem w_frames : about1.frames = Frame.invoking theMethod args0 :: below0 := rfl
set_option maxRecDepth 65536 in
theorem w_args : argsFit about1.vm theMethod args0 = true := by decide +kernel
set_option maxRecDepth 65536 in
theorem w_heap : heapFits about1 = true := by decide +kernel
set_option maxRecDepth 65536 in
theorem w_runnable : about1.curStatus? = some .runnable := by decide +kernel
set_option maxRecDepth 65536 in
theorem w_alone : about1.alone = true := by decide +kernel
set_option maxRecDepth 65536 in
theorem w_named : about1.methodNamed? x = some theMethod := by decide +kernel
set_option maxRecDepth 65536 in
theorem w_hears : about1.hears theMethod below0 = true := by decide +kernel
set_option maxRecDepth 65536 in
theorem w_ripe : about1.ripe theMethod args0 below0 = true := by decide +kernel
theorem w_running : about1.status = .running := rfl
set_option maxRecDepth 65536 in
theorem w_room : about1.hasRoom e0.platform room_1 = true :=
  launch0.hasRoom_least _ room_1 (by decide +kernel) (by decide +kernel) (by decide +kernel) (by decide +kernel) (by decide +kernel) (by decide +kernel)
theorem allAtoms_all (ts : List Jvm.Cond) (a : Array Jvm.Value) (st : Jvm.State) : (allAtoms ts).before a st = ts.all (fun c => c.before a st) := by
  induction ts with
  | nil => rfl
  | cons c t ih =>
    show (Jvm.Cond.and c (allAtoms t)).before a st = _
    rw [Jvm.Cond.before_and, ih, List.all_cons]
def words1 : List Jvm.Cond := Jvm.Cond.code x code maxLocals ret :: tables_1
/-- a 'code' word, met by the world's own term for the bytes: nothing is compared byte by byte -/
theorem code_word {y : MethodName} {bytes : ByteArray} {mx : Nat} {rt : Option FieldType} {a : Array Value} {s : State} {m : MethodId} {meth : Method} {c : Code} (h1 : s.methodNamed? y = some m) (h2 : s.vm.method? m = some meth) (h3 : meth.code = some c) (h4 : c.code = bytes)
    (h5 : (c.maxLocals == mx && c.exceptionTable.isEmpty && decide (c.maxStack ≤ mostOperands) && decide (meth.sig.returnType = rt) && !meth.locks && decide (parseMethodDescriptor y.desc = some meth.sig)) = true) : (Jvm.Cond.code y bytes mx rt).before a s = true := by
  simp only [Bool.and_eq_true, beq_iff_eq, Bool.not_eq_true', decide_eq_true_eq] at h5
  obtain ⟨⟨⟨⟨⟨g1, g2⟩, g3⟩, g4⟩, g5⟩, g6⟩ := h5
  simp [Cond.before, Cond.holds, Cond.value, h1, h2, h3, h4, g1, g2, g3, g4, g5, g6]
def isCode : Jvm.Cond → Bool
  | .code _ _ _ _ => true
  | _ => false
theorem all_split {L : List Jvm.Cond} {P : Jvm.Cond → Bool} (h1 : L.all (fun c => isCode c || P c) = true) (h2 : ∀ c ∈ L.filter isCode, P c = true) : L.all P = true := by
  refine List.all_eq_true.mpr fun c hc => ?_
  have h := List.all_eq_true.mp h1 c hc
  rcases Bool.eq_false_or_eq_true (isCode c) with hi | hi
  · exact h2 c (List.mem_filter.mpr ⟨hc, hi⟩)
  · simpa [hi] using h
set_option maxRecDepth 65536 in
theorem w_c0 : (Jvm.Cond.code x code maxLocals ret).before args0 about1 = true := code_word (m := ⟨1, 2⟩) (meth := k1m2) (c := k1c2) (by decide +kernel) rfl rfl rfl (by decide +kernel)
set_option maxRecDepth 65536 in
theorem w_c1 : (Jvm.Cond.code ({ cls := "com/example/cranfield/cranfield/eval/RankedTopicAveragePrecisionPinLaw", name := "bit", desc := "(III)I" } : Jvm.MethodName) method_2_code (3 : Nat) (Option.some Jvm.ClassFile.FieldType.int)).before args0 about1 = true := code_word (m := ⟨1, 1⟩) (meth := k1m1) (c := k1c1) (by decide +kernel) rfl rfl rfl (by decide +kernel)
set_option maxRecDepth 65536 in
theorem w_c2 : (Jvm.Cond.code ({ cls := "com/example/cranfield/cranfield/eval/RankedTopic", name := "<init>", desc := "([ZI)V" } : Jvm.MethodName) prog_20_method_1_code (3 : Nat) (Option.none : Option Jvm.ClassFile.FieldType)).before args0 about1 = true := code_word (m := ⟨2, 0⟩) (meth := k2m0) (c := k2c0) (by decide +kernel) rfl rfl rfl (by decide +kernel)
set_option maxRecDepth 65536 in
theorem w_c3 : (Jvm.Cond.code ({ cls := "java/lang/Object", name := "<init>", desc := "()V" } : Jvm.MethodName) object_method_1_code (1 : Nat) (Option.none : Option Jvm.ClassFile.FieldType)).before args0 about1 = true := code_word (m := ⟨0, 0⟩) (meth := k0m0) (c := k0c0) (by decide +kernel) rfl rfl rfl (by decide +kernel)
set_option maxRecDepth 65536 in
theorem w_c4 : (Jvm.Cond.code ({ cls := "com/example/cranfield/cranfield/eval/RankedTopic", name := "averagePrecision", desc := "()D" } : Jvm.MethodName) prog_20_method_7_code (5 : Nat) (Option.some Jvm.ClassFile.FieldType.double)).before args0 about1 = true := code_word (m := ⟨2, 1⟩) (meth := k2m1) (c := k2c1) (by decide +kernel) rfl rfl rfl (by decide +kernel)
def codes1 : List Jvm.Cond := [Jvm.Cond.code x code maxLocals ret, Jvm.Cond.code ({ cls := "com/example/cranfield/cranfield/eval/RankedTopicAveragePrecisionPinLaw", name := "bit", desc := "(III)I" } : Jvm.MethodName) method_2_code (3 : Nat) (Option.some Jvm.ClassFile.FieldType.int), Jvm.Cond.code ({ cls := "com/example/cranfield/cranfield/eval/RankedTopic", name := "<init>", desc := "([ZI)V" } : Jvm.MethodName) prog_20_method_1_code (3 : Nat) (Option.none : Option Jvm.ClassFile.FieldType), Jvm.Cond.code ({ cls := "java/lang/Object", name := "<init>", desc := "()V" } : Jvm.MethodName) object_method_1_code (1 : Nat) (Option.none : Option Jvm.ClassFile.FieldType), Jvm.Cond.code ({ cls := "com/example/cranfield/cranfield/eval/RankedTopic", name := "averagePrecision", desc := "()D" } : Jvm.MethodName) prog_20_method_7_code (5 : Nat) (Option.some Jvm.ClassFile.FieldType.double)]
set_option maxRecDepth 65536 in
theorem codes_eq : words1.filter isCode = codes1 := rfl
theorem w_codes : ∀ c ∈ words1.filter isCode, c.before args0 about1 = true := by
  rw [codes_eq]
  intro c hc
  simp only [codes1, List.mem_cons, List.not_mem_nil, or_false] at hc
  rcases hc with rfl | rfl | rfl | rfl | rfl
  · exact w_c0
  · exact w_c1
  · exact w_c2
  · exact w_c3
  · exact w_c4
set_option maxRecDepth 65536 in
theorem w_t1 : (words1.take 24).all (fun c => isCode c || c.before args0 about1) = true := by decide +kernel
set_option maxRecDepth 65536 in
theorem w_t2 : (words1.drop 24).all (fun c => isCode c || c.before args0 about1) = true := by decide +kernel
theorem w_tables : (allAtoms (Jvm.Cond.code x code maxLocals ret :: tables_1)).before args0 about1 = true := by
  rw [allAtoms_all]
  show words1.all (fun c => c.before args0 about1) = true
  refine all_split ?_ w_codes
  rw [← List.take_append_drop 24 words1, List.all_append, w_t1, w_t2]
  rfl
set_option maxRecDepth 65536 in
theorem w_case : (Jvm.Cond.and given_1 narrow_1).before args0 about1 = true := by decide +kernel
theorem w_applies : (headSpec (Jvm.Cond.code x code maxLocals ret :: tables_1) room_1).applies x e0.platform about1 = true :=
  (Spec.applies_iff w_frames).mpr ⟨w_running, w_runnable, w_alone, w_named, w_hears, w_ripe, w_room, w_tables⟩
theorem atStart : AtStart classFile x code maxLocals ret World_1 tables_1 room_1 Calls_1 rest_1 Pre_1 launch0 p0 e0 about1 theMethod args0 below0 :=
  ⟨lists_1, trivial, launch0.admits_env _ _ _, launch0.least_env, fairChoices_fair.cas, fairChoices_fair.clock, w_frames, w_args, w_heap, w_applies, trivial, trivial, w_case⟩
end start1
theorem witness_1 : WitnessClaimed_1 := ⟨start1.p0, start1.e0, start1.about1, start1.theMethod, start1.args0, start1.below0, start1.atStart⟩
end Jvm.Pilot.@@N@@
