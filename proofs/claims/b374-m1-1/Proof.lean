import JvmDerived
import JvmDerived.Pilot.@@N@@Statement
import JvmDerived.Pilot.@@N@@Code
set_option linter.unusedVariables false
set_option linter.unusedSimpArgs false
namespace Jvm.RoadKit
open Sem ClassFile Op Lib Jvm.Stand Jvm.Free Jvm.LawKit
section New
variable {p : Program} {l : Launch} {e : Env} {R : Room} {s : State} {m : MethodId} {args : Array Value} {below : List Frame} {meth : Method} {c : Code} {T : State} {locs : List Loc} {cells slots : Nat}
theorem retI (X : Stand p l e R s m args below meth c T locs cells slots) (hx : p.tables.exec = Jvm.exec) {pc : Nat} {Ls : Array Slot} {z : Int32} {rest : List Value} (hret : meth.sig.returnType = some .int) (hd : decode c.code pc = .ok (.ireturn, 1)) {fs : List Frame}
    (hl : ∀ (f : JFrame) (acts : List Action), f.method = m → f.locked = none → f.entered = [] → (doReturn e (T.setTop f) acts (some (.int z))).1 = T.setFrames fs) : Steps p.tables e below (T.setTop (mkF m pc Ls (.int z :: rest))) (T.setFrames fs) := by
  have hm' : T.vm.method? m = some meth := X.method'
  have hn : narrow .int (.int z) = .int z := rfl
  show Steps p.tables e below (T.setTop { method := m, pc := pc, locals := Ls, stack := _ :: rest, locked := none }) _
  jvm_step X.here [X.here.top, hx, hd, hm', hret, hn]
  first | (intro acts; rw [hl _ acts rfl rfl rfl]) | rw [hl _ _ rfl rfl rfl]
  exact Steps.refl _
end New
end Jvm.RoadKit
namespace Jvm.Pilot.@@N@@
open Jvm Jvm.ClassFile Sem Op Lib Jvm.Free Jvm.Stand Jvm.LawKit Jvm.RoadKit Bundle Jvm.Pilot.@@N@@.Jvm.D
def bI (P : Prop) [Decidable P] : Int32 := if P then 1 else 0
theorem own_b1 {P : Prop} [Decidable P] (h : P) : some (Value.int (1 : Int32)) = some (Value.int (bI P)) := by rw [bI, if_pos h]
theorem own_b0 {P : Prop} [Decidable P] (h : ¬ P) : some (Value.int (0 : Int32)) = some (Value.int (bI P)) := by rw [bI, if_neg h]
theorem own_c1 {P : Prop} [Decidable P] (h : P) : (1 : Int32) = bI P := by rw [bI, if_pos h]
theorem own_c0 {P : Prop} [Decidable P] (h : ¬ P) : (0 : Int32) = bI P := by rw [bI, if_neg h]
theorem own_bI {P : Prop} [Decidable P] : (P ∧ bI P = 1) ∨ (¬ P ∧ bI P = 0) := by by_cases h : P <;> simp [bI, h]
theorem own_bt {P : Prop} [Decidable P] : (P ∧ (bI P).toInt = 1) ∨ (¬ P ∧ (bI P).toInt = 0) := by by_cases h : P <;> simp [bI, h]
theorem own_nar {P : Prop} [Decidable P] : nar .boolean (bI P) = bI P := by by_cases h : P <;> simp only [bI, h, if_true, if_false] <;> decide
theorem own_lt {a b : Int32} : a < b ↔ a.toInt < b.toInt := Int32.lt_iff_toInt_lt
theorem own_nlt {a b : Int32} : ¬ (a < b) ↔ b.toInt ≤ a.toInt := by rw [own_lt]; omega
theorem own_eq {a b : Int32} : a = b ↔ a.toInt = b.toInt := Int32.toInt_inj.symm
theorem own_neq {a b : Int32} : ¬ (a = b) ↔ ¬ (a.toInt = b.toInt) := by rw [own_eq]
theorem own_ltL {a b : Int64} : a < b ↔ a.toInt < b.toInt := Int64.lt_iff_toInt_lt
theorem own_eqL {a b : Int64} : a = b ↔ a.toInt = b.toInt := Int64.toInt_inj.symm
theorem own_sk {Z : State} {h h' : Heap} {C n d K : String} {v : Value} {b : Addr} (F : Sta Z h C n d v) (Kp : Keep h h' [b]) (E : Exa Z h b K) : Sta Z h' C n d v := by
  obtain ⟨cf, i, k, f, st, cell, h1, h2, h3, h4, h5, h6, h7⟩ := F
  refine ⟨cf, i, k, f, st, cell, h1, h2, h3, h4, Kp.2.1 st cell h5 (fun q => ?_), h6, h7⟩
  obtain ⟨cl, kk, e1, e2, e3, e4, e5⟩ := E
  have q' := List.mem_singleton.mp q
  subst q'
  rw [h5] at e1
  cases e1
  rw [h6] at e4
  cases e4
theorem own_eqI {t : Term} {k : Int32} {args : Array Value} {Z : State} (h : (Jvm.Cond.eq t (Term.int k)).value args Z none Z [] = some true) : t.eval args Z none [] Z = some (.int k) := by
  obtain ⟨x, y, hx, hy, K1, K2⟩ := cmp_v (Or.inl h)
  have hy' : y = .int k := by simpa [Term.eval] using hy.symm
  subst hy'
  obtain ⟨z, rfl⟩ := K2
  have q : z = k := by simpa [Jvm.Cond.value, hx, Term.eval] using h
  rw [hx, q]
theorem own_fldI {t : Term} {C n d : String} {k : Int32} {a : Addr} {args : Array Value} {Z : State} (ev : t.eval args Z none [] Z = some (.ref a)) (h : (Jvm.Cond.eq (Term.field t C n d) (Term.int k)).value args Z none Z [] = some true) : Z.fieldOf? a C n d = some (.int k) := by
  rw [← fld_at ev]; exact own_eqI h
theorem own_ford {C n d : String} {k k' : Int32} {a b : Addr} {Z : State} (h1 : Z.fieldOf? a C n d = some (.int k)) (h2 : Z.fieldOf? b C n d = some (.int k')) (hk : k ≠ k') : a ≠ b := fun q => by
  rw [q, h2] at h1
  exact hk (Value.int.inj (Option.some.inj h1)).symm
theorem own_s0 {Z : State} {h h' : Heap} {C n d : String} {v : Value} (F : Sta Z h C n d v) (Kp : Keep h h' []) : Sta Z h' C n d v := by
  obtain ⟨cf, i, k, f, st, cell, h1, h2, h3, h4, h5, h6, h7⟩ := F
  exact ⟨cf, i, k, f, st, cell, h1, h2, h3, h4, Kp.2.1 st cell h5 (by simp), h6, h7⟩
theorem own_a0 {Z : State} {h h' : Heap} {a : Addr} {c : Cell} {ty : FieldType} (A : Arr Z h a c ty) (Kp : Keep h h' []) : Arr Z h' a c ty := ⟨Kp.2.1 a c A.1 (by simp), A.2⟩
theorem own_f0 {Z : State} {h h' : Heap} {C n d : String} {a : Addr} {v : Value} (F : Fld Z h a C n d v) (Kp : Keep h h' []) : Fld Z h' a C n d v := F.keep Kp (by simp)
theorem own_no2 {Z : State} {a0 : Array Value} {C S O K : String} {n : Nat} (w1 : (Jvm.Cond.superclass C S).before a0 Z = true) (w2 : (Jvm.Cond.superclass S O).before a0 Z = true) (w3 : (Jvm.Cond.noSuperclass O).before a0 Z = true) (wk : (Jvm.Cond.instantiable K n).before a0 Z = true)
    (n1 : C ≠ K) (n2 : S ≠ K) (n3 : O ≠ K) : ∃ c t, Z.vm.findClass C = some c ∧ Z.vm.findClass K = some t ∧ Z.vm.assignable c t = false := by
  obtain ⟨t, kt, ht, hkt, ho, hi, -, -⟩ := Cond.instantiable_spec wk
  obtain ⟨cO, kO, hO, hkO, hs, -, -⟩ := Cond.noSuperclass_spec w3
  have neO := ids_ne hO ht n3
  have r0 : NS Z O K := ⟨cO, t, hO, ht, fun fuel => by cases fuel with
    | zero => rfl
    | succ f => simp [Vm.isSubclassAux, neO, hkO, hs]⟩
  obtain ⟨c, t', h0, g0, n3'⟩ := NS.step w1 (NS.step w2 r0 n2) n1
  cases ht.symm.trans g0
  obtain ⟨p, k, kp, h1, h2, h3, h4, h5, -, h7⟩ := Cond.superclass_spec h0 w1
  have ne := ids_ne h0 ht n1
  have hi' : kt.isInterface = false := by simp only [Bool.or_eq_false_iff] at hi; exact hi.1
  refine ⟨c, t, h0, ht, ?_⟩
  show Z.vm.assignableAux (255 + 1) c t = false
  simp [Vm.assignableAux, ne, h2, hkt, h5, ho, hi', Vm.isSubclass, n3']
theorem own_box {Z : State} {args : Array Value} {t : Term} {K : String} {X : Jvm.Cond} {a : Addr} {c : Cell} (et : ∀ idx, t.eval args Z none idx Z = some (.ref a)) (A : Arr Z Z.heap a c (.object K))
    (h : (Jvm.Cond.all t (.and (.exactly (.elem t (.index 0)) K) X)).value args Z none Z [] = some true) (j : Int32) (hj : ¬ (j < 0 ∨ c.slots.size ≤ j.toNatClampNeg)) : ∃ b : Addr, c.slots[j.toNatClampNeg]? = some (.ref b) ∧ Exa Z Z.heap b K := by
  have nn : ¬ j < 0 := fun x => hj (Or.inl x)
  have u := (and_e (Cond.all_elim (et []) (A.fin (Vm.Alike.refl _)) h j.toNatClampNeg (Nat.lt_of_not_le fun x => hj (Or.inr x)))).1
  obtain ⟨box, eb⟩ := exa_v u
  exact ⟨box, (elem_f (et _) (idx_at nn) (A.fin (Vm.Alike.refl _)) nn).symm.trans eb, exa_at eb u⟩
theorem own_len {Z : State} {args : Array Value} {t : Term} {a : Addr} {c : Cell} {ty : FieldType} {z : Int32} (ev : t.eval args Z none [] Z = some (.ref a)) (A : Arr Z Z.heap a c ty) (h : (Term.length t).eval args Z none [] Z = some (.int z)) : c.slots.size < 2 ^ 31 ∧ c.slots.size.toInt32 = z := by
  have ha := A.fin (Vm.Alike.refl _)
  simpa [Term.eval, ev, ha] using h
theorem own_size {c : Cell} {z : Int32} {n : Nat} (h : c.slots.size < 2 ^ 31 ∧ c.slots.size.toInt32 = z) (hz : z.toInt = n) : c.slots.size = n := by
  have q := len_toInt h.1
  rw [h.2] at q
  omega
theorem own_eqR {t u : Term} {b : Addr} {args : Array Value} {Z : State} (hu : u.eval args Z none [] Z = some (.ref b)) (h : (Jvm.Cond.eq t u).value args Z none Z [] = some true) : t.eval args Z none [] Z = some (.ref b) := by
  obtain ⟨x, y, hx, hy, K1, K2⟩ := cmp_v (Or.inl h)
  cases hu.symm.trans hy
  have hr : x.isRef = true := K2.2
  have e := eq_R hx hu hr rfl
  rw [h] at e
  rw [hx, of_decide_eq_true (Option.some.inj e).symm]
theorem own_rew {s t : State} {o : Outcome} {L : List Loc} {k n k' n' : Nat} (h : ReturnedEndW s o t L k n) (hk : k ≤ k') (hn : n ≤ n') : ReturnedEndW s o t L k' n' := ⟨h.1, h.2.1, h.2.2.1, h.2.2.2.mono hk hn⟩
theorem own_m31 (x : Int32) : (x &&& (2147483647 : Int32)).toInt = x.toInt % 2147483648 := c_mask x (2147483647 : Int32) 31 (by decide) (by decide)
theorem own_mrem (x y : Int32) (d : Int) (hy : y.toInt = d) : ((x &&& (2147483647 : Int32)) % y).toInt = (x.toInt % 2147483648) % d := by
  have h := own_m31 x
  rw [(c_irem _ y d hy).1 (by omega), h]
def own_min (a b : Int32) : Int32 := if b.toInt < a.toInt then b else a
def own_max (a b : Int32) : Int32 := if a.toInt < b.toInt then b else a
theorem own_min1 {a b : Int32} (h : b.toInt < a.toInt) : b = own_min a b := by rw [own_min, if_pos h]
theorem own_min0 {a b : Int32} (h : a.toInt ≤ b.toInt) : a = own_min a b := by rw [own_min, if_neg (by omega)]
theorem own_max1 {a b : Int32} (h : a.toInt < b.toInt) : b = own_max a b := by rw [own_max, if_pos h]
theorem own_max0 {a b : Int32} (h : b.toInt ≤ a.toInt) : a = own_max a b := by rw [own_max, if_neg (by omega)]
theorem own_mn (a b : Int32) : ((own_min a b).toInt = a.toInt ∧ a.toInt ≤ b.toInt) ∨ ((own_min a b).toInt = b.toInt ∧ b.toInt < a.toInt) := by
  by_cases h : b.toInt < a.toInt
  · rw [← own_min1 h]; omega
  · rw [← own_min0 (by omega)]; omega
theorem own_mx (a b : Int32) : ((own_max a b).toInt = b.toInt ∧ a.toInt < b.toInt) ∨ ((own_max a b).toInt = a.toInt ∧ b.toInt ≤ a.toInt) := by
  by_cases h : a.toInt < b.toInt
  · rw [← own_max1 h]; omega
  · rw [← own_max0 (by omega)]; omega
theorem own_cl (s : Int32) (h : 0 ≤ s.toInt) : (s.toNatClampNeg : Int) = s.toInt := by
  have q : s.toNatClampNeg = s.toInt.toNat := rfl
  omega
theorem own_cl2 {j z : Int32} (h0 : 0 ≤ j.toInt) (h : j.toInt < z.toInt) : j.toNatClampNeg < z.toNatClampNeg := by
  have a := own_cl j h0
  have b := own_cl z (by omega)
  omega
theorem own_z {P : Prop} [Decidable P] (h : (bI P).toInt = 0) : ¬ P := fun q => by rw [bI, if_pos q] at h; exact absurd h (by decide)
theorem own_o {P : Prop} [Decidable P] (h : ¬ ((bI P).toInt = 0)) : P := by
  by_cases q : P
  · exact q
  · rw [bI, if_neg q] at h; exact absurd rfl h
def own_G (a b c : Int32) (j : Nat) : Int32 := if j = 0 then a else if j = 1 then b else c
theorem own_Gs {a b c z : Int32} (h1 : a.toInt ≤ b.toInt) (h2 : b.toInt ≤ c.toInt) : ∀ i j : Nat, i ≤ j → j < z.toNatClampNeg → (own_G a b c i).toInt ≤ (own_G a b c j).toInt := by
  intro i j hij _
  unfold own_G
  split <;> split <;> (try split) <;> (try split) <;> omega
theorem own_fin (nf ns f0 f1 s0 s1 s2 l b z : Int32) (hn : 0 ≤ nf.toInt ∧ nf.toInt ≤ 2) (hm : 0 ≤ ns.toInt ∧ ns.toInt ≤ 3)
    (hz : (z = 1 ∧ ∃ i j : Nat, i < nf.toNatClampNeg ∧ j < ns.toNatClampNeg ∧ (own_G f0 f1 f1 i).toInt + l.toInt ≤ (own_G s0 s1 s2 j).toInt ∧ (own_G s0 s1 s2 j).toInt ≤ (own_G f0 f1 f1 i).toInt + l.toInt + b.toInt) ∨ (z = 0 ∧ ∀ i j : Nat, i < nf.toNatClampNeg → j < ns.toNatClampNeg → ¬ ((own_G f0 f1 f1 i).toInt + l.toInt ≤ (own_G s0 s1 s2 j).toInt ∧ (own_G s0 s1 s2 j).toInt ≤ (own_G f0 f1 f1 i).toInt + l.toInt + b.toInt))) : z.toInt = (bI ((1 ≤ nf.toInt ∧ ((1 ≤ ns.toInt ∧ f0.toInt + l.toInt ≤ s0.toInt ∧ s0.toInt ≤ f0.toInt + l.toInt + b.toInt) ∨ (2 ≤ ns.toInt ∧ f0.toInt + l.toInt ≤ s1.toInt ∧ s1.toInt ≤ f0.toInt + l.toInt + b.toInt) ∨ (3 ≤ ns.toInt ∧ f0.toInt + l.toInt ≤ s2.toInt ∧ s2.toInt ≤ f0.toInt + l.toInt + b.toInt))) ∨ (2 ≤ nf.toInt ∧ ((1 ≤ ns.toInt ∧ f1.toInt + l.toInt ≤ s0.toInt ∧ s0.toInt ≤ f1.toInt + l.toInt + b.toInt) ∨ (2 ≤ ns.toInt ∧ f1.toInt + l.toInt ≤ s1.toInt ∧ s1.toInt ≤ f1.toInt + l.toInt + b.toInt) ∨ (3 ≤ ns.toInt ∧ f1.toInt + l.toInt ≤ s2.toInt ∧ s2.toInt ≤ f1.toInt + l.toInt + b.toInt))))).toInt := by
  have a := own_cl nf hn.1
  have c := own_cl ns hm.1
  rcases hz with ⟨rfl, i, j, hi, hj, hh⟩ | ⟨rfl, hh⟩
  · have e : (1 ≤ nf.toInt ∧ ((1 ≤ ns.toInt ∧ f0.toInt + l.toInt ≤ s0.toInt ∧ s0.toInt ≤ f0.toInt + l.toInt + b.toInt) ∨ (2 ≤ ns.toInt ∧ f0.toInt + l.toInt ≤ s1.toInt ∧ s1.toInt ≤ f0.toInt + l.toInt + b.toInt) ∨ (3 ≤ ns.toInt ∧ f0.toInt + l.toInt ≤ s2.toInt ∧ s2.toInt ≤ f0.toInt + l.toInt + b.toInt))) ∨ (2 ≤ nf.toInt ∧ ((1 ≤ ns.toInt ∧ f1.toInt + l.toInt ≤ s0.toInt ∧ s0.toInt ≤ f1.toInt + l.toInt + b.toInt) ∨ (2 ≤ ns.toInt ∧ f1.toInt + l.toInt ≤ s1.toInt ∧ s1.toInt ≤ f1.toInt + l.toInt + b.toInt) ∨ (3 ≤ ns.toInt ∧ f1.toInt + l.toInt ≤ s2.toInt ∧ s2.toInt ≤ f1.toInt + l.toInt + b.toInt))) := by
      rcases (show i = 0 ∨ i = 1 by omega) with rfl | rfl
      · rcases (show j = 0 ∨ j = 1 ∨ j = 2 by omega) with rfl | rfl | rfl
        · exact Or.inl ⟨by omega, Or.inl ⟨by omega, hh⟩⟩
        · exact Or.inl ⟨by omega, Or.inr (Or.inl ⟨by omega, hh⟩)⟩
        · exact Or.inl ⟨by omega, Or.inr (Or.inr ⟨by omega, hh⟩)⟩
      · rcases (show j = 0 ∨ j = 1 ∨ j = 2 by omega) with rfl | rfl | rfl
        · exact Or.inr ⟨by omega, Or.inl ⟨by omega, hh⟩⟩
        · exact Or.inr ⟨by omega, Or.inr (Or.inl ⟨by omega, hh⟩)⟩
        · exact Or.inr ⟨by omega, Or.inr (Or.inr ⟨by omega, hh⟩)⟩
    rw [← own_c1 e]
  · have e : ¬ ((1 ≤ nf.toInt ∧ ((1 ≤ ns.toInt ∧ f0.toInt + l.toInt ≤ s0.toInt ∧ s0.toInt ≤ f0.toInt + l.toInt + b.toInt) ∨ (2 ≤ ns.toInt ∧ f0.toInt + l.toInt ≤ s1.toInt ∧ s1.toInt ≤ f0.toInt + l.toInt + b.toInt) ∨ (3 ≤ ns.toInt ∧ f0.toInt + l.toInt ≤ s2.toInt ∧ s2.toInt ≤ f0.toInt + l.toInt + b.toInt))) ∨ (2 ≤ nf.toInt ∧ ((1 ≤ ns.toInt ∧ f1.toInt + l.toInt ≤ s0.toInt ∧ s0.toInt ≤ f1.toInt + l.toInt + b.toInt) ∨ (2 ≤ ns.toInt ∧ f1.toInt + l.toInt ≤ s1.toInt ∧ s1.toInt ≤ f1.toInt + l.toInt + b.toInt) ∨ (3 ≤ ns.toInt ∧ f1.toInt + l.toInt ≤ s2.toInt ∧ s2.toInt ≤ f1.toInt + l.toInt + b.toInt)))) := by
      rintro (⟨q, ⟨r, y⟩ | ⟨r, y⟩ | ⟨r, y⟩⟩ | ⟨q, ⟨r, y⟩ | ⟨r, y⟩ | ⟨r, y⟩⟩)
      · exact hh 0 0 (by omega) (by omega) y
      · exact hh 0 1 (by omega) (by omega) y
      · exact hh 0 2 (by omega) (by omega) y
      · exact hh 1 0 (by omega) (by omega) y
      · exact hh 1 1 (by omega) (by omega) y
      · exact hh 1 2 (by omega) (by omega) y
    rw [← own_c0 e]
theorem ef_1 (m : MethodId) (x0 : Int32) (x1 : Int32) : entryFrame m #[(.int x0), (.int x1)] 2 = mkF m 0 #[.val (.int x0), .val (.int x1)] [] := by first | (simp [entryFrame, mkF, argsToLocals, Value.category]; done) | rfl
theorem d1_0 : decode jdk_29_method_69_code 0 = .ok (.iload_n 0, 1) := by decide +kernel
theorem d1_1 : decode jdk_29_method_69_code 1 = .ok (.iload_n 1, 1) := by decide +kernel
theorem d1_2 : decode jdk_29_method_69_code 2 = .ok (.if_icmp .gt 7, 3) := by decide +kernel
theorem d1_9 : decode jdk_29_method_69_code 9 = .ok (.iload_n 1, 1) := by decide +kernel
theorem d1_10 : decode jdk_29_method_69_code 10 = .ok (.ireturn, 1) := by decide +kernel
theorem d1_5 : decode jdk_29_method_69_code 5 = .ok (.iload_n 0, 1) := by decide +kernel
theorem d1_6 : decode jdk_29_method_69_code 6 = .ok (.goto 4, 3) := by decide +kernel
theorem ef_2 (m : MethodId) (x0 : Int32) (x1 : Int32) : entryFrame m #[(.int x0), (.int x1)] 2 = mkF m 0 #[.val (.int x0), .val (.int x1)] [] := by first | (simp [entryFrame, mkF, argsToLocals, Value.category]; done) | rfl
theorem d2_0 : decode jdk_29_method_65_code 0 = .ok (.iload_n 0, 1) := by decide +kernel
theorem d2_1 : decode jdk_29_method_65_code 1 = .ok (.iload_n 1, 1) := by decide +kernel
theorem d2_2 : decode jdk_29_method_65_code 2 = .ok (.if_icmp .lt 7, 3) := by decide +kernel
theorem d2_9 : decode jdk_29_method_65_code 9 = .ok (.iload_n 1, 1) := by decide +kernel
theorem d2_10 : decode jdk_29_method_65_code 10 = .ok (.ireturn, 1) := by decide +kernel
theorem d2_5 : decode jdk_29_method_65_code 5 = .ok (.iload_n 0, 1) := by decide +kernel
theorem d2_6 : decode jdk_29_method_65_code 6 = .ok (.goto 4, 3) := by decide +kernel
theorem ef_5 (m : MethodId) (x0 : Int32) (x1 : Int32) (x2 : Int32) (x3 : Int32) : entryFrame m #[(.int x0), (.int x1), (.int x2), (.int x3)] 8 = mkF m 0 #[.val (.int x0), .val (.int x1), .val (.int x2), .val (.int x3), .unset, .unset, .unset, .unset] [] := by first | (simp [entryFrame, mkF, argsToLocals, Value.category]; done) | rfl
theorem pn_com_example_cranfield_cranfield_search_OccurrencesFollowedWithinPinLaw : plainName "com/example/cranfield/cranfield/search/OccurrencesFollowedWithinPinLaw" = true := by first | (simp [plainName, overriddenIn]; done) | decide +kernel
theorem d5_0 : decode method_4_code 0 = .ok (.iload_n 0, 1) := by decide +kernel
theorem d5_1 : decode method_4_code 1 = .ok (.i2l, 1) := by decide +kernel
theorem d5_2 : decode method_4_code 2 = .ok (.iload_n 2, 1) := by decide +kernel
theorem d5_3 : decode method_4_code 3 = .ok (.i2l, 1) := by decide +kernel
theorem d5_4 : decode method_4_code 4 = .ok (.ladd, 1) := by decide +kernel
theorem d5_5 : decode method_4_code 5 = .ok (.lstore 4, 2) := by decide +kernel
theorem d5_7 : decode method_4_code 7 = .ok (.lload 4, 2) := by decide +kernel
theorem d5_9 : decode method_4_code 9 = .ok (.iload_n 3, 1) := by decide +kernel
theorem d5_10 : decode method_4_code 10 = .ok (.i2l, 1) := by decide +kernel
theorem d5_11 : decode method_4_code 11 = .ok (.ladd, 1) := by decide +kernel
theorem d5_12 : decode method_4_code 12 = .ok (.lstore 6, 2) := by decide +kernel
theorem d5_14 : decode method_4_code 14 = .ok (.lload 4, 2) := by decide +kernel
theorem d5_16 : decode method_4_code 16 = .ok (.iload_n 1, 1) := by decide +kernel
theorem d5_17 : decode method_4_code 17 = .ok (.i2l, 1) := by decide +kernel
theorem d5_18 : decode method_4_code 18 = .ok (.lcmp, 1) := by decide +kernel
theorem d5_19 : decode method_4_code 19 = .ok (.ifCond .gt 15, 3) := by decide +kernel
theorem d5_34 : decode method_4_code 34 = .ok (.iconst 0, 1) := by decide +kernel
theorem d5_35 : decode method_4_code 35 = .ok (.ireturn, 1) := by decide +kernel
theorem d5_22 : decode method_4_code 22 = .ok (.iload_n 1, 1) := by decide +kernel
theorem d5_23 : decode method_4_code 23 = .ok (.i2l, 1) := by decide +kernel
theorem d5_24 : decode method_4_code 24 = .ok (.lload 6, 2) := by decide +kernel
theorem d5_26 : decode method_4_code 26 = .ok (.lcmp, 1) := by decide +kernel
theorem d5_27 : decode method_4_code 27 = .ok (.ifCond .gt 7, 3) := by decide +kernel
theorem d5_30 : decode method_4_code 30 = .ok (.iconst 1, 1) := by decide +kernel
theorem d5_31 : decode method_4_code 31 = .ok (.goto 4, 3) := by decide +kernel
theorem ef_3 (m : MethodId) (x0 : Int32) (x1 : Int32) (x2 : Int32) (x3 : Int32) (x4 : Int32) (x5 : Int32) (x6 : Int32) : entryFrame m #[(.int x0), (.int x1), (.int x2), (.int x3), (.int x4), (.int x5), (.int x6)] 7 = mkF m 0 #[.val (.int x0), .val (.int x1), .val (.int x2), .val (.int x3), .val (.int x4), .val (.int x5), .val (.int x6)] [] := by first | (simp [entryFrame, mkF, argsToLocals, Value.category]; done) | rfl
theorem d3_0 : decode method_3_code 0 = .ok (.iload_n 1, 1) := by decide +kernel
theorem d3_1 : decode method_3_code 1 = .ok (.iconst 1, 1) := by decide +kernel
theorem d3_2 : decode method_3_code 2 = .ok (.if_icmp .lt 17, 3) := by decide +kernel
theorem d3_19 : decode method_3_code 19 = .ok (.iload_n 1, 1) := by decide +kernel
theorem d3_20 : decode method_3_code 20 = .ok (.iconst 2, 1) := by decide +kernel
theorem d3_21 : decode method_3_code 21 = .ok (.if_icmp .lt 17, 3) := by decide +kernel
theorem d3_38 : decode method_3_code 38 = .ok (.iload_n 1, 1) := by decide +kernel
theorem d3_39 : decode method_3_code 39 = .ok (.iconst 3, 1) := by decide +kernel
theorem d3_40 : decode method_3_code 40 = .ok (.if_icmp .lt 20, 3) := by decide +kernel
theorem d3_60 : decode method_3_code 60 = .ok (.iconst 0, 1) := by decide +kernel
theorem d3_61 : decode method_3_code 61 = .ok (.ireturn, 1) := by decide +kernel
theorem d3_43 : decode method_3_code 43 = .ok (.iload_n 0, 1) := by decide +kernel
theorem d3_44 : decode method_3_code 44 = .ok (.iload 4, 2) := by decide +kernel
theorem d3_46 : decode method_3_code 46 = .ok (.iload 5, 2) := by decide +kernel
theorem d3_48 : decode method_3_code 48 = .ok (.iload 6, 2) := by decide +kernel
theorem d3_50 : decode method_3_code 50 = .ok (.invokestatic 29, 3) := by decide +kernel
theorem pd_0 : parseMethodDescriptor "(IIII)Z" = some ⟨[.int, .int, .int, .int], some .boolean⟩ := by decide +kernel
theorem d3_53 : decode method_3_code 53 = .ok (.ifCond .eq 7, 3) := by decide +kernel
theorem d3_56 : decode method_3_code 56 = .ok (.iconst 1, 1) := by decide +kernel
theorem d3_57 : decode method_3_code 57 = .ok (.goto 4, 3) := by decide +kernel
theorem d3_24 : decode method_3_code 24 = .ok (.iload_n 0, 1) := by decide +kernel
theorem d3_25 : decode method_3_code 25 = .ok (.iload_n 3, 1) := by decide +kernel
theorem d3_26 : decode method_3_code 26 = .ok (.iload 5, 2) := by decide +kernel
theorem d3_28 : decode method_3_code 28 = .ok (.iload 6, 2) := by decide +kernel
theorem d3_30 : decode method_3_code 30 = .ok (.invokestatic 29, 3) := by decide +kernel
theorem d3_33 : decode method_3_code 33 = .ok (.ifCond .eq 5, 3) := by decide +kernel
theorem d3_36 : decode method_3_code 36 = .ok (.iconst 1, 1) := by decide +kernel
theorem d3_37 : decode method_3_code 37 = .ok (.ireturn, 1) := by decide +kernel
theorem d3_5 : decode method_3_code 5 = .ok (.iload_n 0, 1) := by decide +kernel
theorem d3_6 : decode method_3_code 6 = .ok (.iload_n 2, 1) := by decide +kernel
theorem d3_7 : decode method_3_code 7 = .ok (.iload 5, 2) := by decide +kernel
theorem d3_9 : decode method_3_code 9 = .ok (.iload 6, 2) := by decide +kernel
theorem d3_11 : decode method_3_code 11 = .ok (.invokestatic 29, 3) := by decide +kernel
theorem d3_14 : decode method_3_code 14 = .ok (.ifCond .eq 5, 3) := by decide +kernel
theorem d3_17 : decode method_3_code 17 = .ok (.iconst 1, 1) := by decide +kernel
theorem d3_18 : decode method_3_code 18 = .ok (.ireturn, 1) := by decide +kernel
theorem ef_4 (m : MethodId) (x0 : Addr) (x1 : Int32) (x2 : Addr) (x3 : Int32) : entryFrame m #[(.ref x0), (.int x1), (.ref x2), (.int x3)] 11 = mkF m 0 #[.val (.ref x0), .val (.int x1), .val (.ref x2), .val (.int x3), .unset, .unset, .unset, .unset, .unset, .unset, .unset] [] := by first | (simp [entryFrame, mkF, argsToLocals, Value.category]; done) | rfl
theorem pn_com_example_cranfield_cranfield_search_Occurrences : plainName "com/example/cranfield/cranfield/search/Occurrences" = true := by first | (simp [plainName, overriddenIn]; done) | decide +kernel
theorem d4_0 : decode prog_68_method_4_code 0 = .ok (.iconst 0, 1) := by decide +kernel
theorem d4_1 : decode prog_68_method_4_code 1 = .ok (.istore 4, 2) := by decide +kernel
theorem d4_3 : decode prog_68_method_4_code 3 = .ok (.aload_n 0, 1) := by decide +kernel
theorem d4_4 : decode prog_68_method_4_code 4 = .ok (.astore 5, 2) := by decide +kernel
theorem d4_6 : decode prog_68_method_4_code 6 = .ok (.aload 5, 2) := by decide +kernel
theorem d4_8 : decode prog_68_method_4_code 8 = .ok (.arraylength, 1) := by decide +kernel
theorem d4_9 : decode prog_68_method_4_code 9 = .ok (.istore 6, 2) := by decide +kernel
theorem d4_11 : decode prog_68_method_4_code 11 = .ok (.iconst 0, 1) := by decide +kernel
theorem d4_12 : decode prog_68_method_4_code 12 = .ok (.istore 7, 2) := by decide +kernel
theorem d4_14 : decode prog_68_method_4_code 14 = .ok (.iload 7, 2) := by decide +kernel
theorem d4_16 : decode prog_68_method_4_code 16 = .ok (.iload 6, 2) := by decide +kernel
theorem d4_18 : decode prog_68_method_4_code 18 = .ok (.if_icmp .ge 73, 3) := by decide +kernel
theorem d4_91 : decode prog_68_method_4_code 91 = .ok (.iconst 0, 1) := by decide +kernel
theorem d4_92 : decode prog_68_method_4_code 92 = .ok (.ireturn, 1) := by decide +kernel
theorem d4_21 : decode prog_68_method_4_code 21 = .ok (.aload 5, 2) := by decide +kernel
theorem d4_23 : decode prog_68_method_4_code 23 = .ok (.iload 7, 2) := by decide +kernel
theorem d4_25 : decode prog_68_method_4_code 25 = .ok (.iaload, 1) := by decide +kernel
theorem d4_26 : decode prog_68_method_4_code 26 = .ok (.istore 8, 2) := by decide +kernel
theorem d4_28 : decode prog_68_method_4_code 28 = .ok (.iload 8, 2) := by decide +kernel
theorem d4_30 : decode prog_68_method_4_code 30 = .ok (.i2l, 1) := by decide +kernel
theorem d4_31 : decode prog_68_method_4_code 31 = .ok (.iload_n 1, 1) := by decide +kernel
theorem d4_32 : decode prog_68_method_4_code 32 = .ok (.i2l, 1) := by decide +kernel
theorem d4_33 : decode prog_68_method_4_code 33 = .ok (.ladd, 1) := by decide +kernel
theorem d4_34 : decode prog_68_method_4_code 34 = .ok (.lstore 9, 2) := by decide +kernel
theorem d4_36 : decode prog_68_method_4_code 36 = .ok (.iload 4, 2) := by decide +kernel
theorem d4_38 : decode prog_68_method_4_code 38 = .ok (.aload_n 2, 1) := by decide +kernel
theorem d4_39 : decode prog_68_method_4_code 39 = .ok (.arraylength, 1) := by decide +kernel
theorem d4_40 : decode prog_68_method_4_code 40 = .ok (.if_icmp .ge 20, 3) := by decide +kernel
theorem d4_43 : decode prog_68_method_4_code 43 = .ok (.aload_n 2, 1) := by decide +kernel
theorem d4_44 : decode prog_68_method_4_code 44 = .ok (.iload 4, 2) := by decide +kernel
theorem d4_46 : decode prog_68_method_4_code 46 = .ok (.iaload, 1) := by decide +kernel
theorem d4_47 : decode prog_68_method_4_code 47 = .ok (.i2l, 1) := by decide +kernel
theorem d4_48 : decode prog_68_method_4_code 48 = .ok (.lload 9, 2) := by decide +kernel
theorem d4_50 : decode prog_68_method_4_code 50 = .ok (.lcmp, 1) := by decide +kernel
theorem d4_51 : decode prog_68_method_4_code 51 = .ok (.ifCond .ge 9, 3) := by decide +kernel
theorem d4_54 : decode prog_68_method_4_code 54 = .ok (.iinc 4 1, 3) := by decide +kernel
theorem d4_57 : decode prog_68_method_4_code 57 = .ok (.goto (-21), 3) := by decide +kernel
theorem d4_60 : decode prog_68_method_4_code 60 = .ok (.iload 4, 2) := by decide +kernel
theorem d4_62 : decode prog_68_method_4_code 62 = .ok (.aload_n 2, 1) := by decide +kernel
theorem d4_63 : decode prog_68_method_4_code 63 = .ok (.arraylength, 1) := by decide +kernel
theorem d4_64 : decode prog_68_method_4_code 64 = .ok (.if_icmp .ne 5, 3) := by decide +kernel
theorem d4_67 : decode prog_68_method_4_code 67 = .ok (.iconst 0, 1) := by decide +kernel
theorem d4_68 : decode prog_68_method_4_code 68 = .ok (.ireturn, 1) := by decide +kernel
theorem d4_69 : decode prog_68_method_4_code 69 = .ok (.aload_n 2, 1) := by decide +kernel
theorem d4_70 : decode prog_68_method_4_code 70 = .ok (.iload 4, 2) := by decide +kernel
theorem d4_72 : decode prog_68_method_4_code 72 = .ok (.iaload, 1) := by decide +kernel
theorem d4_73 : decode prog_68_method_4_code 73 = .ok (.i2l, 1) := by decide +kernel
theorem d4_74 : decode prog_68_method_4_code 74 = .ok (.lload 9, 2) := by decide +kernel
theorem d4_76 : decode prog_68_method_4_code 76 = .ok (.iload_n 3, 1) := by decide +kernel
theorem d4_77 : decode prog_68_method_4_code 77 = .ok (.i2l, 1) := by decide +kernel
theorem d4_78 : decode prog_68_method_4_code 78 = .ok (.ladd, 1) := by decide +kernel
theorem d4_79 : decode prog_68_method_4_code 79 = .ok (.lcmp, 1) := by decide +kernel
theorem d4_80 : decode prog_68_method_4_code 80 = .ok (.ifCond .gt 5, 3) := by decide +kernel
theorem d4_85 : decode prog_68_method_4_code 85 = .ok (.iinc 7 1, 3) := by decide +kernel
theorem d4_88 : decode prog_68_method_4_code 88 = .ok (.goto (-74), 3) := by decide +kernel
theorem d4_83 : decode prog_68_method_4_code 83 = .ok (.iconst 1, 1) := by decide +kernel
theorem d4_84 : decode prog_68_method_4_code 84 = .ok (.ireturn, 1) := by decide +kernel
theorem ef_0 (m : MethodId) (x0 : Int64) (x1 : Int64) (x2 : Int32) (x3 : Int32) (x4 : Int32) (x5 : Int32) : entryFrame m #[(.long x0), (.long x1), (.int x2), (.int x3), (.int x4), (.int x5)] maxLocals = mkF m 0 #[.val (.long x0), .second, .val (.long x1), .second, .val (.int x2), .val (.int x3), .val (.int x4), .val (.int x5), .unset, .unset, .unset, .unset, .unset, .unset, .unset, .unset, .unset, .unset, .unset, .unset, .unset, .unset, .unset, .unset, .unset, .unset] [] := by first | (simp [entryFrame, mkF, argsToLocals, Value.category, maxLocals]; done) | rfl
theorem pd_1 : parseMethodDescriptor "(II)I" = some ⟨[.int, .int], some .int⟩ := by decide +kernel
theorem pd_2 : parseMethodDescriptor "(IIIIIII)Z" = some ⟨[.int, .int, .int, .int, .int, .int, .int], some .boolean⟩ := by decide +kernel
theorem pd_3 : parseMethodDescriptor "([II[II)Z" = some ⟨[(.array .int), .int, (.array .int), .int], some .boolean⟩ := by decide +kernel
def Q1 (Z : State) (p0 : Int32) (p1 : Int32) (h0 : Heap) (n0 : Nat) (v : Option Value) (h : Heap) (L : List Loc) : Prop := v = some (.int (own_min p0 p1)) ∧ Fr n0 L ∧ h = h0
set_option maxRecDepth 65536 in
set_option maxHeartbeats 40000000 in
theorem rm1 (l : Launch) (Z : State) (a0 : Array Value) (hw : ∀ d ∈ tables_1, d.before a0 Z = true) (ws : List Jvm.Cond) (p0 : Int32) (p1 : Int32) (h0 : Heap) (n0 : Nat) (Z0 : n0 ≤ h0.size) :
    MetFree l (⟨"java/lang/Math", "min", "(II)I"⟩ : MethodName) (head1 (Jvm.Cond.code (⟨"java/lang/Math", "min", "(II)I"⟩ : MethodName) jdk_29_method_69_code 2 (some .int) :: ws) ({ frames := 0, cells := 0, slots := 0, locals := 0 } : Room)) (fun a U => a = #[(.int p0), (.int p1)] ∧ Z.Warmed39 U.vm ∧ U.heap = h0) (fun _ _ _ _ _ => True) (fun _ U o U' => ∃ v L, o = .returned v ∧ Q1 Z p0 p1 h0 n0 v U'.heap L ∧ FrameEnd U o U' L ({ frames := 0, cells := 0, slots := 0, locals := 0 } : Room).cells ({ frames := 0, cells := 0, slots := 0, locals := 0 } : Room).slots) := by
  refine MetFree.of_bodySF (Jvm.Free.JP.mathPlain rfl (by decide +kernel)) hisR ?_
  intro p e s m args below meth c s₁ Bd hml0 hP hK
  obtain ⟨rfl, hZ, hh⟩ := hP
  have hx := Bd.exec
  have hby := Bd.bytes
  have hml : c.maxLocals = 2 := hml0
  have hown : s.vm.findClass "java/lang/Math" = some m.cls := findClass_of_methodNamed Bd.named
  have hnm := (name_of_methodNamed Bd.named Bd.method).1
  have X0 : Stand p l e ({ frames := 0, cells := 0, slots := 0, locals := 0 } : Room) s m #[(.int p0), (.int p1)] below meth c s₁ [] 0 0 := Stand.of_body Bd
  have e0 : s₁.heap = h0 := by rw [← hh, Bd.state]; rfl
  have N0 := Fr.nil n0
  have pre0 : ∀ t, Steps p.tables e below (s₁.setTop (mkF m 0 #[.val (.int p0), .val (.int p1)] [])) t → Steps p.tables e below (s₁.setTop (entryFrame m #[(.int p0), (.int p1)] 2)) t := fun t k => castTop (ef_1 m p0 p1) k
  have preS : ∀ t, Steps p.tables e below (s₁.setTop (mkF m 0 #[.val (.int p0), .val (.int p1)] [])) t → Steps p.tables e below (s₁.setTop (mkF m 0 #[.val (.int p0), .val (.int p1)] [])) t := fun t k => k
  have pre2 : ∀ t, Steps p.tables e below (s₁.setTop (mkF m 2 #[.val (.int p0), .val (.int p1)] [(.int p1), (.int p0)])) t → Steps p.tables e below (s₁.setTop (mkF m 0 #[.val (.int p0), .val (.int p1)] [])) t := fun t k => preS t (by
    show Steps p.tables e below (s₁.setTop (mkF m 0 #[.val (.int p0), .val (.int p1)] [])) _
    refine XS.iloadN X0.here hx rfl (hb hby d1_0) rfl ?_
    show Steps p.tables e below (s₁.setTop (mkF m 1 #[.val (.int p0), .val (.int p1)] [(.int p0)])) _
    refine XS.iloadN X0.here hx rfl (hb hby d1_1) rfl ?_
    exact k)
  by_cases hc1 : p1 < p0
  · skip
    have ohc1 : p1.toInt < p0.toInt := own_lt.mp hc1
    obtain ⟨fs, hr, hrun, hended, hW, hsame⟩ := X0.leave (v := some (.int p1)) (fun h => by rw [Bd.returns] at h; cases h)
    refine ⟨_, _, pre0 _ (pre2 _ ?_), hrun, hended, _, _, rfl, ?_, ⟨_, rfl⟩, hW, hsame.mono (by decide) (by decide)⟩
    · skip
      show Steps p.tables e below (s₁.setTop (mkF m 2 #[.val (.int p0), .val (.int p1)] [(.int p1), (.int p0)])) _
      refine XS.icmpYes X0.here hx rfl (pc0 := 2) (pc' := 9) rfl (hb hby d1_2) rfl (tlt hc1).2.2.1 (by decide) (by decide) ?_
      show Steps p.tables e below (s₁.setTop (mkF m 9 #[.val (.int p0), .val (.int p1)] [])) _
      refine XS.iloadN X0.here hx rfl (hb hby d1_9) rfl ?_
      show Steps p.tables e below (s₁.setTop (mkF m 10 #[.val (.int p0), .val (.int p1)] [(.int p1)])) _
      exact retI X0 hx Bd.returns (hb hby d1_10) hr
    · show Q1 Z p0 p1 h0 n0 _ s₁.heap _
      rw [e0]
      exact ⟨congrArg (fun z => some (Value.int z)) (own_min1 ohc1), N0, rfl⟩
  · skip
    have ohc1 : p0.toInt ≤ p1.toInt := own_nlt.mp hc1
    obtain ⟨fs, hr, hrun, hended, hW, hsame⟩ := X0.leave (v := some (.int p0)) (fun h => by rw [Bd.returns] at h; cases h)
    refine ⟨_, _, pre0 _ (pre2 _ ?_), hrun, hended, _, _, rfl, ?_, ⟨_, rfl⟩, hW, hsame.mono (by decide) (by decide)⟩
    · skip
      show Steps p.tables e below (s₁.setTop (mkF m 2 #[.val (.int p0), .val (.int p1)] [(.int p1), (.int p0)])) _
      refine XS.icmpNo X0.here hx rfl (hb hby d1_2) rfl (flt hc1).2.2.1 ?_
      show Steps p.tables e below (s₁.setTop (mkF m 5 #[.val (.int p0), .val (.int p1)] [])) _
      refine XS.iloadN X0.here hx rfl (hb hby d1_5) rfl ?_
      show Steps p.tables e below (s₁.setTop (mkF m 6 #[.val (.int p0), .val (.int p1)] [(.int p0)])) _
      refine XS.goto X0.here hx rfl (pc0 := 6) (pc' := 10) rfl (hb hby d1_6) (by decide) (by decide) ?_
      show Steps p.tables e below (s₁.setTop (mkF m 10 #[.val (.int p0), .val (.int p1)] [(.int p0)])) _
      exact retI X0 hx Bd.returns (hb hby d1_10) hr
    · show Q1 Z p0 p1 h0 n0 _ s₁.heap _
      rw [e0]
      exact ⟨congrArg (fun z => some (Value.int z)) (own_min0 ohc1), N0, rfl⟩
def Q2 (Z : State) (p0 : Int32) (p1 : Int32) (h0 : Heap) (n0 : Nat) (v : Option Value) (h : Heap) (L : List Loc) : Prop := v = some (.int (own_max p0 p1)) ∧ Fr n0 L ∧ h = h0
set_option maxRecDepth 65536 in
set_option maxHeartbeats 40000000 in
theorem rm2 (l : Launch) (Z : State) (a0 : Array Value) (hw : ∀ d ∈ tables_1, d.before a0 Z = true) (ws : List Jvm.Cond) (p0 : Int32) (p1 : Int32) (h0 : Heap) (n0 : Nat) (Z0 : n0 ≤ h0.size) :
    MetFree l (⟨"java/lang/Math", "max", "(II)I"⟩ : MethodName) (head1 (Jvm.Cond.code (⟨"java/lang/Math", "max", "(II)I"⟩ : MethodName) jdk_29_method_65_code 2 (some .int) :: ws) ({ frames := 0, cells := 0, slots := 0, locals := 0 } : Room)) (fun a U => a = #[(.int p0), (.int p1)] ∧ Z.Warmed39 U.vm ∧ U.heap = h0) (fun _ _ _ _ _ => True) (fun _ U o U' => ∃ v L, o = .returned v ∧ Q2 Z p0 p1 h0 n0 v U'.heap L ∧ FrameEnd U o U' L ({ frames := 0, cells := 0, slots := 0, locals := 0 } : Room).cells ({ frames := 0, cells := 0, slots := 0, locals := 0 } : Room).slots) := by
  refine MetFree.of_bodySF (Jvm.Free.JP.mathPlain rfl (by decide +kernel)) hisR ?_
  intro p e s m args below meth c s₁ Bd hml0 hP hK
  obtain ⟨rfl, hZ, hh⟩ := hP
  have hx := Bd.exec
  have hby := Bd.bytes
  have hml : c.maxLocals = 2 := hml0
  have hown : s.vm.findClass "java/lang/Math" = some m.cls := findClass_of_methodNamed Bd.named
  have hnm := (name_of_methodNamed Bd.named Bd.method).1
  have X0 : Stand p l e ({ frames := 0, cells := 0, slots := 0, locals := 0 } : Room) s m #[(.int p0), (.int p1)] below meth c s₁ [] 0 0 := Stand.of_body Bd
  have e0 : s₁.heap = h0 := by rw [← hh, Bd.state]; rfl
  have N0 := Fr.nil n0
  have pre0 : ∀ t, Steps p.tables e below (s₁.setTop (mkF m 0 #[.val (.int p0), .val (.int p1)] [])) t → Steps p.tables e below (s₁.setTop (entryFrame m #[(.int p0), (.int p1)] 2)) t := fun t k => castTop (ef_2 m p0 p1) k
  have preS : ∀ t, Steps p.tables e below (s₁.setTop (mkF m 0 #[.val (.int p0), .val (.int p1)] [])) t → Steps p.tables e below (s₁.setTop (mkF m 0 #[.val (.int p0), .val (.int p1)] [])) t := fun t k => k
  have pre2 : ∀ t, Steps p.tables e below (s₁.setTop (mkF m 2 #[.val (.int p0), .val (.int p1)] [(.int p1), (.int p0)])) t → Steps p.tables e below (s₁.setTop (mkF m 0 #[.val (.int p0), .val (.int p1)] [])) t := fun t k => preS t (by
    show Steps p.tables e below (s₁.setTop (mkF m 0 #[.val (.int p0), .val (.int p1)] [])) _
    refine XS.iloadN X0.here hx rfl (hb hby d2_0) rfl ?_
    show Steps p.tables e below (s₁.setTop (mkF m 1 #[.val (.int p0), .val (.int p1)] [(.int p0)])) _
    refine XS.iloadN X0.here hx rfl (hb hby d2_1) rfl ?_
    exact k)
  by_cases hc1 : p0 < p1
  · skip
    have ohc1 : p0.toInt < p1.toInt := own_lt.mp hc1
    obtain ⟨fs, hr, hrun, hended, hW, hsame⟩ := X0.leave (v := some (.int p1)) (fun h => by rw [Bd.returns] at h; cases h)
    refine ⟨_, _, pre0 _ (pre2 _ ?_), hrun, hended, _, _, rfl, ?_, ⟨_, rfl⟩, hW, hsame.mono (by decide) (by decide)⟩
    · skip
      show Steps p.tables e below (s₁.setTop (mkF m 2 #[.val (.int p0), .val (.int p1)] [(.int p1), (.int p0)])) _
      refine XS.icmpYes X0.here hx rfl (pc0 := 2) (pc' := 9) rfl (hb hby d2_2) rfl (tlt hc1).1 (by decide) (by decide) ?_
      show Steps p.tables e below (s₁.setTop (mkF m 9 #[.val (.int p0), .val (.int p1)] [])) _
      refine XS.iloadN X0.here hx rfl (hb hby d2_9) rfl ?_
      show Steps p.tables e below (s₁.setTop (mkF m 10 #[.val (.int p0), .val (.int p1)] [(.int p1)])) _
      exact retI X0 hx Bd.returns (hb hby d2_10) hr
    · show Q2 Z p0 p1 h0 n0 _ s₁.heap _
      rw [e0]
      exact ⟨congrArg (fun z => some (Value.int z)) (own_max1 ohc1), N0, rfl⟩
  · skip
    have ohc1 : p1.toInt ≤ p0.toInt := own_nlt.mp hc1
    obtain ⟨fs, hr, hrun, hended, hW, hsame⟩ := X0.leave (v := some (.int p0)) (fun h => by rw [Bd.returns] at h; cases h)
    refine ⟨_, _, pre0 _ (pre2 _ ?_), hrun, hended, _, _, rfl, ?_, ⟨_, rfl⟩, hW, hsame.mono (by decide) (by decide)⟩
    · skip
      show Steps p.tables e below (s₁.setTop (mkF m 2 #[.val (.int p0), .val (.int p1)] [(.int p1), (.int p0)])) _
      refine XS.icmpNo X0.here hx rfl (hb hby d2_2) rfl (flt hc1).1 ?_
      show Steps p.tables e below (s₁.setTop (mkF m 5 #[.val (.int p0), .val (.int p1)] [])) _
      refine XS.iloadN X0.here hx rfl (hb hby d2_5) rfl ?_
      show Steps p.tables e below (s₁.setTop (mkF m 6 #[.val (.int p0), .val (.int p1)] [(.int p0)])) _
      refine XS.goto X0.here hx rfl (pc0 := 6) (pc' := 10) rfl (hb hby d2_6) (by decide) (by decide) ?_
      show Steps p.tables e below (s₁.setTop (mkF m 10 #[.val (.int p0), .val (.int p1)] [(.int p0)])) _
      exact retI X0 hx Bd.returns (hb hby d2_10) hr
    · show Q2 Z p0 p1 h0 n0 _ s₁.heap _
      rw [e0]
      exact ⟨congrArg (fun z => some (Value.int z)) (own_max0 ohc1), N0, rfl⟩
def Q5 (Z : State) (p0 : Int32) (p1 : Int32) (p2 : Int32) (p3 : Int32) (h0 : Heap) (n0 : Nat) (v : Option Value) (h : Heap) (L : List Loc) : Prop := v = some (.int (bI (p0.toInt + p2.toInt ≤ p1.toInt ∧ p1.toInt ≤ p0.toInt + p2.toInt + p3.toInt))) ∧ Fr n0 L ∧ h = h0
set_option maxRecDepth 65536 in
set_option maxHeartbeats 40000000 in
theorem rm5 (l : Launch) (Z : State) (a0 : Array Value) (hw : ∀ d ∈ tables_1, d.before a0 Z = true) (ws : List Jvm.Cond) (p0 : Int32) (p1 : Int32) (p2 : Int32) (p3 : Int32) (h0 : Heap) (n0 : Nat) (Z0 : n0 ≤ h0.size) :
    MetFree l (⟨"com/example/cranfield/cranfield/search/OccurrencesFollowedWithinPinLaw", "hit", "(IIII)Z"⟩ : MethodName) (head1 (Jvm.Cond.code (⟨"com/example/cranfield/cranfield/search/OccurrencesFollowedWithinPinLaw", "hit", "(IIII)Z"⟩ : MethodName) method_4_code 8 (some .boolean) :: ws) ({ frames := 0, cells := 0, slots := 0, locals := 0 } : Room)) (fun a U => a = #[(.int p0), (.int p1), (.int p2), (.int p3)] ∧ Z.Warmed39 U.vm ∧ U.heap = h0) (fun _ _ _ _ _ => True) (fun _ U o U' => ∃ v L, o = .returned v ∧ Q5 Z p0 p1 p2 p3 h0 n0 v U'.heap L ∧ FrameEnd U o U' L ({ frames := 0, cells := 0, slots := 0, locals := 0 } : Room).cells ({ frames := 0, cells := 0, slots := 0, locals := 0 } : Room).slots) := by
  refine MetFree.of_bodySF (plainFor_of_name pn_com_example_cranfield_cranfield_search_OccurrencesFollowedWithinPinLaw) hisR ?_
  intro p e s m args below meth c s₁ Bd hml0 hP hK
  obtain ⟨rfl, hZ, hh⟩ := hP
  have hx := Bd.exec
  have hby := Bd.bytes
  have hml : c.maxLocals = 8 := hml0
  have hown : s.vm.findClass "com/example/cranfield/cranfield/search/OccurrencesFollowedWithinPinLaw" = some m.cls := findClass_of_methodNamed Bd.named
  have hnm := (name_of_methodNamed Bd.named Bd.method).1
  have X0 : Stand p l e ({ frames := 0, cells := 0, slots := 0, locals := 0 } : Room) s m #[(.int p0), (.int p1), (.int p2), (.int p3)] below meth c s₁ [] 0 0 := Stand.of_body Bd
  have e0 : s₁.heap = h0 := by rw [← hh, Bd.state]; rfl
  have N0 := Fr.nil n0
  have pre0 : ∀ t, Steps p.tables e below (s₁.setTop (mkF m 0 #[.val (.int p0), .val (.int p1), .val (.int p2), .val (.int p3), .unset, .unset, .unset, .unset] [])) t → Steps p.tables e below (s₁.setTop (entryFrame m #[(.int p0), (.int p1), (.int p2), (.int p3)] 8)) t := fun t k => castTop (ef_5 m p0 p1 p2 p3) k
  have preS : ∀ t, Steps p.tables e below (s₁.setTop (mkF m 0 #[.val (.int p0), .val (.int p1), .val (.int p2), .val (.int p3), .unset, .unset, .unset, .unset] [])) t → Steps p.tables e below (s₁.setTop (mkF m 0 #[.val (.int p0), .val (.int p1), .val (.int p2), .val (.int p3), .unset, .unset, .unset, .unset] [])) t := fun t k => k
  have a1 := c_ladd (p0.toInt64) (p2.toInt64)
  have a2 := c_ladd ((p0.toInt64) + (p2.toInt64)) (p3.toInt64)
  rw [c_i2l, c_i2l] at a1
  rw [c_i2l] at a2
  have r0 := rng32 p0
  have r1 := rng32 p1
  have r2 := rng32 p2
  have r3 := rng32 p3
  have r4 := rng64 ((p0.toInt64) + (p2.toInt64))
  have r5 := rng64 (((p0.toInt64) + (p2.toInt64)) + (p3.toInt64))
  have q1 := c_lcmp ((p0.toInt64) + (p2.toInt64)) (p1.toInt64)
  have q2 := c_lcmp (p1.toInt64) (((p0.toInt64) + (p2.toInt64)) + (p3.toInt64))
  rw [c_i2l] at q1 q2
  have pre2 : ∀ t, Steps p.tables e below (s₁.setTop (mkF m 19 #[.val (.int p0), .val (.int p1), .val (.int p2), .val (.int p3), .val (.long ((p0.toInt64) + (p2.toInt64))), .second, .val (.long (((p0.toInt64) + (p2.toInt64)) + (p3.toInt64))), .second] [(.int (lcmpW ((p0.toInt64) + (p2.toInt64)) (p1.toInt64)))])) t → Steps p.tables e below (s₁.setTop (mkF m 0 #[.val (.int p0), .val (.int p1), .val (.int p2), .val (.int p3), .unset, .unset, .unset, .unset] [])) t := fun t k => preS t (by
    show Steps p.tables e below (s₁.setTop (mkF m 0 #[.val (.int p0), .val (.int p1), .val (.int p2), .val (.int p3), .unset, .unset, .unset, .unset] [])) _
    refine XS.iloadN X0.here hx rfl (hb hby d5_0) rfl ?_
    show Steps p.tables e below (s₁.setTop (mkF m 1 #[.val (.int p0), .val (.int p1), .val (.int p2), .val (.int p3), .unset, .unset, .unset, .unset] [(.int p0)])) _
    refine XS.i2l X0.here hx rfl (hb hby d5_1) rfl ?_
    show Steps p.tables e below (s₁.setTop (mkF m 2 #[.val (.int p0), .val (.int p1), .val (.int p2), .val (.int p3), .unset, .unset, .unset, .unset] [(.long (p0.toInt64))])) _
    refine XS.iloadN X0.here hx rfl (hb hby d5_2) rfl ?_
    show Steps p.tables e below (s₁.setTop (mkF m 3 #[.val (.int p0), .val (.int p1), .val (.int p2), .val (.int p3), .unset, .unset, .unset, .unset] [(.int p2), (.long (p0.toInt64))])) _
    refine XS.i2l X0.here hx rfl (hb hby d5_3) rfl ?_
    show Steps p.tables e below (s₁.setTop (mkF m 4 #[.val (.int p0), .val (.int p1), .val (.int p2), .val (.int p3), .unset, .unset, .unset, .unset] [(.long (p2.toInt64)), (.long (p0.toInt64))])) _
    refine XS.ladd X0.here hx rfl (hb hby d5_4) rfl ?_
    show Steps p.tables e below (s₁.setTop (mkF m 5 #[.val (.int p0), .val (.int p1), .val (.int p2), .val (.int p3), .unset, .unset, .unset, .unset] [(.long ((p0.toInt64) + (p2.toInt64)))])) _
    refine XS.lstore X0.here hx rfl (hb hby d5_5) rfl (l' := #[.val (.int p0), .val (.int p1), .val (.int p2), .val (.int p3), .val (.long ((p0.toInt64) + (p2.toInt64))), .second, .unset, .unset]) rfl ?_
    show Steps p.tables e below (s₁.setTop (mkF m 7 #[.val (.int p0), .val (.int p1), .val (.int p2), .val (.int p3), .val (.long ((p0.toInt64) + (p2.toInt64))), .second, .unset, .unset] [])) _
    refine XS.lload X0.here hx rfl (hb hby d5_7) rfl ?_
    show Steps p.tables e below (s₁.setTop (mkF m 9 #[.val (.int p0), .val (.int p1), .val (.int p2), .val (.int p3), .val (.long ((p0.toInt64) + (p2.toInt64))), .second, .unset, .unset] [(.long ((p0.toInt64) + (p2.toInt64)))])) _
    refine XS.iloadN X0.here hx rfl (hb hby d5_9) rfl ?_
    show Steps p.tables e below (s₁.setTop (mkF m 10 #[.val (.int p0), .val (.int p1), .val (.int p2), .val (.int p3), .val (.long ((p0.toInt64) + (p2.toInt64))), .second, .unset, .unset] [(.int p3), (.long ((p0.toInt64) + (p2.toInt64)))])) _
    refine XS.i2l X0.here hx rfl (hb hby d5_10) rfl ?_
    show Steps p.tables e below (s₁.setTop (mkF m 11 #[.val (.int p0), .val (.int p1), .val (.int p2), .val (.int p3), .val (.long ((p0.toInt64) + (p2.toInt64))), .second, .unset, .unset] [(.long (p3.toInt64)), (.long ((p0.toInt64) + (p2.toInt64)))])) _
    refine XS.ladd X0.here hx rfl (hb hby d5_11) rfl ?_
    show Steps p.tables e below (s₁.setTop (mkF m 12 #[.val (.int p0), .val (.int p1), .val (.int p2), .val (.int p3), .val (.long ((p0.toInt64) + (p2.toInt64))), .second, .unset, .unset] [(.long (((p0.toInt64) + (p2.toInt64)) + (p3.toInt64)))])) _
    refine XS.lstore X0.here hx rfl (hb hby d5_12) rfl (l' := #[.val (.int p0), .val (.int p1), .val (.int p2), .val (.int p3), .val (.long ((p0.toInt64) + (p2.toInt64))), .second, .val (.long (((p0.toInt64) + (p2.toInt64)) + (p3.toInt64))), .second]) rfl ?_
    show Steps p.tables e below (s₁.setTop (mkF m 14 #[.val (.int p0), .val (.int p1), .val (.int p2), .val (.int p3), .val (.long ((p0.toInt64) + (p2.toInt64))), .second, .val (.long (((p0.toInt64) + (p2.toInt64)) + (p3.toInt64))), .second] [])) _
    refine XS.lload X0.here hx rfl (hb hby d5_14) rfl ?_
    show Steps p.tables e below (s₁.setTop (mkF m 16 #[.val (.int p0), .val (.int p1), .val (.int p2), .val (.int p3), .val (.long ((p0.toInt64) + (p2.toInt64))), .second, .val (.long (((p0.toInt64) + (p2.toInt64)) + (p3.toInt64))), .second] [(.long ((p0.toInt64) + (p2.toInt64)))])) _
    refine XS.iloadN X0.here hx rfl (hb hby d5_16) rfl ?_
    show Steps p.tables e below (s₁.setTop (mkF m 17 #[.val (.int p0), .val (.int p1), .val (.int p2), .val (.int p3), .val (.long ((p0.toInt64) + (p2.toInt64))), .second, .val (.long (((p0.toInt64) + (p2.toInt64)) + (p3.toInt64))), .second] [(.int p1), (.long ((p0.toInt64) + (p2.toInt64)))])) _
    refine XS.i2l X0.here hx rfl (hb hby d5_17) rfl ?_
    show Steps p.tables e below (s₁.setTop (mkF m 18 #[.val (.int p0), .val (.int p1), .val (.int p2), .val (.int p3), .val (.long ((p0.toInt64) + (p2.toInt64))), .second, .val (.long (((p0.toInt64) + (p2.toInt64)) + (p3.toInt64))), .second] [(.long (p1.toInt64)), (.long ((p0.toInt64) + (p2.toInt64)))])) _
    refine XS.lcmp X0.here hx rfl (hb hby d5_18) rfl ?_
    exact k)
  by_cases hc1 : (0 : Int32) < (lcmpW ((p0.toInt64) + (p2.toInt64)) (p1.toInt64))
  · skip
    have ohc1 : 0 < (lcmpW ((p0.toInt64) + (p2.toInt64)) (p1.toInt64)).toInt := own_lt.mp hc1
    obtain ⟨fs, hr, hrun, hended, hW, hsame⟩ := X0.leave (v := some (.int (0 : Int32))) (fun h => by rw [Bd.returns] at h; cases h)
    refine ⟨_, _, pre0 _ (pre2 _ ?_), hrun, hended, _, _, rfl, ?_, ⟨_, rfl⟩, hW, hsame.mono (by decide) (by decide)⟩
    · skip
      show Steps p.tables e below (s₁.setTop (mkF m 19 #[.val (.int p0), .val (.int p1), .val (.int p2), .val (.int p3), .val (.long ((p0.toInt64) + (p2.toInt64))), .second, .val (.long (((p0.toInt64) + (p2.toInt64)) + (p3.toInt64))), .second] [(.int (lcmpW ((p0.toInt64) + (p2.toInt64)) (p1.toInt64)))])) _
      refine XS.ifYes X0.here hx rfl (pc0 := 19) (pc' := 34) rfl (hb hby d5_19) rfl ((if0 _ _).trans (tlt hc1).2.2.1) (by decide) (by decide) ?_
      show Steps p.tables e below (s₁.setTop (mkF m 34 #[.val (.int p0), .val (.int p1), .val (.int p2), .val (.int p3), .val (.long ((p0.toInt64) + (p2.toInt64))), .second, .val (.long (((p0.toInt64) + (p2.toInt64)) + (p3.toInt64))), .second] [])) _
      refine XS.iconst X0.here hx rfl (hb hby d5_34) ?_
      show Steps p.tables e below (s₁.setTop (mkF m 35 #[.val (.int p0), .val (.int p1), .val (.int p2), .val (.int p3), .val (.long ((p0.toInt64) + (p2.toInt64))), .second, .val (.long (((p0.toInt64) + (p2.toInt64)) + (p3.toInt64))), .second] [(.int (0 : Int32))])) _
      exact retN X0 hx (t := .boolean) Bd.returns (by simp) (hb hby d5_35) hr
    · show Q5 Z p0 p1 p2 p3 h0 n0 _ s₁.heap _
      rw [e0]
      exact ⟨own_b0 (by omega), N0, rfl⟩
  · skip
    have ohc1 : (lcmpW ((p0.toInt64) + (p2.toInt64)) (p1.toInt64)).toInt ≤ 0 := own_nlt.mp hc1
    have pre4 : ∀ t, Steps p.tables e below (s₁.setTop (mkF m 27 #[.val (.int p0), .val (.int p1), .val (.int p2), .val (.int p3), .val (.long ((p0.toInt64) + (p2.toInt64))), .second, .val (.long (((p0.toInt64) + (p2.toInt64)) + (p3.toInt64))), .second] [(.int (lcmpW (p1.toInt64) (((p0.toInt64) + (p2.toInt64)) + (p3.toInt64))))])) t → Steps p.tables e below (s₁.setTop (mkF m 0 #[.val (.int p0), .val (.int p1), .val (.int p2), .val (.int p3), .unset, .unset, .unset, .unset] [])) t := fun t k => pre2 t (by
      show Steps p.tables e below (s₁.setTop (mkF m 19 #[.val (.int p0), .val (.int p1), .val (.int p2), .val (.int p3), .val (.long ((p0.toInt64) + (p2.toInt64))), .second, .val (.long (((p0.toInt64) + (p2.toInt64)) + (p3.toInt64))), .second] [(.int (lcmpW ((p0.toInt64) + (p2.toInt64)) (p1.toInt64)))])) _
      refine XS.ifNo X0.here hx rfl (hb hby d5_19) rfl ((if0 _ _).trans (flt hc1).2.2.1) ?_
      show Steps p.tables e below (s₁.setTop (mkF m 22 #[.val (.int p0), .val (.int p1), .val (.int p2), .val (.int p3), .val (.long ((p0.toInt64) + (p2.toInt64))), .second, .val (.long (((p0.toInt64) + (p2.toInt64)) + (p3.toInt64))), .second] [])) _
      refine XS.iloadN X0.here hx rfl (hb hby d5_22) rfl ?_
      show Steps p.tables e below (s₁.setTop (mkF m 23 #[.val (.int p0), .val (.int p1), .val (.int p2), .val (.int p3), .val (.long ((p0.toInt64) + (p2.toInt64))), .second, .val (.long (((p0.toInt64) + (p2.toInt64)) + (p3.toInt64))), .second] [(.int p1)])) _
      refine XS.i2l X0.here hx rfl (hb hby d5_23) rfl ?_
      show Steps p.tables e below (s₁.setTop (mkF m 24 #[.val (.int p0), .val (.int p1), .val (.int p2), .val (.int p3), .val (.long ((p0.toInt64) + (p2.toInt64))), .second, .val (.long (((p0.toInt64) + (p2.toInt64)) + (p3.toInt64))), .second] [(.long (p1.toInt64))])) _
      refine XS.lload X0.here hx rfl (hb hby d5_24) rfl ?_
      show Steps p.tables e below (s₁.setTop (mkF m 26 #[.val (.int p0), .val (.int p1), .val (.int p2), .val (.int p3), .val (.long ((p0.toInt64) + (p2.toInt64))), .second, .val (.long (((p0.toInt64) + (p2.toInt64)) + (p3.toInt64))), .second] [(.long (((p0.toInt64) + (p2.toInt64)) + (p3.toInt64))), (.long (p1.toInt64))])) _
      refine XS.lcmp X0.here hx rfl (hb hby d5_26) rfl ?_
      exact k)
    by_cases hc3 : (0 : Int32) < (lcmpW (p1.toInt64) (((p0.toInt64) + (p2.toInt64)) + (p3.toInt64)))
    · skip
      have ohc3 : 0 < (lcmpW (p1.toInt64) (((p0.toInt64) + (p2.toInt64)) + (p3.toInt64))).toInt := own_lt.mp hc3
      obtain ⟨fs, hr, hrun, hended, hW, hsame⟩ := X0.leave (v := some (.int (0 : Int32))) (fun h => by rw [Bd.returns] at h; cases h)
      refine ⟨_, _, pre0 _ (pre4 _ ?_), hrun, hended, _, _, rfl, ?_, ⟨_, rfl⟩, hW, hsame.mono (by decide) (by decide)⟩
      · skip
        show Steps p.tables e below (s₁.setTop (mkF m 27 #[.val (.int p0), .val (.int p1), .val (.int p2), .val (.int p3), .val (.long ((p0.toInt64) + (p2.toInt64))), .second, .val (.long (((p0.toInt64) + (p2.toInt64)) + (p3.toInt64))), .second] [(.int (lcmpW (p1.toInt64) (((p0.toInt64) + (p2.toInt64)) + (p3.toInt64))))])) _
        refine XS.ifYes X0.here hx rfl (pc0 := 27) (pc' := 34) rfl (hb hby d5_27) rfl ((if0 _ _).trans (tlt hc3).2.2.1) (by decide) (by decide) ?_
        show Steps p.tables e below (s₁.setTop (mkF m 34 #[.val (.int p0), .val (.int p1), .val (.int p2), .val (.int p3), .val (.long ((p0.toInt64) + (p2.toInt64))), .second, .val (.long (((p0.toInt64) + (p2.toInt64)) + (p3.toInt64))), .second] [])) _
        refine XS.iconst X0.here hx rfl (hb hby d5_34) ?_
        show Steps p.tables e below (s₁.setTop (mkF m 35 #[.val (.int p0), .val (.int p1), .val (.int p2), .val (.int p3), .val (.long ((p0.toInt64) + (p2.toInt64))), .second, .val (.long (((p0.toInt64) + (p2.toInt64)) + (p3.toInt64))), .second] [(.int (0 : Int32))])) _
        exact retN X0 hx (t := .boolean) Bd.returns (by simp) (hb hby d5_35) hr
      · show Q5 Z p0 p1 p2 p3 h0 n0 _ s₁.heap _
        rw [e0]
        exact ⟨own_b0 (by omega), N0, rfl⟩
    · skip
      have ohc3 : (lcmpW (p1.toInt64) (((p0.toInt64) + (p2.toInt64)) + (p3.toInt64))).toInt ≤ 0 := own_nlt.mp hc3
      obtain ⟨fs, hr, hrun, hended, hW, hsame⟩ := X0.leave (v := some (.int (1 : Int32))) (fun h => by rw [Bd.returns] at h; cases h)
      refine ⟨_, _, pre0 _ (pre4 _ ?_), hrun, hended, _, _, rfl, ?_, ⟨_, rfl⟩, hW, hsame.mono (by decide) (by decide)⟩
      · skip
        show Steps p.tables e below (s₁.setTop (mkF m 27 #[.val (.int p0), .val (.int p1), .val (.int p2), .val (.int p3), .val (.long ((p0.toInt64) + (p2.toInt64))), .second, .val (.long (((p0.toInt64) + (p2.toInt64)) + (p3.toInt64))), .second] [(.int (lcmpW (p1.toInt64) (((p0.toInt64) + (p2.toInt64)) + (p3.toInt64))))])) _
        refine XS.ifNo X0.here hx rfl (hb hby d5_27) rfl ((if0 _ _).trans (flt hc3).2.2.1) ?_
        show Steps p.tables e below (s₁.setTop (mkF m 30 #[.val (.int p0), .val (.int p1), .val (.int p2), .val (.int p3), .val (.long ((p0.toInt64) + (p2.toInt64))), .second, .val (.long (((p0.toInt64) + (p2.toInt64)) + (p3.toInt64))), .second] [])) _
        refine XS.iconst X0.here hx rfl (hb hby d5_30) ?_
        show Steps p.tables e below (s₁.setTop (mkF m 31 #[.val (.int p0), .val (.int p1), .val (.int p2), .val (.int p3), .val (.long ((p0.toInt64) + (p2.toInt64))), .second, .val (.long (((p0.toInt64) + (p2.toInt64)) + (p3.toInt64))), .second] [(.int (1 : Int32))])) _
        refine XS.goto X0.here hx rfl (pc0 := 31) (pc' := 35) rfl (hb hby d5_31) (by decide) (by decide) ?_
        show Steps p.tables e below (s₁.setTop (mkF m 35 #[.val (.int p0), .val (.int p1), .val (.int p2), .val (.int p3), .val (.long ((p0.toInt64) + (p2.toInt64))), .second, .val (.long (((p0.toInt64) + (p2.toInt64)) + (p3.toInt64))), .second] [(.int (1 : Int32))])) _
        exact retN X0 hx (t := .boolean) Bd.returns (by simp) (hb hby d5_35) hr
      · show Q5 Z p0 p1 p2 p3 h0 n0 _ s₁.heap _
        rw [e0]
        exact ⟨own_b1 (by omega), N0, rfl⟩
def Q3 (Z : State) (p0 : Int32) (p1 : Int32) (p2 : Int32) (p3 : Int32) (p4 : Int32) (p5 : Int32) (p6 : Int32) (h0 : Heap) (n0 : Nat) (v : Option Value) (h : Heap) (L : List Loc) : Prop := v = some (.int (bI ((1 ≤ p1.toInt ∧ p0.toInt + p5.toInt ≤ p2.toInt ∧ p2.toInt ≤ p0.toInt + p5.toInt + p6.toInt) ∨ (2 ≤ p1.toInt ∧ p0.toInt + p5.toInt ≤ p3.toInt ∧ p3.toInt ≤ p0.toInt + p5.toInt + p6.toInt) ∨ (3 ≤ p1.toInt ∧ p0.toInt + p5.toInt ≤ p4.toInt ∧ p4.toInt ≤ p0.toInt + p5.toInt + p6.toInt)))) ∧ Fr n0 L ∧ h = h0
set_option maxRecDepth 65536 in
set_option maxHeartbeats 40000000 in
theorem rm3 (l : Launch) (Z : State) (a0 : Array Value) (hw : ∀ d ∈ tables_1, d.before a0 Z = true) (ws : List Jvm.Cond) (p0 : Int32) (p1 : Int32) (p2 : Int32) (p3 : Int32) (p4 : Int32) (p5 : Int32) (p6 : Int32) (h0 : Heap) (n0 : Nat) (Z0 : n0 ≤ h0.size) :
    MetFree l (⟨"com/example/cranfield/cranfield/search/OccurrencesFollowedWithinPinLaw", "row", "(IIIIIII)Z"⟩ : MethodName) (head1 (Jvm.Cond.code (⟨"com/example/cranfield/cranfield/search/OccurrencesFollowedWithinPinLaw", "row", "(IIIIIII)Z"⟩ : MethodName) method_3_code 7 (some .boolean) :: ws) ({ frames := 1, cells := 0, slots := 0, locals := 19 } : Room)) (fun a U => a = #[(.int p0), (.int p1), (.int p2), (.int p3), (.int p4), (.int p5), (.int p6)] ∧ Z.Warmed39 U.vm ∧ U.heap = h0) (fun _ _ _ _ _ => True) (fun _ U o U' => ∃ v L, o = .returned v ∧ Q3 Z p0 p1 p2 p3 p4 p5 p6 h0 n0 v U'.heap L ∧ FrameEnd U o U' L ({ frames := 1, cells := 0, slots := 0, locals := 19 } : Room).cells ({ frames := 1, cells := 0, slots := 0, locals := 19 } : Room).slots) := by
  refine MetFree.of_bodySF (plainFor_of_name pn_com_example_cranfield_cranfield_search_OccurrencesFollowedWithinPinLaw) hisR ?_
  intro p e s m args below meth c s₁ Bd hml0 hP hK
  obtain ⟨rfl, hZ, hh⟩ := hP
  have hx := Bd.exec
  have hby := Bd.bytes
  have hml : c.maxLocals = 7 := hml0
  have hown : s.vm.findClass "com/example/cranfield/cranfield/search/OccurrencesFollowedWithinPinLaw" = some m.cls := findClass_of_methodNamed Bd.named
  have hnm := (name_of_methodNamed Bd.named Bd.method).1
  have X0 : Stand p l e ({ frames := 1, cells := 0, slots := 0, locals := 19 } : Room) s m #[(.int p0), (.int p1), (.int p2), (.int p3), (.int p4), (.int p5), (.int p6)] below meth c s₁ [] 0 0 := Stand.of_body Bd
  have e0 : s₁.heap = h0 := by rw [← hh, Bd.state]; rfl
  have N0 := Fr.nil n0
  have pre0 : ∀ t, Steps p.tables e below (s₁.setTop (mkF m 0 #[.val (.int p0), .val (.int p1), .val (.int p2), .val (.int p3), .val (.int p4), .val (.int p5), .val (.int p6)] [])) t → Steps p.tables e below (s₁.setTop (entryFrame m #[(.int p0), (.int p1), (.int p2), (.int p3), (.int p4), (.int p5), (.int p6)] 7)) t := fun t k => castTop (ef_3 m p0 p1 p2 p3 p4 p5 p6) k
  have preS : ∀ t, Steps p.tables e below (s₁.setTop (mkF m 0 #[.val (.int p0), .val (.int p1), .val (.int p2), .val (.int p3), .val (.int p4), .val (.int p5), .val (.int p6)] [])) t → Steps p.tables e below (s₁.setTop (mkF m 0 #[.val (.int p0), .val (.int p1), .val (.int p2), .val (.int p3), .val (.int p4), .val (.int p5), .val (.int p6)] [])) t := fun t k => k
  have pre2 : ∀ t, Steps p.tables e below (s₁.setTop (mkF m 2 #[.val (.int p0), .val (.int p1), .val (.int p2), .val (.int p3), .val (.int p4), .val (.int p5), .val (.int p6)] [(.int (1 : Int32)), (.int p1)])) t → Steps p.tables e below (s₁.setTop (mkF m 0 #[.val (.int p0), .val (.int p1), .val (.int p2), .val (.int p3), .val (.int p4), .val (.int p5), .val (.int p6)] [])) t := fun t k => preS t (by
    show Steps p.tables e below (s₁.setTop (mkF m 0 #[.val (.int p0), .val (.int p1), .val (.int p2), .val (.int p3), .val (.int p4), .val (.int p5), .val (.int p6)] [])) _
    refine XS.iloadN X0.here hx rfl (hb hby d3_0) rfl ?_
    show Steps p.tables e below (s₁.setTop (mkF m 1 #[.val (.int p0), .val (.int p1), .val (.int p2), .val (.int p3), .val (.int p4), .val (.int p5), .val (.int p6)] [(.int p1)])) _
    refine XS.iconst X0.here hx rfl (hb hby d3_1) ?_
    exact k)
  by_cases hc1 : p1 < (1 : Int32)
  · skip
    have ohc1 : p1.toInt < 1 := own_lt.mp hc1
    have pre4 : ∀ t, Steps p.tables e below (s₁.setTop (mkF m 21 #[.val (.int p0), .val (.int p1), .val (.int p2), .val (.int p3), .val (.int p4), .val (.int p5), .val (.int p6)] [(.int (2 : Int32)), (.int p1)])) t → Steps p.tables e below (s₁.setTop (mkF m 0 #[.val (.int p0), .val (.int p1), .val (.int p2), .val (.int p3), .val (.int p4), .val (.int p5), .val (.int p6)] [])) t := fun t k => pre2 t (by
      show Steps p.tables e below (s₁.setTop (mkF m 2 #[.val (.int p0), .val (.int p1), .val (.int p2), .val (.int p3), .val (.int p4), .val (.int p5), .val (.int p6)] [(.int (1 : Int32)), (.int p1)])) _
      refine XS.icmpYes X0.here hx rfl (pc0 := 2) (pc' := 19) rfl (hb hby d3_2) rfl (tlt hc1).1 (by decide) (by decide) ?_
      show Steps p.tables e below (s₁.setTop (mkF m 19 #[.val (.int p0), .val (.int p1), .val (.int p2), .val (.int p3), .val (.int p4), .val (.int p5), .val (.int p6)] [])) _
      refine XS.iloadN X0.here hx rfl (hb hby d3_19) rfl ?_
      show Steps p.tables e below (s₁.setTop (mkF m 20 #[.val (.int p0), .val (.int p1), .val (.int p2), .val (.int p3), .val (.int p4), .val (.int p5), .val (.int p6)] [(.int p1)])) _
      refine XS.iconst X0.here hx rfl (hb hby d3_20) ?_
      exact k)
    by_cases hc3 : p1 < (2 : Int32)
    · skip
      have ohc3 : p1.toInt < 2 := own_lt.mp hc3
      have pre6 : ∀ t, Steps p.tables e below (s₁.setTop (mkF m 40 #[.val (.int p0), .val (.int p1), .val (.int p2), .val (.int p3), .val (.int p4), .val (.int p5), .val (.int p6)] [(.int (3 : Int32)), (.int p1)])) t → Steps p.tables e below (s₁.setTop (mkF m 0 #[.val (.int p0), .val (.int p1), .val (.int p2), .val (.int p3), .val (.int p4), .val (.int p5), .val (.int p6)] [])) t := fun t k => pre4 t (by
        show Steps p.tables e below (s₁.setTop (mkF m 21 #[.val (.int p0), .val (.int p1), .val (.int p2), .val (.int p3), .val (.int p4), .val (.int p5), .val (.int p6)] [(.int (2 : Int32)), (.int p1)])) _
        refine XS.icmpYes X0.here hx rfl (pc0 := 21) (pc' := 38) rfl (hb hby d3_21) rfl (tlt hc3).1 (by decide) (by decide) ?_
        show Steps p.tables e below (s₁.setTop (mkF m 38 #[.val (.int p0), .val (.int p1), .val (.int p2), .val (.int p3), .val (.int p4), .val (.int p5), .val (.int p6)] [])) _
        refine XS.iloadN X0.here hx rfl (hb hby d3_38) rfl ?_
        show Steps p.tables e below (s₁.setTop (mkF m 39 #[.val (.int p0), .val (.int p1), .val (.int p2), .val (.int p3), .val (.int p4), .val (.int p5), .val (.int p6)] [(.int p1)])) _
        refine XS.iconst X0.here hx rfl (hb hby d3_39) ?_
        exact k)
      by_cases hc5 : p1 < (3 : Int32)
      · skip
        have ohc5 : p1.toInt < 3 := own_lt.mp hc5
        obtain ⟨fs, hr, hrun, hended, hW, hsame⟩ := X0.leave (v := some (.int (0 : Int32))) (fun h => by rw [Bd.returns] at h; cases h)
        refine ⟨_, _, pre0 _ (pre6 _ ?_), hrun, hended, _, _, rfl, ?_, ⟨_, rfl⟩, hW, hsame.mono (by decide) (by decide)⟩
        · skip
          show Steps p.tables e below (s₁.setTop (mkF m 40 #[.val (.int p0), .val (.int p1), .val (.int p2), .val (.int p3), .val (.int p4), .val (.int p5), .val (.int p6)] [(.int (3 : Int32)), (.int p1)])) _
          refine XS.icmpYes X0.here hx rfl (pc0 := 40) (pc' := 60) rfl (hb hby d3_40) rfl (tlt hc5).1 (by decide) (by decide) ?_
          show Steps p.tables e below (s₁.setTop (mkF m 60 #[.val (.int p0), .val (.int p1), .val (.int p2), .val (.int p3), .val (.int p4), .val (.int p5), .val (.int p6)] [])) _
          refine XS.iconst X0.here hx rfl (hb hby d3_60) ?_
          show Steps p.tables e below (s₁.setTop (mkF m 61 #[.val (.int p0), .val (.int p1), .val (.int p2), .val (.int p3), .val (.int p4), .val (.int p5), .val (.int p6)] [(.int (0 : Int32))])) _
          exact retN X0 hx (t := .boolean) Bd.returns (by simp) (hb hby d3_61) hr
        · show Q3 Z p0 p1 p2 p3 p4 p5 p6 h0 n0 _ s₁.heap _
          rw [e0]
          exact ⟨own_b0 (by omega), N0, rfl⟩
      · skip
        have ohc5 : 3 ≤ p1.toInt := own_nlt.mp hc5
        obtain ⟨_, _, ⟨T7, L7, k7, n7⟩, -, X7, ⟨Lc7, hQ7, l7, y7, z7⟩, st7⟩ := Jvm.LawKit.callS X0 hx (y := (⟨"com/example/cranfield/cranfield/search/OccurrencesFollowedWithinPinLaw", "hit", "(IIII)Z"⟩ : MethodName)) hown (mvT hZ (hw _ (List.mem_of_getElem? (i := 17) rfl))) (mvT hZ (hw _ (List.mem_of_getElem? (i := 18) rfl))) (mvT hZ (hw _ (List.mem_of_getElem? (i := 11) rfl))) (mvT hZ (hw _ (List.mem_of_getElem? (i := 19) rfl))) (by decide) (backOf (W := 0) (rm5 l Z a0 hw [] p0 p4 p5 p6  h0 n0 Z0 ) hZ (hw _ (List.mem_of_getElem? (i := 19) rfl)) (hw _ (List.mem_of_getElem? (i := 11) rfl)) (by decide) (by decide)) (g := (mkF m 50 #[.val (.int p0), .val (.int p1), .val (.int p2), .val (.int p3), .val (.int p4), .val (.int p5), .val (.int p6)] [(.int p6), (.int p5), (.int p4), (.int p0)])) rfl (by rw [hml]; rfl) (argsL := [(.int p0), (.int p4), (.int p5), (.int p6)]) (rest := []) (lenOf pd_0 rfl) rfl (by show 2 * 0 + _ ≤ _; exact Nat.le_of_eq rfl) (hb hby d3_50) (fun _ _ => ⟨rfl, e0, (by decide : 0 + 0 ≤ _), (by decide : 0 + 0 ≤ _)⟩)
        dsimp only [Pt.U, Pt.locs, Pt.cells, Pt.slots] at X7 l7 y7 z7 st7 hQ7
        subst l7 y7 z7
        obtain ⟨rfl, Nq7, e7⟩ := hQ7
        have N7 := Fr.app N0 Nq7
        have t7 := own_bt (P := p0.toInt + p5.toInt ≤ p4.toInt ∧ p4.toInt ≤ p0.toInt + p5.toInt + p6.toInt)
        have pre9 : ∀ t, Steps p.tables e below (T7.setTop (mkF m 53 #[.val (.int p0), .val (.int p1), .val (.int p2), .val (.int p3), .val (.int p4), .val (.int p5), .val (.int p6)] [(.int (bI (p0.toInt + p5.toInt ≤ p4.toInt ∧ p4.toInt ≤ p0.toInt + p5.toInt + p6.toInt)))])) t → Steps p.tables e below (s₁.setTop (mkF m 0 #[.val (.int p0), .val (.int p1), .val (.int p2), .val (.int p3), .val (.int p4), .val (.int p5), .val (.int p6)] [])) t := fun t k => pre6 t (by
          show Steps p.tables e below (s₁.setTop (mkF m 40 #[.val (.int p0), .val (.int p1), .val (.int p2), .val (.int p3), .val (.int p4), .val (.int p5), .val (.int p6)] [(.int (3 : Int32)), (.int p1)])) _
          refine XS.icmpNo X0.here hx rfl (hb hby d3_40) rfl (flt hc5).1 ?_
          show Steps p.tables e below (s₁.setTop (mkF m 43 #[.val (.int p0), .val (.int p1), .val (.int p2), .val (.int p3), .val (.int p4), .val (.int p5), .val (.int p6)] [])) _
          refine XS.iloadN X0.here hx rfl (hb hby d3_43) rfl ?_
          show Steps p.tables e below (s₁.setTop (mkF m 44 #[.val (.int p0), .val (.int p1), .val (.int p2), .val (.int p3), .val (.int p4), .val (.int p5), .val (.int p6)] [(.int p0)])) _
          refine XS.iload X0.here hx rfl (hb hby d3_44) rfl ?_
          show Steps p.tables e below (s₁.setTop (mkF m 46 #[.val (.int p0), .val (.int p1), .val (.int p2), .val (.int p3), .val (.int p4), .val (.int p5), .val (.int p6)] [(.int p4), (.int p0)])) _
          refine XS.iload X0.here hx rfl (hb hby d3_46) rfl ?_
          show Steps p.tables e below (s₁.setTop (mkF m 48 #[.val (.int p0), .val (.int p1), .val (.int p2), .val (.int p3), .val (.int p4), .val (.int p5), .val (.int p6)] [(.int p5), (.int p4), (.int p0)])) _
          refine XS.iload X0.here hx rfl (hb hby d3_48) rfl ?_
          show Steps p.tables e below (s₁.setTop (mkF m 50 #[.val (.int p0), .val (.int p1), .val (.int p2), .val (.int p3), .val (.int p4), .val (.int p5), .val (.int p6)] [(.int p6), (.int p5), (.int p4), (.int p0)])) _
          refine st7 _ ?_
          exact k)
        by_cases hc8 : (bI (p0.toInt + p5.toInt ≤ p4.toInt ∧ p4.toInt ≤ p0.toInt + p5.toInt + p6.toInt)) = (0 : Int32)
        · skip
          have ohc8 : (bI (p0.toInt + p5.toInt ≤ p4.toInt ∧ p4.toInt ≤ p0.toInt + p5.toInt + p6.toInt)).toInt = 0 := own_eq.mp hc8
          obtain ⟨fs, hr, hrun, hended, hW, hsame⟩ := X7.leave (v := some (.int (0 : Int32))) (fun h => by rw [Bd.returns] at h; cases h)
          refine ⟨_, _, pre0 _ (pre9 _ ?_), hrun, hended, _, _, rfl, ?_, ⟨_, rfl⟩, hW, hsame.mono (by decide) (by decide)⟩
          · skip
            show Steps p.tables e below (T7.setTop (mkF m 53 #[.val (.int p0), .val (.int p1), .val (.int p2), .val (.int p3), .val (.int p4), .val (.int p5), .val (.int p6)] [(.int (bI (p0.toInt + p5.toInt ≤ p4.toInt ∧ p4.toInt ≤ p0.toInt + p5.toInt + p6.toInt)))])) _
            refine XS.ifYes X7.here hx rfl (pc0 := 53) (pc' := 60) rfl (hb hby d3_53) rfl ((if0 _ _).trans (teq hc8).1) (by decide) (by decide) ?_
            show Steps p.tables e below (T7.setTop (mkF m 60 #[.val (.int p0), .val (.int p1), .val (.int p2), .val (.int p3), .val (.int p4), .val (.int p5), .val (.int p6)] [])) _
            refine XS.iconst X7.here hx rfl (hb hby d3_60) ?_
            show Steps p.tables e below (T7.setTop (mkF m 61 #[.val (.int p0), .val (.int p1), .val (.int p2), .val (.int p3), .val (.int p4), .val (.int p5), .val (.int p6)] [(.int (0 : Int32))])) _
            exact retN X7 hx (t := .boolean) Bd.returns (by simp) (hb hby d3_61) hr
          · show Q3 Z p0 p1 p2 p3 p4 p5 p6 h0 n0 _ T7.heap _
            rw [e7]
            exact ⟨own_b0 (by omega), N7, rfl⟩
        · skip
          have ohc8 : ¬ ((bI (p0.toInt + p5.toInt ≤ p4.toInt ∧ p4.toInt ≤ p0.toInt + p5.toInt + p6.toInt)).toInt = 0) := own_neq.mp hc8
          obtain ⟨fs, hr, hrun, hended, hW, hsame⟩ := X7.leave (v := some (.int (1 : Int32))) (fun h => by rw [Bd.returns] at h; cases h)
          refine ⟨_, _, pre0 _ (pre9 _ ?_), hrun, hended, _, _, rfl, ?_, ⟨_, rfl⟩, hW, hsame.mono (by decide) (by decide)⟩
          · skip
            show Steps p.tables e below (T7.setTop (mkF m 53 #[.val (.int p0), .val (.int p1), .val (.int p2), .val (.int p3), .val (.int p4), .val (.int p5), .val (.int p6)] [(.int (bI (p0.toInt + p5.toInt ≤ p4.toInt ∧ p4.toInt ≤ p0.toInt + p5.toInt + p6.toInt)))])) _
            refine XS.ifNo X7.here hx rfl (hb hby d3_53) rfl ((if0 _ _).trans (feq hc8).1) ?_
            show Steps p.tables e below (T7.setTop (mkF m 56 #[.val (.int p0), .val (.int p1), .val (.int p2), .val (.int p3), .val (.int p4), .val (.int p5), .val (.int p6)] [])) _
            refine XS.iconst X7.here hx rfl (hb hby d3_56) ?_
            show Steps p.tables e below (T7.setTop (mkF m 57 #[.val (.int p0), .val (.int p1), .val (.int p2), .val (.int p3), .val (.int p4), .val (.int p5), .val (.int p6)] [(.int (1 : Int32))])) _
            refine XS.goto X7.here hx rfl (pc0 := 57) (pc' := 61) rfl (hb hby d3_57) (by decide) (by decide) ?_
            show Steps p.tables e below (T7.setTop (mkF m 61 #[.val (.int p0), .val (.int p1), .val (.int p2), .val (.int p3), .val (.int p4), .val (.int p5), .val (.int p6)] [(.int (1 : Int32))])) _
            exact retN X7 hx (t := .boolean) Bd.returns (by simp) (hb hby d3_61) hr
          · show Q3 Z p0 p1 p2 p3 p4 p5 p6 h0 n0 _ T7.heap _
            rw [e7]
            exact ⟨own_b1 (by omega), N7, rfl⟩
    · skip
      have ohc3 : 2 ≤ p1.toInt := own_nlt.mp hc3
      obtain ⟨_, _, ⟨T10, L10, k10, n10⟩, -, X10, ⟨Lc10, hQ10, l10, y10, z10⟩, st10⟩ := Jvm.LawKit.callS X0 hx (y := (⟨"com/example/cranfield/cranfield/search/OccurrencesFollowedWithinPinLaw", "hit", "(IIII)Z"⟩ : MethodName)) hown (mvT hZ (hw _ (List.mem_of_getElem? (i := 17) rfl))) (mvT hZ (hw _ (List.mem_of_getElem? (i := 18) rfl))) (mvT hZ (hw _ (List.mem_of_getElem? (i := 11) rfl))) (mvT hZ (hw _ (List.mem_of_getElem? (i := 19) rfl))) (by decide) (backOf (W := 0) (rm5 l Z a0 hw [] p0 p3 p5 p6  h0 n0 Z0 ) hZ (hw _ (List.mem_of_getElem? (i := 19) rfl)) (hw _ (List.mem_of_getElem? (i := 11) rfl)) (by decide) (by decide)) (g := (mkF m 30 #[.val (.int p0), .val (.int p1), .val (.int p2), .val (.int p3), .val (.int p4), .val (.int p5), .val (.int p6)] [(.int p6), (.int p5), (.int p3), (.int p0)])) rfl (by rw [hml]; rfl) (argsL := [(.int p0), (.int p3), (.int p5), (.int p6)]) (rest := []) (lenOf pd_0 rfl) rfl (by show 2 * 0 + _ ≤ _; exact Nat.le_of_eq rfl) (hb hby d3_30) (fun _ _ => ⟨rfl, e0, (by decide : 0 + 0 ≤ _), (by decide : 0 + 0 ≤ _)⟩)
      dsimp only [Pt.U, Pt.locs, Pt.cells, Pt.slots] at X10 l10 y10 z10 st10 hQ10
      subst l10 y10 z10
      obtain ⟨rfl, Nq10, e10⟩ := hQ10
      have N10 := Fr.app N0 Nq10
      have t10 := own_bt (P := p0.toInt + p5.toInt ≤ p3.toInt ∧ p3.toInt ≤ p0.toInt + p5.toInt + p6.toInt)
      have pre12 : ∀ t, Steps p.tables e below (T10.setTop (mkF m 33 #[.val (.int p0), .val (.int p1), .val (.int p2), .val (.int p3), .val (.int p4), .val (.int p5), .val (.int p6)] [(.int (bI (p0.toInt + p5.toInt ≤ p3.toInt ∧ p3.toInt ≤ p0.toInt + p5.toInt + p6.toInt)))])) t → Steps p.tables e below (s₁.setTop (mkF m 0 #[.val (.int p0), .val (.int p1), .val (.int p2), .val (.int p3), .val (.int p4), .val (.int p5), .val (.int p6)] [])) t := fun t k => pre4 t (by
        show Steps p.tables e below (s₁.setTop (mkF m 21 #[.val (.int p0), .val (.int p1), .val (.int p2), .val (.int p3), .val (.int p4), .val (.int p5), .val (.int p6)] [(.int (2 : Int32)), (.int p1)])) _
        refine XS.icmpNo X0.here hx rfl (hb hby d3_21) rfl (flt hc3).1 ?_
        show Steps p.tables e below (s₁.setTop (mkF m 24 #[.val (.int p0), .val (.int p1), .val (.int p2), .val (.int p3), .val (.int p4), .val (.int p5), .val (.int p6)] [])) _
        refine XS.iloadN X0.here hx rfl (hb hby d3_24) rfl ?_
        show Steps p.tables e below (s₁.setTop (mkF m 25 #[.val (.int p0), .val (.int p1), .val (.int p2), .val (.int p3), .val (.int p4), .val (.int p5), .val (.int p6)] [(.int p0)])) _
        refine XS.iloadN X0.here hx rfl (hb hby d3_25) rfl ?_
        show Steps p.tables e below (s₁.setTop (mkF m 26 #[.val (.int p0), .val (.int p1), .val (.int p2), .val (.int p3), .val (.int p4), .val (.int p5), .val (.int p6)] [(.int p3), (.int p0)])) _
        refine XS.iload X0.here hx rfl (hb hby d3_26) rfl ?_
        show Steps p.tables e below (s₁.setTop (mkF m 28 #[.val (.int p0), .val (.int p1), .val (.int p2), .val (.int p3), .val (.int p4), .val (.int p5), .val (.int p6)] [(.int p5), (.int p3), (.int p0)])) _
        refine XS.iload X0.here hx rfl (hb hby d3_28) rfl ?_
        show Steps p.tables e below (s₁.setTop (mkF m 30 #[.val (.int p0), .val (.int p1), .val (.int p2), .val (.int p3), .val (.int p4), .val (.int p5), .val (.int p6)] [(.int p6), (.int p5), (.int p3), (.int p0)])) _
        refine st10 _ ?_
        exact k)
      by_cases hc11 : (bI (p0.toInt + p5.toInt ≤ p3.toInt ∧ p3.toInt ≤ p0.toInt + p5.toInt + p6.toInt)) = (0 : Int32)
      · skip
        have ohc11 : (bI (p0.toInt + p5.toInt ≤ p3.toInt ∧ p3.toInt ≤ p0.toInt + p5.toInt + p6.toInt)).toInt = 0 := own_eq.mp hc11
        have pre14 : ∀ t, Steps p.tables e below (T10.setTop (mkF m 40 #[.val (.int p0), .val (.int p1), .val (.int p2), .val (.int p3), .val (.int p4), .val (.int p5), .val (.int p6)] [(.int (3 : Int32)), (.int p1)])) t → Steps p.tables e below (s₁.setTop (mkF m 0 #[.val (.int p0), .val (.int p1), .val (.int p2), .val (.int p3), .val (.int p4), .val (.int p5), .val (.int p6)] [])) t := fun t k => pre12 t (by
          show Steps p.tables e below (T10.setTop (mkF m 33 #[.val (.int p0), .val (.int p1), .val (.int p2), .val (.int p3), .val (.int p4), .val (.int p5), .val (.int p6)] [(.int (bI (p0.toInt + p5.toInt ≤ p3.toInt ∧ p3.toInt ≤ p0.toInt + p5.toInt + p6.toInt)))])) _
          refine XS.ifYes X10.here hx rfl (pc0 := 33) (pc' := 38) rfl (hb hby d3_33) rfl ((if0 _ _).trans (teq hc11).1) (by decide) (by decide) ?_
          show Steps p.tables e below (T10.setTop (mkF m 38 #[.val (.int p0), .val (.int p1), .val (.int p2), .val (.int p3), .val (.int p4), .val (.int p5), .val (.int p6)] [])) _
          refine XS.iloadN X10.here hx rfl (hb hby d3_38) rfl ?_
          show Steps p.tables e below (T10.setTop (mkF m 39 #[.val (.int p0), .val (.int p1), .val (.int p2), .val (.int p3), .val (.int p4), .val (.int p5), .val (.int p6)] [(.int p1)])) _
          refine XS.iconst X10.here hx rfl (hb hby d3_39) ?_
          exact k)
        by_cases hc13 : p1 < (3 : Int32)
        · skip
          have ohc13 : p1.toInt < 3 := own_lt.mp hc13
          obtain ⟨fs, hr, hrun, hended, hW, hsame⟩ := X10.leave (v := some (.int (0 : Int32))) (fun h => by rw [Bd.returns] at h; cases h)
          refine ⟨_, _, pre0 _ (pre14 _ ?_), hrun, hended, _, _, rfl, ?_, ⟨_, rfl⟩, hW, hsame.mono (by decide) (by decide)⟩
          · skip
            show Steps p.tables e below (T10.setTop (mkF m 40 #[.val (.int p0), .val (.int p1), .val (.int p2), .val (.int p3), .val (.int p4), .val (.int p5), .val (.int p6)] [(.int (3 : Int32)), (.int p1)])) _
            refine XS.icmpYes X10.here hx rfl (pc0 := 40) (pc' := 60) rfl (hb hby d3_40) rfl (tlt hc13).1 (by decide) (by decide) ?_
            show Steps p.tables e below (T10.setTop (mkF m 60 #[.val (.int p0), .val (.int p1), .val (.int p2), .val (.int p3), .val (.int p4), .val (.int p5), .val (.int p6)] [])) _
            refine XS.iconst X10.here hx rfl (hb hby d3_60) ?_
            show Steps p.tables e below (T10.setTop (mkF m 61 #[.val (.int p0), .val (.int p1), .val (.int p2), .val (.int p3), .val (.int p4), .val (.int p5), .val (.int p6)] [(.int (0 : Int32))])) _
            exact retN X10 hx (t := .boolean) Bd.returns (by simp) (hb hby d3_61) hr
          · show Q3 Z p0 p1 p2 p3 p4 p5 p6 h0 n0 _ T10.heap _
            rw [e10]
            exact ⟨own_b0 (by omega), N10, rfl⟩
        · skip
          have ohc13 : 3 ≤ p1.toInt := own_nlt.mp hc13
          obtain ⟨_, _, ⟨T15, L15, k15, n15⟩, -, X15, ⟨Lc15, hQ15, l15, y15, z15⟩, st15⟩ := Jvm.LawKit.callS X10 hx (y := (⟨"com/example/cranfield/cranfield/search/OccurrencesFollowedWithinPinLaw", "hit", "(IIII)Z"⟩ : MethodName)) hown (mvT hZ (hw _ (List.mem_of_getElem? (i := 17) rfl))) (mvT hZ (hw _ (List.mem_of_getElem? (i := 18) rfl))) (mvT hZ (hw _ (List.mem_of_getElem? (i := 11) rfl))) (mvT hZ (hw _ (List.mem_of_getElem? (i := 19) rfl))) (by decide) (backOf (W := 0) (rm5 l Z a0 hw [] p0 p4 p5 p6  h0 n0 Z0 ) hZ (hw _ (List.mem_of_getElem? (i := 19) rfl)) (hw _ (List.mem_of_getElem? (i := 11) rfl)) (by decide) (by decide)) (g := (mkF m 50 #[.val (.int p0), .val (.int p1), .val (.int p2), .val (.int p3), .val (.int p4), .val (.int p5), .val (.int p6)] [(.int p6), (.int p5), (.int p4), (.int p0)])) rfl (by rw [hml]; rfl) (argsL := [(.int p0), (.int p4), (.int p5), (.int p6)]) (rest := []) (lenOf pd_0 rfl) rfl (by show 2 * 0 + _ ≤ _; exact Nat.le_of_eq rfl) (hb hby d3_50) (fun _ _ => ⟨rfl, e10, (by decide : 0 + 0 ≤ _), (by decide : 0 + 0 ≤ _)⟩)
          dsimp only [Pt.U, Pt.locs, Pt.cells, Pt.slots] at X15 l15 y15 z15 st15 hQ15
          subst l15 y15 z15
          obtain ⟨rfl, Nq15, e15⟩ := hQ15
          have N15 := Fr.app N10 Nq15
          have t15 := own_bt (P := p0.toInt + p5.toInt ≤ p4.toInt ∧ p4.toInt ≤ p0.toInt + p5.toInt + p6.toInt)
          have pre17 : ∀ t, Steps p.tables e below (T15.setTop (mkF m 53 #[.val (.int p0), .val (.int p1), .val (.int p2), .val (.int p3), .val (.int p4), .val (.int p5), .val (.int p6)] [(.int (bI (p0.toInt + p5.toInt ≤ p4.toInt ∧ p4.toInt ≤ p0.toInt + p5.toInt + p6.toInt)))])) t → Steps p.tables e below (s₁.setTop (mkF m 0 #[.val (.int p0), .val (.int p1), .val (.int p2), .val (.int p3), .val (.int p4), .val (.int p5), .val (.int p6)] [])) t := fun t k => pre14 t (by
            show Steps p.tables e below (T10.setTop (mkF m 40 #[.val (.int p0), .val (.int p1), .val (.int p2), .val (.int p3), .val (.int p4), .val (.int p5), .val (.int p6)] [(.int (3 : Int32)), (.int p1)])) _
            refine XS.icmpNo X10.here hx rfl (hb hby d3_40) rfl (flt hc13).1 ?_
            show Steps p.tables e below (T10.setTop (mkF m 43 #[.val (.int p0), .val (.int p1), .val (.int p2), .val (.int p3), .val (.int p4), .val (.int p5), .val (.int p6)] [])) _
            refine XS.iloadN X10.here hx rfl (hb hby d3_43) rfl ?_
            show Steps p.tables e below (T10.setTop (mkF m 44 #[.val (.int p0), .val (.int p1), .val (.int p2), .val (.int p3), .val (.int p4), .val (.int p5), .val (.int p6)] [(.int p0)])) _
            refine XS.iload X10.here hx rfl (hb hby d3_44) rfl ?_
            show Steps p.tables e below (T10.setTop (mkF m 46 #[.val (.int p0), .val (.int p1), .val (.int p2), .val (.int p3), .val (.int p4), .val (.int p5), .val (.int p6)] [(.int p4), (.int p0)])) _
            refine XS.iload X10.here hx rfl (hb hby d3_46) rfl ?_
            show Steps p.tables e below (T10.setTop (mkF m 48 #[.val (.int p0), .val (.int p1), .val (.int p2), .val (.int p3), .val (.int p4), .val (.int p5), .val (.int p6)] [(.int p5), (.int p4), (.int p0)])) _
            refine XS.iload X10.here hx rfl (hb hby d3_48) rfl ?_
            show Steps p.tables e below (T10.setTop (mkF m 50 #[.val (.int p0), .val (.int p1), .val (.int p2), .val (.int p3), .val (.int p4), .val (.int p5), .val (.int p6)] [(.int p6), (.int p5), (.int p4), (.int p0)])) _
            refine st15 _ ?_
            exact k)
          by_cases hc16 : (bI (p0.toInt + p5.toInt ≤ p4.toInt ∧ p4.toInt ≤ p0.toInt + p5.toInt + p6.toInt)) = (0 : Int32)
          · skip
            have ohc16 : (bI (p0.toInt + p5.toInt ≤ p4.toInt ∧ p4.toInt ≤ p0.toInt + p5.toInt + p6.toInt)).toInt = 0 := own_eq.mp hc16
            obtain ⟨fs, hr, hrun, hended, hW, hsame⟩ := X15.leave (v := some (.int (0 : Int32))) (fun h => by rw [Bd.returns] at h; cases h)
            refine ⟨_, _, pre0 _ (pre17 _ ?_), hrun, hended, _, _, rfl, ?_, ⟨_, rfl⟩, hW, hsame.mono (by decide) (by decide)⟩
            · skip
              show Steps p.tables e below (T15.setTop (mkF m 53 #[.val (.int p0), .val (.int p1), .val (.int p2), .val (.int p3), .val (.int p4), .val (.int p5), .val (.int p6)] [(.int (bI (p0.toInt + p5.toInt ≤ p4.toInt ∧ p4.toInt ≤ p0.toInt + p5.toInt + p6.toInt)))])) _
              refine XS.ifYes X15.here hx rfl (pc0 := 53) (pc' := 60) rfl (hb hby d3_53) rfl ((if0 _ _).trans (teq hc16).1) (by decide) (by decide) ?_
              show Steps p.tables e below (T15.setTop (mkF m 60 #[.val (.int p0), .val (.int p1), .val (.int p2), .val (.int p3), .val (.int p4), .val (.int p5), .val (.int p6)] [])) _
              refine XS.iconst X15.here hx rfl (hb hby d3_60) ?_
              show Steps p.tables e below (T15.setTop (mkF m 61 #[.val (.int p0), .val (.int p1), .val (.int p2), .val (.int p3), .val (.int p4), .val (.int p5), .val (.int p6)] [(.int (0 : Int32))])) _
              exact retN X15 hx (t := .boolean) Bd.returns (by simp) (hb hby d3_61) hr
            · show Q3 Z p0 p1 p2 p3 p4 p5 p6 h0 n0 _ T15.heap _
              rw [e15]
              exact ⟨own_b0 (by omega), N15, rfl⟩
          · skip
            have ohc16 : ¬ ((bI (p0.toInt + p5.toInt ≤ p4.toInt ∧ p4.toInt ≤ p0.toInt + p5.toInt + p6.toInt)).toInt = 0) := own_neq.mp hc16
            obtain ⟨fs, hr, hrun, hended, hW, hsame⟩ := X15.leave (v := some (.int (1 : Int32))) (fun h => by rw [Bd.returns] at h; cases h)
            refine ⟨_, _, pre0 _ (pre17 _ ?_), hrun, hended, _, _, rfl, ?_, ⟨_, rfl⟩, hW, hsame.mono (by decide) (by decide)⟩
            · skip
              show Steps p.tables e below (T15.setTop (mkF m 53 #[.val (.int p0), .val (.int p1), .val (.int p2), .val (.int p3), .val (.int p4), .val (.int p5), .val (.int p6)] [(.int (bI (p0.toInt + p5.toInt ≤ p4.toInt ∧ p4.toInt ≤ p0.toInt + p5.toInt + p6.toInt)))])) _
              refine XS.ifNo X15.here hx rfl (hb hby d3_53) rfl ((if0 _ _).trans (feq hc16).1) ?_
              show Steps p.tables e below (T15.setTop (mkF m 56 #[.val (.int p0), .val (.int p1), .val (.int p2), .val (.int p3), .val (.int p4), .val (.int p5), .val (.int p6)] [])) _
              refine XS.iconst X15.here hx rfl (hb hby d3_56) ?_
              show Steps p.tables e below (T15.setTop (mkF m 57 #[.val (.int p0), .val (.int p1), .val (.int p2), .val (.int p3), .val (.int p4), .val (.int p5), .val (.int p6)] [(.int (1 : Int32))])) _
              refine XS.goto X15.here hx rfl (pc0 := 57) (pc' := 61) rfl (hb hby d3_57) (by decide) (by decide) ?_
              show Steps p.tables e below (T15.setTop (mkF m 61 #[.val (.int p0), .val (.int p1), .val (.int p2), .val (.int p3), .val (.int p4), .val (.int p5), .val (.int p6)] [(.int (1 : Int32))])) _
              exact retN X15 hx (t := .boolean) Bd.returns (by simp) (hb hby d3_61) hr
            · show Q3 Z p0 p1 p2 p3 p4 p5 p6 h0 n0 _ T15.heap _
              rw [e15]
              exact ⟨own_b1 (by omega), N15, rfl⟩
      · skip
        have ohc11 : ¬ ((bI (p0.toInt + p5.toInt ≤ p3.toInt ∧ p3.toInt ≤ p0.toInt + p5.toInt + p6.toInt)).toInt = 0) := own_neq.mp hc11
        obtain ⟨fs, hr, hrun, hended, hW, hsame⟩ := X10.leave (v := some (.int (1 : Int32))) (fun h => by rw [Bd.returns] at h; cases h)
        refine ⟨_, _, pre0 _ (pre12 _ ?_), hrun, hended, _, _, rfl, ?_, ⟨_, rfl⟩, hW, hsame.mono (by decide) (by decide)⟩
        · skip
          show Steps p.tables e below (T10.setTop (mkF m 33 #[.val (.int p0), .val (.int p1), .val (.int p2), .val (.int p3), .val (.int p4), .val (.int p5), .val (.int p6)] [(.int (bI (p0.toInt + p5.toInt ≤ p3.toInt ∧ p3.toInt ≤ p0.toInt + p5.toInt + p6.toInt)))])) _
          refine XS.ifNo X10.here hx rfl (hb hby d3_33) rfl ((if0 _ _).trans (feq hc11).1) ?_
          show Steps p.tables e below (T10.setTop (mkF m 36 #[.val (.int p0), .val (.int p1), .val (.int p2), .val (.int p3), .val (.int p4), .val (.int p5), .val (.int p6)] [])) _
          refine XS.iconst X10.here hx rfl (hb hby d3_36) ?_
          show Steps p.tables e below (T10.setTop (mkF m 37 #[.val (.int p0), .val (.int p1), .val (.int p2), .val (.int p3), .val (.int p4), .val (.int p5), .val (.int p6)] [(.int (1 : Int32))])) _
          exact retN X10 hx (t := .boolean) Bd.returns (by simp) (hb hby d3_37) hr
        · show Q3 Z p0 p1 p2 p3 p4 p5 p6 h0 n0 _ T10.heap _
          rw [e10]
          exact ⟨own_b1 (by omega), N10, rfl⟩
  · skip
    have ohc1 : 1 ≤ p1.toInt := own_nlt.mp hc1
    obtain ⟨_, _, ⟨T18, L18, k18, n18⟩, -, X18, ⟨Lc18, hQ18, l18, y18, z18⟩, st18⟩ := Jvm.LawKit.callS X0 hx (y := (⟨"com/example/cranfield/cranfield/search/OccurrencesFollowedWithinPinLaw", "hit", "(IIII)Z"⟩ : MethodName)) hown (mvT hZ (hw _ (List.mem_of_getElem? (i := 17) rfl))) (mvT hZ (hw _ (List.mem_of_getElem? (i := 18) rfl))) (mvT hZ (hw _ (List.mem_of_getElem? (i := 11) rfl))) (mvT hZ (hw _ (List.mem_of_getElem? (i := 19) rfl))) (by decide) (backOf (W := 0) (rm5 l Z a0 hw [] p0 p2 p5 p6  h0 n0 Z0 ) hZ (hw _ (List.mem_of_getElem? (i := 19) rfl)) (hw _ (List.mem_of_getElem? (i := 11) rfl)) (by decide) (by decide)) (g := (mkF m 11 #[.val (.int p0), .val (.int p1), .val (.int p2), .val (.int p3), .val (.int p4), .val (.int p5), .val (.int p6)] [(.int p6), (.int p5), (.int p2), (.int p0)])) rfl (by rw [hml]; rfl) (argsL := [(.int p0), (.int p2), (.int p5), (.int p6)]) (rest := []) (lenOf pd_0 rfl) rfl (by show 2 * 0 + _ ≤ _; exact Nat.le_of_eq rfl) (hb hby d3_11) (fun _ _ => ⟨rfl, e0, (by decide : 0 + 0 ≤ _), (by decide : 0 + 0 ≤ _)⟩)
    dsimp only [Pt.U, Pt.locs, Pt.cells, Pt.slots] at X18 l18 y18 z18 st18 hQ18
    subst l18 y18 z18
    obtain ⟨rfl, Nq18, e18⟩ := hQ18
    have N18 := Fr.app N0 Nq18
    have t18 := own_bt (P := p0.toInt + p5.toInt ≤ p2.toInt ∧ p2.toInt ≤ p0.toInt + p5.toInt + p6.toInt)
    have pre20 : ∀ t, Steps p.tables e below (T18.setTop (mkF m 14 #[.val (.int p0), .val (.int p1), .val (.int p2), .val (.int p3), .val (.int p4), .val (.int p5), .val (.int p6)] [(.int (bI (p0.toInt + p5.toInt ≤ p2.toInt ∧ p2.toInt ≤ p0.toInt + p5.toInt + p6.toInt)))])) t → Steps p.tables e below (s₁.setTop (mkF m 0 #[.val (.int p0), .val (.int p1), .val (.int p2), .val (.int p3), .val (.int p4), .val (.int p5), .val (.int p6)] [])) t := fun t k => pre2 t (by
      show Steps p.tables e below (s₁.setTop (mkF m 2 #[.val (.int p0), .val (.int p1), .val (.int p2), .val (.int p3), .val (.int p4), .val (.int p5), .val (.int p6)] [(.int (1 : Int32)), (.int p1)])) _
      refine XS.icmpNo X0.here hx rfl (hb hby d3_2) rfl (flt hc1).1 ?_
      show Steps p.tables e below (s₁.setTop (mkF m 5 #[.val (.int p0), .val (.int p1), .val (.int p2), .val (.int p3), .val (.int p4), .val (.int p5), .val (.int p6)] [])) _
      refine XS.iloadN X0.here hx rfl (hb hby d3_5) rfl ?_
      show Steps p.tables e below (s₁.setTop (mkF m 6 #[.val (.int p0), .val (.int p1), .val (.int p2), .val (.int p3), .val (.int p4), .val (.int p5), .val (.int p6)] [(.int p0)])) _
      refine XS.iloadN X0.here hx rfl (hb hby d3_6) rfl ?_
      show Steps p.tables e below (s₁.setTop (mkF m 7 #[.val (.int p0), .val (.int p1), .val (.int p2), .val (.int p3), .val (.int p4), .val (.int p5), .val (.int p6)] [(.int p2), (.int p0)])) _
      refine XS.iload X0.here hx rfl (hb hby d3_7) rfl ?_
      show Steps p.tables e below (s₁.setTop (mkF m 9 #[.val (.int p0), .val (.int p1), .val (.int p2), .val (.int p3), .val (.int p4), .val (.int p5), .val (.int p6)] [(.int p5), (.int p2), (.int p0)])) _
      refine XS.iload X0.here hx rfl (hb hby d3_9) rfl ?_
      show Steps p.tables e below (s₁.setTop (mkF m 11 #[.val (.int p0), .val (.int p1), .val (.int p2), .val (.int p3), .val (.int p4), .val (.int p5), .val (.int p6)] [(.int p6), (.int p5), (.int p2), (.int p0)])) _
      refine st18 _ ?_
      exact k)
    by_cases hc19 : (bI (p0.toInt + p5.toInt ≤ p2.toInt ∧ p2.toInt ≤ p0.toInt + p5.toInt + p6.toInt)) = (0 : Int32)
    · skip
      have ohc19 : (bI (p0.toInt + p5.toInt ≤ p2.toInt ∧ p2.toInt ≤ p0.toInt + p5.toInt + p6.toInt)).toInt = 0 := own_eq.mp hc19
      have pre22 : ∀ t, Steps p.tables e below (T18.setTop (mkF m 21 #[.val (.int p0), .val (.int p1), .val (.int p2), .val (.int p3), .val (.int p4), .val (.int p5), .val (.int p6)] [(.int (2 : Int32)), (.int p1)])) t → Steps p.tables e below (s₁.setTop (mkF m 0 #[.val (.int p0), .val (.int p1), .val (.int p2), .val (.int p3), .val (.int p4), .val (.int p5), .val (.int p6)] [])) t := fun t k => pre20 t (by
        show Steps p.tables e below (T18.setTop (mkF m 14 #[.val (.int p0), .val (.int p1), .val (.int p2), .val (.int p3), .val (.int p4), .val (.int p5), .val (.int p6)] [(.int (bI (p0.toInt + p5.toInt ≤ p2.toInt ∧ p2.toInt ≤ p0.toInt + p5.toInt + p6.toInt)))])) _
        refine XS.ifYes X18.here hx rfl (pc0 := 14) (pc' := 19) rfl (hb hby d3_14) rfl ((if0 _ _).trans (teq hc19).1) (by decide) (by decide) ?_
        show Steps p.tables e below (T18.setTop (mkF m 19 #[.val (.int p0), .val (.int p1), .val (.int p2), .val (.int p3), .val (.int p4), .val (.int p5), .val (.int p6)] [])) _
        refine XS.iloadN X18.here hx rfl (hb hby d3_19) rfl ?_
        show Steps p.tables e below (T18.setTop (mkF m 20 #[.val (.int p0), .val (.int p1), .val (.int p2), .val (.int p3), .val (.int p4), .val (.int p5), .val (.int p6)] [(.int p1)])) _
        refine XS.iconst X18.here hx rfl (hb hby d3_20) ?_
        exact k)
      by_cases hc21 : p1 < (2 : Int32)
      · skip
        have ohc21 : p1.toInt < 2 := own_lt.mp hc21
        have pre24 : ∀ t, Steps p.tables e below (T18.setTop (mkF m 40 #[.val (.int p0), .val (.int p1), .val (.int p2), .val (.int p3), .val (.int p4), .val (.int p5), .val (.int p6)] [(.int (3 : Int32)), (.int p1)])) t → Steps p.tables e below (s₁.setTop (mkF m 0 #[.val (.int p0), .val (.int p1), .val (.int p2), .val (.int p3), .val (.int p4), .val (.int p5), .val (.int p6)] [])) t := fun t k => pre22 t (by
          show Steps p.tables e below (T18.setTop (mkF m 21 #[.val (.int p0), .val (.int p1), .val (.int p2), .val (.int p3), .val (.int p4), .val (.int p5), .val (.int p6)] [(.int (2 : Int32)), (.int p1)])) _
          refine XS.icmpYes X18.here hx rfl (pc0 := 21) (pc' := 38) rfl (hb hby d3_21) rfl (tlt hc21).1 (by decide) (by decide) ?_
          show Steps p.tables e below (T18.setTop (mkF m 38 #[.val (.int p0), .val (.int p1), .val (.int p2), .val (.int p3), .val (.int p4), .val (.int p5), .val (.int p6)] [])) _
          refine XS.iloadN X18.here hx rfl (hb hby d3_38) rfl ?_
          show Steps p.tables e below (T18.setTop (mkF m 39 #[.val (.int p0), .val (.int p1), .val (.int p2), .val (.int p3), .val (.int p4), .val (.int p5), .val (.int p6)] [(.int p1)])) _
          refine XS.iconst X18.here hx rfl (hb hby d3_39) ?_
          exact k)
        by_cases hc23 : p1 < (3 : Int32)
        · skip
          have ohc23 : p1.toInt < 3 := own_lt.mp hc23
          obtain ⟨fs, hr, hrun, hended, hW, hsame⟩ := X18.leave (v := some (.int (0 : Int32))) (fun h => by rw [Bd.returns] at h; cases h)
          refine ⟨_, _, pre0 _ (pre24 _ ?_), hrun, hended, _, _, rfl, ?_, ⟨_, rfl⟩, hW, hsame.mono (by decide) (by decide)⟩
          · skip
            show Steps p.tables e below (T18.setTop (mkF m 40 #[.val (.int p0), .val (.int p1), .val (.int p2), .val (.int p3), .val (.int p4), .val (.int p5), .val (.int p6)] [(.int (3 : Int32)), (.int p1)])) _
            refine XS.icmpYes X18.here hx rfl (pc0 := 40) (pc' := 60) rfl (hb hby d3_40) rfl (tlt hc23).1 (by decide) (by decide) ?_
            show Steps p.tables e below (T18.setTop (mkF m 60 #[.val (.int p0), .val (.int p1), .val (.int p2), .val (.int p3), .val (.int p4), .val (.int p5), .val (.int p6)] [])) _
            refine XS.iconst X18.here hx rfl (hb hby d3_60) ?_
            show Steps p.tables e below (T18.setTop (mkF m 61 #[.val (.int p0), .val (.int p1), .val (.int p2), .val (.int p3), .val (.int p4), .val (.int p5), .val (.int p6)] [(.int (0 : Int32))])) _
            exact retN X18 hx (t := .boolean) Bd.returns (by simp) (hb hby d3_61) hr
          · show Q3 Z p0 p1 p2 p3 p4 p5 p6 h0 n0 _ T18.heap _
            rw [e18]
            exact ⟨own_b0 (by omega), N18, rfl⟩
        · skip
          have ohc23 : 3 ≤ p1.toInt := own_nlt.mp hc23
          obtain ⟨_, _, ⟨T25, L25, k25, n25⟩, -, X25, ⟨Lc25, hQ25, l25, y25, z25⟩, st25⟩ := Jvm.LawKit.callS X18 hx (y := (⟨"com/example/cranfield/cranfield/search/OccurrencesFollowedWithinPinLaw", "hit", "(IIII)Z"⟩ : MethodName)) hown (mvT hZ (hw _ (List.mem_of_getElem? (i := 17) rfl))) (mvT hZ (hw _ (List.mem_of_getElem? (i := 18) rfl))) (mvT hZ (hw _ (List.mem_of_getElem? (i := 11) rfl))) (mvT hZ (hw _ (List.mem_of_getElem? (i := 19) rfl))) (by decide) (backOf (W := 0) (rm5 l Z a0 hw [] p0 p4 p5 p6  h0 n0 Z0 ) hZ (hw _ (List.mem_of_getElem? (i := 19) rfl)) (hw _ (List.mem_of_getElem? (i := 11) rfl)) (by decide) (by decide)) (g := (mkF m 50 #[.val (.int p0), .val (.int p1), .val (.int p2), .val (.int p3), .val (.int p4), .val (.int p5), .val (.int p6)] [(.int p6), (.int p5), (.int p4), (.int p0)])) rfl (by rw [hml]; rfl) (argsL := [(.int p0), (.int p4), (.int p5), (.int p6)]) (rest := []) (lenOf pd_0 rfl) rfl (by show 2 * 0 + _ ≤ _; exact Nat.le_of_eq rfl) (hb hby d3_50) (fun _ _ => ⟨rfl, e18, (by decide : 0 + 0 ≤ _), (by decide : 0 + 0 ≤ _)⟩)
          dsimp only [Pt.U, Pt.locs, Pt.cells, Pt.slots] at X25 l25 y25 z25 st25 hQ25
          subst l25 y25 z25
          obtain ⟨rfl, Nq25, e25⟩ := hQ25
          have N25 := Fr.app N18 Nq25
          have t25 := own_bt (P := p0.toInt + p5.toInt ≤ p4.toInt ∧ p4.toInt ≤ p0.toInt + p5.toInt + p6.toInt)
          have pre27 : ∀ t, Steps p.tables e below (T25.setTop (mkF m 53 #[.val (.int p0), .val (.int p1), .val (.int p2), .val (.int p3), .val (.int p4), .val (.int p5), .val (.int p6)] [(.int (bI (p0.toInt + p5.toInt ≤ p4.toInt ∧ p4.toInt ≤ p0.toInt + p5.toInt + p6.toInt)))])) t → Steps p.tables e below (s₁.setTop (mkF m 0 #[.val (.int p0), .val (.int p1), .val (.int p2), .val (.int p3), .val (.int p4), .val (.int p5), .val (.int p6)] [])) t := fun t k => pre24 t (by
            show Steps p.tables e below (T18.setTop (mkF m 40 #[.val (.int p0), .val (.int p1), .val (.int p2), .val (.int p3), .val (.int p4), .val (.int p5), .val (.int p6)] [(.int (3 : Int32)), (.int p1)])) _
            refine XS.icmpNo X18.here hx rfl (hb hby d3_40) rfl (flt hc23).1 ?_
            show Steps p.tables e below (T18.setTop (mkF m 43 #[.val (.int p0), .val (.int p1), .val (.int p2), .val (.int p3), .val (.int p4), .val (.int p5), .val (.int p6)] [])) _
            refine XS.iloadN X18.here hx rfl (hb hby d3_43) rfl ?_
            show Steps p.tables e below (T18.setTop (mkF m 44 #[.val (.int p0), .val (.int p1), .val (.int p2), .val (.int p3), .val (.int p4), .val (.int p5), .val (.int p6)] [(.int p0)])) _
            refine XS.iload X18.here hx rfl (hb hby d3_44) rfl ?_
            show Steps p.tables e below (T18.setTop (mkF m 46 #[.val (.int p0), .val (.int p1), .val (.int p2), .val (.int p3), .val (.int p4), .val (.int p5), .val (.int p6)] [(.int p4), (.int p0)])) _
            refine XS.iload X18.here hx rfl (hb hby d3_46) rfl ?_
            show Steps p.tables e below (T18.setTop (mkF m 48 #[.val (.int p0), .val (.int p1), .val (.int p2), .val (.int p3), .val (.int p4), .val (.int p5), .val (.int p6)] [(.int p5), (.int p4), (.int p0)])) _
            refine XS.iload X18.here hx rfl (hb hby d3_48) rfl ?_
            show Steps p.tables e below (T18.setTop (mkF m 50 #[.val (.int p0), .val (.int p1), .val (.int p2), .val (.int p3), .val (.int p4), .val (.int p5), .val (.int p6)] [(.int p6), (.int p5), (.int p4), (.int p0)])) _
            refine st25 _ ?_
            exact k)
          by_cases hc26 : (bI (p0.toInt + p5.toInt ≤ p4.toInt ∧ p4.toInt ≤ p0.toInt + p5.toInt + p6.toInt)) = (0 : Int32)
          · skip
            have ohc26 : (bI (p0.toInt + p5.toInt ≤ p4.toInt ∧ p4.toInt ≤ p0.toInt + p5.toInt + p6.toInt)).toInt = 0 := own_eq.mp hc26
            obtain ⟨fs, hr, hrun, hended, hW, hsame⟩ := X25.leave (v := some (.int (0 : Int32))) (fun h => by rw [Bd.returns] at h; cases h)
            refine ⟨_, _, pre0 _ (pre27 _ ?_), hrun, hended, _, _, rfl, ?_, ⟨_, rfl⟩, hW, hsame.mono (by decide) (by decide)⟩
            · skip
              show Steps p.tables e below (T25.setTop (mkF m 53 #[.val (.int p0), .val (.int p1), .val (.int p2), .val (.int p3), .val (.int p4), .val (.int p5), .val (.int p6)] [(.int (bI (p0.toInt + p5.toInt ≤ p4.toInt ∧ p4.toInt ≤ p0.toInt + p5.toInt + p6.toInt)))])) _
              refine XS.ifYes X25.here hx rfl (pc0 := 53) (pc' := 60) rfl (hb hby d3_53) rfl ((if0 _ _).trans (teq hc26).1) (by decide) (by decide) ?_
              show Steps p.tables e below (T25.setTop (mkF m 60 #[.val (.int p0), .val (.int p1), .val (.int p2), .val (.int p3), .val (.int p4), .val (.int p5), .val (.int p6)] [])) _
              refine XS.iconst X25.here hx rfl (hb hby d3_60) ?_
              show Steps p.tables e below (T25.setTop (mkF m 61 #[.val (.int p0), .val (.int p1), .val (.int p2), .val (.int p3), .val (.int p4), .val (.int p5), .val (.int p6)] [(.int (0 : Int32))])) _
              exact retN X25 hx (t := .boolean) Bd.returns (by simp) (hb hby d3_61) hr
            · show Q3 Z p0 p1 p2 p3 p4 p5 p6 h0 n0 _ T25.heap _
              rw [e25]
              exact ⟨own_b0 (by omega), N25, rfl⟩
          · skip
            have ohc26 : ¬ ((bI (p0.toInt + p5.toInt ≤ p4.toInt ∧ p4.toInt ≤ p0.toInt + p5.toInt + p6.toInt)).toInt = 0) := own_neq.mp hc26
            obtain ⟨fs, hr, hrun, hended, hW, hsame⟩ := X25.leave (v := some (.int (1 : Int32))) (fun h => by rw [Bd.returns] at h; cases h)
            refine ⟨_, _, pre0 _ (pre27 _ ?_), hrun, hended, _, _, rfl, ?_, ⟨_, rfl⟩, hW, hsame.mono (by decide) (by decide)⟩
            · skip
              show Steps p.tables e below (T25.setTop (mkF m 53 #[.val (.int p0), .val (.int p1), .val (.int p2), .val (.int p3), .val (.int p4), .val (.int p5), .val (.int p6)] [(.int (bI (p0.toInt + p5.toInt ≤ p4.toInt ∧ p4.toInt ≤ p0.toInt + p5.toInt + p6.toInt)))])) _
              refine XS.ifNo X25.here hx rfl (hb hby d3_53) rfl ((if0 _ _).trans (feq hc26).1) ?_
              show Steps p.tables e below (T25.setTop (mkF m 56 #[.val (.int p0), .val (.int p1), .val (.int p2), .val (.int p3), .val (.int p4), .val (.int p5), .val (.int p6)] [])) _
              refine XS.iconst X25.here hx rfl (hb hby d3_56) ?_
              show Steps p.tables e below (T25.setTop (mkF m 57 #[.val (.int p0), .val (.int p1), .val (.int p2), .val (.int p3), .val (.int p4), .val (.int p5), .val (.int p6)] [(.int (1 : Int32))])) _
              refine XS.goto X25.here hx rfl (pc0 := 57) (pc' := 61) rfl (hb hby d3_57) (by decide) (by decide) ?_
              show Steps p.tables e below (T25.setTop (mkF m 61 #[.val (.int p0), .val (.int p1), .val (.int p2), .val (.int p3), .val (.int p4), .val (.int p5), .val (.int p6)] [(.int (1 : Int32))])) _
              exact retN X25 hx (t := .boolean) Bd.returns (by simp) (hb hby d3_61) hr
            · show Q3 Z p0 p1 p2 p3 p4 p5 p6 h0 n0 _ T25.heap _
              rw [e25]
              exact ⟨own_b1 (by omega), N25, rfl⟩
      · skip
        have ohc21 : 2 ≤ p1.toInt := own_nlt.mp hc21
        obtain ⟨_, _, ⟨T28, L28, k28, n28⟩, -, X28, ⟨Lc28, hQ28, l28, y28, z28⟩, st28⟩ := Jvm.LawKit.callS X18 hx (y := (⟨"com/example/cranfield/cranfield/search/OccurrencesFollowedWithinPinLaw", "hit", "(IIII)Z"⟩ : MethodName)) hown (mvT hZ (hw _ (List.mem_of_getElem? (i := 17) rfl))) (mvT hZ (hw _ (List.mem_of_getElem? (i := 18) rfl))) (mvT hZ (hw _ (List.mem_of_getElem? (i := 11) rfl))) (mvT hZ (hw _ (List.mem_of_getElem? (i := 19) rfl))) (by decide) (backOf (W := 0) (rm5 l Z a0 hw [] p0 p3 p5 p6  h0 n0 Z0 ) hZ (hw _ (List.mem_of_getElem? (i := 19) rfl)) (hw _ (List.mem_of_getElem? (i := 11) rfl)) (by decide) (by decide)) (g := (mkF m 30 #[.val (.int p0), .val (.int p1), .val (.int p2), .val (.int p3), .val (.int p4), .val (.int p5), .val (.int p6)] [(.int p6), (.int p5), (.int p3), (.int p0)])) rfl (by rw [hml]; rfl) (argsL := [(.int p0), (.int p3), (.int p5), (.int p6)]) (rest := []) (lenOf pd_0 rfl) rfl (by show 2 * 0 + _ ≤ _; exact Nat.le_of_eq rfl) (hb hby d3_30) (fun _ _ => ⟨rfl, e18, (by decide : 0 + 0 ≤ _), (by decide : 0 + 0 ≤ _)⟩)
        dsimp only [Pt.U, Pt.locs, Pt.cells, Pt.slots] at X28 l28 y28 z28 st28 hQ28
        subst l28 y28 z28
        obtain ⟨rfl, Nq28, e28⟩ := hQ28
        have N28 := Fr.app N18 Nq28
        have t28 := own_bt (P := p0.toInt + p5.toInt ≤ p3.toInt ∧ p3.toInt ≤ p0.toInt + p5.toInt + p6.toInt)
        have pre30 : ∀ t, Steps p.tables e below (T28.setTop (mkF m 33 #[.val (.int p0), .val (.int p1), .val (.int p2), .val (.int p3), .val (.int p4), .val (.int p5), .val (.int p6)] [(.int (bI (p0.toInt + p5.toInt ≤ p3.toInt ∧ p3.toInt ≤ p0.toInt + p5.toInt + p6.toInt)))])) t → Steps p.tables e below (s₁.setTop (mkF m 0 #[.val (.int p0), .val (.int p1), .val (.int p2), .val (.int p3), .val (.int p4), .val (.int p5), .val (.int p6)] [])) t := fun t k => pre22 t (by
          show Steps p.tables e below (T18.setTop (mkF m 21 #[.val (.int p0), .val (.int p1), .val (.int p2), .val (.int p3), .val (.int p4), .val (.int p5), .val (.int p6)] [(.int (2 : Int32)), (.int p1)])) _
          refine XS.icmpNo X18.here hx rfl (hb hby d3_21) rfl (flt hc21).1 ?_
          show Steps p.tables e below (T18.setTop (mkF m 24 #[.val (.int p0), .val (.int p1), .val (.int p2), .val (.int p3), .val (.int p4), .val (.int p5), .val (.int p6)] [])) _
          refine XS.iloadN X18.here hx rfl (hb hby d3_24) rfl ?_
          show Steps p.tables e below (T18.setTop (mkF m 25 #[.val (.int p0), .val (.int p1), .val (.int p2), .val (.int p3), .val (.int p4), .val (.int p5), .val (.int p6)] [(.int p0)])) _
          refine XS.iloadN X18.here hx rfl (hb hby d3_25) rfl ?_
          show Steps p.tables e below (T18.setTop (mkF m 26 #[.val (.int p0), .val (.int p1), .val (.int p2), .val (.int p3), .val (.int p4), .val (.int p5), .val (.int p6)] [(.int p3), (.int p0)])) _
          refine XS.iload X18.here hx rfl (hb hby d3_26) rfl ?_
          show Steps p.tables e below (T18.setTop (mkF m 28 #[.val (.int p0), .val (.int p1), .val (.int p2), .val (.int p3), .val (.int p4), .val (.int p5), .val (.int p6)] [(.int p5), (.int p3), (.int p0)])) _
          refine XS.iload X18.here hx rfl (hb hby d3_28) rfl ?_
          show Steps p.tables e below (T18.setTop (mkF m 30 #[.val (.int p0), .val (.int p1), .val (.int p2), .val (.int p3), .val (.int p4), .val (.int p5), .val (.int p6)] [(.int p6), (.int p5), (.int p3), (.int p0)])) _
          refine st28 _ ?_
          exact k)
        by_cases hc29 : (bI (p0.toInt + p5.toInt ≤ p3.toInt ∧ p3.toInt ≤ p0.toInt + p5.toInt + p6.toInt)) = (0 : Int32)
        · skip
          have ohc29 : (bI (p0.toInt + p5.toInt ≤ p3.toInt ∧ p3.toInt ≤ p0.toInt + p5.toInt + p6.toInt)).toInt = 0 := own_eq.mp hc29
          have pre32 : ∀ t, Steps p.tables e below (T28.setTop (mkF m 40 #[.val (.int p0), .val (.int p1), .val (.int p2), .val (.int p3), .val (.int p4), .val (.int p5), .val (.int p6)] [(.int (3 : Int32)), (.int p1)])) t → Steps p.tables e below (s₁.setTop (mkF m 0 #[.val (.int p0), .val (.int p1), .val (.int p2), .val (.int p3), .val (.int p4), .val (.int p5), .val (.int p6)] [])) t := fun t k => pre30 t (by
            show Steps p.tables e below (T28.setTop (mkF m 33 #[.val (.int p0), .val (.int p1), .val (.int p2), .val (.int p3), .val (.int p4), .val (.int p5), .val (.int p6)] [(.int (bI (p0.toInt + p5.toInt ≤ p3.toInt ∧ p3.toInt ≤ p0.toInt + p5.toInt + p6.toInt)))])) _
            refine XS.ifYes X28.here hx rfl (pc0 := 33) (pc' := 38) rfl (hb hby d3_33) rfl ((if0 _ _).trans (teq hc29).1) (by decide) (by decide) ?_
            show Steps p.tables e below (T28.setTop (mkF m 38 #[.val (.int p0), .val (.int p1), .val (.int p2), .val (.int p3), .val (.int p4), .val (.int p5), .val (.int p6)] [])) _
            refine XS.iloadN X28.here hx rfl (hb hby d3_38) rfl ?_
            show Steps p.tables e below (T28.setTop (mkF m 39 #[.val (.int p0), .val (.int p1), .val (.int p2), .val (.int p3), .val (.int p4), .val (.int p5), .val (.int p6)] [(.int p1)])) _
            refine XS.iconst X28.here hx rfl (hb hby d3_39) ?_
            exact k)
          by_cases hc31 : p1 < (3 : Int32)
          · skip
            have ohc31 : p1.toInt < 3 := own_lt.mp hc31
            obtain ⟨fs, hr, hrun, hended, hW, hsame⟩ := X28.leave (v := some (.int (0 : Int32))) (fun h => by rw [Bd.returns] at h; cases h)
            refine ⟨_, _, pre0 _ (pre32 _ ?_), hrun, hended, _, _, rfl, ?_, ⟨_, rfl⟩, hW, hsame.mono (by decide) (by decide)⟩
            · skip
              show Steps p.tables e below (T28.setTop (mkF m 40 #[.val (.int p0), .val (.int p1), .val (.int p2), .val (.int p3), .val (.int p4), .val (.int p5), .val (.int p6)] [(.int (3 : Int32)), (.int p1)])) _
              refine XS.icmpYes X28.here hx rfl (pc0 := 40) (pc' := 60) rfl (hb hby d3_40) rfl (tlt hc31).1 (by decide) (by decide) ?_
              show Steps p.tables e below (T28.setTop (mkF m 60 #[.val (.int p0), .val (.int p1), .val (.int p2), .val (.int p3), .val (.int p4), .val (.int p5), .val (.int p6)] [])) _
              refine XS.iconst X28.here hx rfl (hb hby d3_60) ?_
              show Steps p.tables e below (T28.setTop (mkF m 61 #[.val (.int p0), .val (.int p1), .val (.int p2), .val (.int p3), .val (.int p4), .val (.int p5), .val (.int p6)] [(.int (0 : Int32))])) _
              exact retN X28 hx (t := .boolean) Bd.returns (by simp) (hb hby d3_61) hr
            · show Q3 Z p0 p1 p2 p3 p4 p5 p6 h0 n0 _ T28.heap _
              rw [e28]
              exact ⟨own_b0 (by omega), N28, rfl⟩
          · skip
            have ohc31 : 3 ≤ p1.toInt := own_nlt.mp hc31
            obtain ⟨_, _, ⟨T33, L33, k33, n33⟩, -, X33, ⟨Lc33, hQ33, l33, y33, z33⟩, st33⟩ := Jvm.LawKit.callS X28 hx (y := (⟨"com/example/cranfield/cranfield/search/OccurrencesFollowedWithinPinLaw", "hit", "(IIII)Z"⟩ : MethodName)) hown (mvT hZ (hw _ (List.mem_of_getElem? (i := 17) rfl))) (mvT hZ (hw _ (List.mem_of_getElem? (i := 18) rfl))) (mvT hZ (hw _ (List.mem_of_getElem? (i := 11) rfl))) (mvT hZ (hw _ (List.mem_of_getElem? (i := 19) rfl))) (by decide) (backOf (W := 0) (rm5 l Z a0 hw [] p0 p4 p5 p6  h0 n0 Z0 ) hZ (hw _ (List.mem_of_getElem? (i := 19) rfl)) (hw _ (List.mem_of_getElem? (i := 11) rfl)) (by decide) (by decide)) (g := (mkF m 50 #[.val (.int p0), .val (.int p1), .val (.int p2), .val (.int p3), .val (.int p4), .val (.int p5), .val (.int p6)] [(.int p6), (.int p5), (.int p4), (.int p0)])) rfl (by rw [hml]; rfl) (argsL := [(.int p0), (.int p4), (.int p5), (.int p6)]) (rest := []) (lenOf pd_0 rfl) rfl (by show 2 * 0 + _ ≤ _; exact Nat.le_of_eq rfl) (hb hby d3_50) (fun _ _ => ⟨rfl, e28, (by decide : 0 + 0 ≤ _), (by decide : 0 + 0 ≤ _)⟩)
            dsimp only [Pt.U, Pt.locs, Pt.cells, Pt.slots] at X33 l33 y33 z33 st33 hQ33
            subst l33 y33 z33
            obtain ⟨rfl, Nq33, e33⟩ := hQ33
            have N33 := Fr.app N28 Nq33
            have t33 := own_bt (P := p0.toInt + p5.toInt ≤ p4.toInt ∧ p4.toInt ≤ p0.toInt + p5.toInt + p6.toInt)
            have pre35 : ∀ t, Steps p.tables e below (T33.setTop (mkF m 53 #[.val (.int p0), .val (.int p1), .val (.int p2), .val (.int p3), .val (.int p4), .val (.int p5), .val (.int p6)] [(.int (bI (p0.toInt + p5.toInt ≤ p4.toInt ∧ p4.toInt ≤ p0.toInt + p5.toInt + p6.toInt)))])) t → Steps p.tables e below (s₁.setTop (mkF m 0 #[.val (.int p0), .val (.int p1), .val (.int p2), .val (.int p3), .val (.int p4), .val (.int p5), .val (.int p6)] [])) t := fun t k => pre32 t (by
              show Steps p.tables e below (T28.setTop (mkF m 40 #[.val (.int p0), .val (.int p1), .val (.int p2), .val (.int p3), .val (.int p4), .val (.int p5), .val (.int p6)] [(.int (3 : Int32)), (.int p1)])) _
              refine XS.icmpNo X28.here hx rfl (hb hby d3_40) rfl (flt hc31).1 ?_
              show Steps p.tables e below (T28.setTop (mkF m 43 #[.val (.int p0), .val (.int p1), .val (.int p2), .val (.int p3), .val (.int p4), .val (.int p5), .val (.int p6)] [])) _
              refine XS.iloadN X28.here hx rfl (hb hby d3_43) rfl ?_
              show Steps p.tables e below (T28.setTop (mkF m 44 #[.val (.int p0), .val (.int p1), .val (.int p2), .val (.int p3), .val (.int p4), .val (.int p5), .val (.int p6)] [(.int p0)])) _
              refine XS.iload X28.here hx rfl (hb hby d3_44) rfl ?_
              show Steps p.tables e below (T28.setTop (mkF m 46 #[.val (.int p0), .val (.int p1), .val (.int p2), .val (.int p3), .val (.int p4), .val (.int p5), .val (.int p6)] [(.int p4), (.int p0)])) _
              refine XS.iload X28.here hx rfl (hb hby d3_46) rfl ?_
              show Steps p.tables e below (T28.setTop (mkF m 48 #[.val (.int p0), .val (.int p1), .val (.int p2), .val (.int p3), .val (.int p4), .val (.int p5), .val (.int p6)] [(.int p5), (.int p4), (.int p0)])) _
              refine XS.iload X28.here hx rfl (hb hby d3_48) rfl ?_
              show Steps p.tables e below (T28.setTop (mkF m 50 #[.val (.int p0), .val (.int p1), .val (.int p2), .val (.int p3), .val (.int p4), .val (.int p5), .val (.int p6)] [(.int p6), (.int p5), (.int p4), (.int p0)])) _
              refine st33 _ ?_
              exact k)
            by_cases hc34 : (bI (p0.toInt + p5.toInt ≤ p4.toInt ∧ p4.toInt ≤ p0.toInt + p5.toInt + p6.toInt)) = (0 : Int32)
            · skip
              have ohc34 : (bI (p0.toInt + p5.toInt ≤ p4.toInt ∧ p4.toInt ≤ p0.toInt + p5.toInt + p6.toInt)).toInt = 0 := own_eq.mp hc34
              obtain ⟨fs, hr, hrun, hended, hW, hsame⟩ := X33.leave (v := some (.int (0 : Int32))) (fun h => by rw [Bd.returns] at h; cases h)
              refine ⟨_, _, pre0 _ (pre35 _ ?_), hrun, hended, _, _, rfl, ?_, ⟨_, rfl⟩, hW, hsame.mono (by decide) (by decide)⟩
              · skip
                show Steps p.tables e below (T33.setTop (mkF m 53 #[.val (.int p0), .val (.int p1), .val (.int p2), .val (.int p3), .val (.int p4), .val (.int p5), .val (.int p6)] [(.int (bI (p0.toInt + p5.toInt ≤ p4.toInt ∧ p4.toInt ≤ p0.toInt + p5.toInt + p6.toInt)))])) _
                refine XS.ifYes X33.here hx rfl (pc0 := 53) (pc' := 60) rfl (hb hby d3_53) rfl ((if0 _ _).trans (teq hc34).1) (by decide) (by decide) ?_
                show Steps p.tables e below (T33.setTop (mkF m 60 #[.val (.int p0), .val (.int p1), .val (.int p2), .val (.int p3), .val (.int p4), .val (.int p5), .val (.int p6)] [])) _
                refine XS.iconst X33.here hx rfl (hb hby d3_60) ?_
                show Steps p.tables e below (T33.setTop (mkF m 61 #[.val (.int p0), .val (.int p1), .val (.int p2), .val (.int p3), .val (.int p4), .val (.int p5), .val (.int p6)] [(.int (0 : Int32))])) _
                exact retN X33 hx (t := .boolean) Bd.returns (by simp) (hb hby d3_61) hr
              · show Q3 Z p0 p1 p2 p3 p4 p5 p6 h0 n0 _ T33.heap _
                rw [e33]
                exact ⟨own_b0 (by omega), N33, rfl⟩
            · skip
              have ohc34 : ¬ ((bI (p0.toInt + p5.toInt ≤ p4.toInt ∧ p4.toInt ≤ p0.toInt + p5.toInt + p6.toInt)).toInt = 0) := own_neq.mp hc34
              obtain ⟨fs, hr, hrun, hended, hW, hsame⟩ := X33.leave (v := some (.int (1 : Int32))) (fun h => by rw [Bd.returns] at h; cases h)
              refine ⟨_, _, pre0 _ (pre35 _ ?_), hrun, hended, _, _, rfl, ?_, ⟨_, rfl⟩, hW, hsame.mono (by decide) (by decide)⟩
              · skip
                show Steps p.tables e below (T33.setTop (mkF m 53 #[.val (.int p0), .val (.int p1), .val (.int p2), .val (.int p3), .val (.int p4), .val (.int p5), .val (.int p6)] [(.int (bI (p0.toInt + p5.toInt ≤ p4.toInt ∧ p4.toInt ≤ p0.toInt + p5.toInt + p6.toInt)))])) _
                refine XS.ifNo X33.here hx rfl (hb hby d3_53) rfl ((if0 _ _).trans (feq hc34).1) ?_
                show Steps p.tables e below (T33.setTop (mkF m 56 #[.val (.int p0), .val (.int p1), .val (.int p2), .val (.int p3), .val (.int p4), .val (.int p5), .val (.int p6)] [])) _
                refine XS.iconst X33.here hx rfl (hb hby d3_56) ?_
                show Steps p.tables e below (T33.setTop (mkF m 57 #[.val (.int p0), .val (.int p1), .val (.int p2), .val (.int p3), .val (.int p4), .val (.int p5), .val (.int p6)] [(.int (1 : Int32))])) _
                refine XS.goto X33.here hx rfl (pc0 := 57) (pc' := 61) rfl (hb hby d3_57) (by decide) (by decide) ?_
                show Steps p.tables e below (T33.setTop (mkF m 61 #[.val (.int p0), .val (.int p1), .val (.int p2), .val (.int p3), .val (.int p4), .val (.int p5), .val (.int p6)] [(.int (1 : Int32))])) _
                exact retN X33 hx (t := .boolean) Bd.returns (by simp) (hb hby d3_61) hr
              · show Q3 Z p0 p1 p2 p3 p4 p5 p6 h0 n0 _ T33.heap _
                rw [e33]
                exact ⟨own_b1 (by omega), N33, rfl⟩
        · skip
          have ohc29 : ¬ ((bI (p0.toInt + p5.toInt ≤ p3.toInt ∧ p3.toInt ≤ p0.toInt + p5.toInt + p6.toInt)).toInt = 0) := own_neq.mp hc29
          obtain ⟨fs, hr, hrun, hended, hW, hsame⟩ := X28.leave (v := some (.int (1 : Int32))) (fun h => by rw [Bd.returns] at h; cases h)
          refine ⟨_, _, pre0 _ (pre30 _ ?_), hrun, hended, _, _, rfl, ?_, ⟨_, rfl⟩, hW, hsame.mono (by decide) (by decide)⟩
          · skip
            show Steps p.tables e below (T28.setTop (mkF m 33 #[.val (.int p0), .val (.int p1), .val (.int p2), .val (.int p3), .val (.int p4), .val (.int p5), .val (.int p6)] [(.int (bI (p0.toInt + p5.toInt ≤ p3.toInt ∧ p3.toInt ≤ p0.toInt + p5.toInt + p6.toInt)))])) _
            refine XS.ifNo X28.here hx rfl (hb hby d3_33) rfl ((if0 _ _).trans (feq hc29).1) ?_
            show Steps p.tables e below (T28.setTop (mkF m 36 #[.val (.int p0), .val (.int p1), .val (.int p2), .val (.int p3), .val (.int p4), .val (.int p5), .val (.int p6)] [])) _
            refine XS.iconst X28.here hx rfl (hb hby d3_36) ?_
            show Steps p.tables e below (T28.setTop (mkF m 37 #[.val (.int p0), .val (.int p1), .val (.int p2), .val (.int p3), .val (.int p4), .val (.int p5), .val (.int p6)] [(.int (1 : Int32))])) _
            exact retN X28 hx (t := .boolean) Bd.returns (by simp) (hb hby d3_37) hr
          · show Q3 Z p0 p1 p2 p3 p4 p5 p6 h0 n0 _ T28.heap _
            rw [e28]
            exact ⟨own_b1 (by omega), N28, rfl⟩
    · skip
      have ohc19 : ¬ ((bI (p0.toInt + p5.toInt ≤ p2.toInt ∧ p2.toInt ≤ p0.toInt + p5.toInt + p6.toInt)).toInt = 0) := own_neq.mp hc19
      obtain ⟨fs, hr, hrun, hended, hW, hsame⟩ := X18.leave (v := some (.int (1 : Int32))) (fun h => by rw [Bd.returns] at h; cases h)
      refine ⟨_, _, pre0 _ (pre20 _ ?_), hrun, hended, _, _, rfl, ?_, ⟨_, rfl⟩, hW, hsame.mono (by decide) (by decide)⟩
      · skip
        show Steps p.tables e below (T18.setTop (mkF m 14 #[.val (.int p0), .val (.int p1), .val (.int p2), .val (.int p3), .val (.int p4), .val (.int p5), .val (.int p6)] [(.int (bI (p0.toInt + p5.toInt ≤ p2.toInt ∧ p2.toInt ≤ p0.toInt + p5.toInt + p6.toInt)))])) _
        refine XS.ifNo X18.here hx rfl (hb hby d3_14) rfl ((if0 _ _).trans (feq hc19).1) ?_
        show Steps p.tables e below (T18.setTop (mkF m 17 #[.val (.int p0), .val (.int p1), .val (.int p2), .val (.int p3), .val (.int p4), .val (.int p5), .val (.int p6)] [])) _
        refine XS.iconst X18.here hx rfl (hb hby d3_17) ?_
        show Steps p.tables e below (T18.setTop (mkF m 18 #[.val (.int p0), .val (.int p1), .val (.int p2), .val (.int p3), .val (.int p4), .val (.int p5), .val (.int p6)] [(.int (1 : Int32))])) _
        exact retN X18 hx (t := .boolean) Bd.returns (by simp) (hb hby d3_18) hr
      · show Q3 Z p0 p1 p2 p3 p4 p5 p6 h0 n0 _ T18.heap _
        rw [e18]
        exact ⟨own_b1 (by omega), N18, rfl⟩
def Q4 (Z : State) (r0 : Addr) (p1 : Int32) (r2 : Addr) (p3 : Int32) (c1 : Cell) (c2 : Cell) (nf : Int32) (ns : Int32) (F : Nat → Int32) (G : Nat → Int32) (h0 : Heap) (n0 : Nat) (v : Option Value) (h : Heap) (L : List Loc) : Prop := ∃ z : Int32, v = some (.int z) ∧ Fr n0 L ∧ h = h0 ∧ ((z = 1 ∧ ∃ i j : Nat, i < nf.toNatClampNeg ∧ j < ns.toNatClampNeg ∧ (F i).toInt + p1.toInt ≤ (G j).toInt ∧ (G j).toInt ≤ (F i).toInt + p1.toInt + p3.toInt) ∨ (z = 0 ∧ ∀ i j : Nat, i < nf.toNatClampNeg → j < ns.toNatClampNeg → ¬ ((F i).toInt + p1.toInt ≤ (G j).toInt ∧ (G j).toInt ≤ (F i).toInt + p1.toInt + p3.toInt)))
set_option maxRecDepth 65536 in
set_option maxHeartbeats 40000000 in
theorem rm4 (l : Launch) (Z : State) (a0 : Array Value) (hw : ∀ d ∈ tables_1, d.before a0 Z = true) (ws : List Jvm.Cond) (r0 : Addr) (p1 : Int32) (r2 : Addr) (p3 : Int32) (c1 : Cell) (c2 : Cell) (nf : Int32) (ns : Int32) (F : Nat → Int32) (G : Nat → Int32) (h0 : Heap) (n0 : Nat) (Z0 : n0 ≤ h0.size) (hnf : 0 ≤ nf.toInt ∧ nf.toInt ≤ 2) (A1 : Arr Z h0 r0 c1 .int) (S1 : c1.slots.size = nf.toNatClampNeg) (M1 : ¬ nf < 0) (HF : ∀ j : Nat, j < nf.toNatClampNeg → c1.slots[j]? = some (.int (F j))) (HO : (F 0).toInt ≤ (F 1).toInt) (A2 : Arr Z h0 r2 c2 .int) (S2 : c2.slots.size = ns.toNatClampNeg) (M2 : ¬ ns < 0) (HG : ∀ j : Nat, j < ns.toNatClampNeg → c2.slots[j]? = some (.int (G j))) (HS : ∀ i j : Nat, i ≤ j → j < ns.toNatClampNeg → (G i).toInt ≤ (G j).toInt) :
    MetFree l (⟨"com/example/cranfield/cranfield/search/Occurrences", "followedWithin", "([II[II)Z"⟩ : MethodName) (head1 (Jvm.Cond.code (⟨"com/example/cranfield/cranfield/search/Occurrences", "followedWithin", "([II[II)Z"⟩ : MethodName) prog_68_method_4_code 11 (some .boolean) :: ws) ({ frames := 0, cells := 0, slots := 0, locals := 0 } : Room)) (fun a U => a = #[(.ref r0), (.int p1), (.ref r2), (.int p3)] ∧ Z.Warmed39 U.vm ∧ U.heap = h0) (fun _ _ _ _ _ => True) (fun _ U o U' => ∃ v L, o = .returned v ∧ Q4 Z r0 p1 r2 p3 c1 c2 nf ns F G h0 n0 v U'.heap L ∧ FrameEnd U o U' L ({ frames := 0, cells := 0, slots := 0, locals := 0 } : Room).cells ({ frames := 0, cells := 0, slots := 0, locals := 0 } : Room).slots) := by
  refine MetFree.of_bodySF (plainFor_of_name pn_com_example_cranfield_cranfield_search_Occurrences) hisR ?_
  intro p e s m args below meth c s₁ Bd hml0 hP hK
  obtain ⟨rfl, hZ, hh⟩ := hP
  have hx := Bd.exec
  have hby := Bd.bytes
  have hml : c.maxLocals = 11 := hml0
  have hown : s.vm.findClass "com/example/cranfield/cranfield/search/Occurrences" = some m.cls := findClass_of_methodNamed Bd.named
  have hnm := (name_of_methodNamed Bd.named Bd.method).1
  have X0 : Stand p l e ({ frames := 0, cells := 0, slots := 0, locals := 0 } : Room) s m #[(.ref r0), (.int p1), (.ref r2), (.int p3)] below meth c s₁ [] 0 0 := Stand.of_body Bd
  have e0 : s₁.heap = h0 := by rw [← hh, Bd.state]; rfl
  have N0 := Fr.nil n0
  have pre0 : ∀ t, Steps p.tables e below (s₁.setTop (mkF m 0 #[.val (.ref r0), .val (.int p1), .val (.ref r2), .val (.int p3), .unset, .unset, .unset, .unset, .unset, .unset, .unset] [])) t → Steps p.tables e below (s₁.setTop (entryFrame m #[(.ref r0), (.int p1), (.ref r2), (.int p3)] 11)) t := fun t k => castTop (ef_4 m r0 p1 r2 p3) k
  have preS : ∀ t, Steps p.tables e below (s₁.setTop (mkF m 0 #[.val (.ref r0), .val (.int p1), .val (.ref r2), .val (.int p3), .unset, .unset, .unset, .unset, .unset, .unset, .unset] [])) t → Steps p.tables e below (s₁.setTop (mkF m 0 #[.val (.ref r0), .val (.int p1), .val (.ref r2), .val (.int p3), .unset, .unset, .unset, .unset, .unset, .unset, .unset] [])) t := fun t k => k
  have rp1 := rng32 p1
  have rp3 := rng32 p3
  have M2' := own_nlt.mp M2
  rw [show (0 : Int32).toInt = 0 from rfl] at M2'
  have pre1 : ∀ t, Steps p.tables e below (s₁.setTop (mkF m 11 #[.val (.ref r0), .val (.int p1), .val (.ref r2), .val (.int p3), .val (.int (0 : Int32)), .val (.ref r0), .val (.int nf), .unset, .unset, .unset, .unset] [])) t → Steps p.tables e below (s₁.setTop (mkF m 0 #[.val (.ref r0), .val (.int p1), .val (.ref r2), .val (.int p3), .unset, .unset, .unset, .unset, .unset, .unset, .unset] [])) t := fun t k => preS t (by
    show Steps p.tables e below (s₁.setTop (mkF m 0 #[.val (.ref r0), .val (.int p1), .val (.ref r2), .val (.int p3), .unset, .unset, .unset, .unset, .unset, .unset, .unset] [])) _
    refine XS.iconst X0.here hx rfl (hb hby d4_0) ?_
    show Steps p.tables e below (s₁.setTop (mkF m 1 #[.val (.ref r0), .val (.int p1), .val (.ref r2), .val (.int p3), .unset, .unset, .unset, .unset, .unset, .unset, .unset] [(.int (0 : Int32))])) _
    refine XS.istore X0.here hx rfl (hb hby d4_1) rfl (l' := #[.val (.ref r0), .val (.int p1), .val (.ref r2), .val (.int p3), .val (.int (0 : Int32)), .unset, .unset, .unset, .unset, .unset, .unset]) rfl ?_
    show Steps p.tables e below (s₁.setTop (mkF m 3 #[.val (.ref r0), .val (.int p1), .val (.ref r2), .val (.int p3), .val (.int (0 : Int32)), .unset, .unset, .unset, .unset, .unset, .unset] [])) _
    refine XS.aloadN X0.here hx rfl (hb hby d4_3) rfl rfl ?_
    show Steps p.tables e below (s₁.setTop (mkF m 4 #[.val (.ref r0), .val (.int p1), .val (.ref r2), .val (.int p3), .val (.int (0 : Int32)), .unset, .unset, .unset, .unset, .unset, .unset] [(.ref r0)])) _
    refine XS.astore X0.here hx rfl (hb hby d4_4) rfl rfl (l' := #[.val (.ref r0), .val (.int p1), .val (.ref r2), .val (.int p3), .val (.int (0 : Int32)), .val (.ref r0), .unset, .unset, .unset, .unset, .unset]) rfl ?_
    show Steps p.tables e below (s₁.setTop (mkF m 6 #[.val (.ref r0), .val (.int p1), .val (.ref r2), .val (.int p3), .val (.int (0 : Int32)), .val (.ref r0), .unset, .unset, .unset, .unset, .unset] [])) _
    refine XS.aload X0.here hx rfl (hb hby d4_6) rfl rfl ?_
    show Steps p.tables e below (s₁.setTop (mkF m 8 #[.val (.ref r0), .val (.int p1), .val (.ref r2), .val (.int p3), .val (.int (0 : Int32)), .val (.ref r0), .unset, .unset, .unset, .unset, .unset] [(.ref r0)])) _
    refine X0.arraylength hx (by rw [e0]; exact A1.1) (State.isArrayOf_alike hZ.alike A1.2.1) (g := (mkF m 8 #[.val (.ref r0), .val (.int p1), .val (.ref r2), .val (.int p3), .val (.int (0 : Int32)), .val (.ref r0), .unset, .unset, .unset, .unset, .unset] [(.ref r0)])) rfl rfl (hb hby d4_8) _ ?_
    rw [len_of S1 M1]
    show Steps p.tables e below (s₁.setTop (mkF m 9 #[.val (.ref r0), .val (.int p1), .val (.ref r2), .val (.int p3), .val (.int (0 : Int32)), .val (.ref r0), .unset, .unset, .unset, .unset, .unset] [(.int nf)])) _
    refine XS.istore X0.here hx rfl (hb hby d4_9) rfl (l' := #[.val (.ref r0), .val (.int p1), .val (.ref r2), .val (.int p3), .val (.int (0 : Int32)), .val (.ref r0), .val (.int nf), .unset, .unset, .unset, .unset]) rfl ?_
    exact k)
  rcases (show nf.toInt = 0 ∨ nf.toInt = 1 ∨ nf.toInt = 2 by omega) with hk | hk | hk
  · skip
    obtain rfl : nf = (0 : Int32) := own_eq.mpr hk
    have hc2 : ¬ ((0 : Int32) < (0 : Int32)) := by decide
    obtain ⟨fs, hr, hrun, hended, hW, hsame⟩ := X0.leave (v := some (.int (0 : Int32))) (fun h => by rw [Bd.returns] at h; cases h)
    refine ⟨_, _, pre0 _ (pre1 _ ?_), hrun, hended, _, _, rfl, ?_, ⟨_, rfl⟩, hW, hsame.mono (by decide) (by decide)⟩
    · skip
      show Steps p.tables e below (s₁.setTop (mkF m 11 #[.val (.ref r0), .val (.int p1), .val (.ref r2), .val (.int p3), .val (.int (0 : Int32)), .val (.ref r0), .val (.int (0 : Int32)), .unset, .unset, .unset, .unset] [])) _
      refine XS.iconst X0.here hx rfl (hb hby d4_11) ?_
      show Steps p.tables e below (s₁.setTop (mkF m 12 #[.val (.ref r0), .val (.int p1), .val (.ref r2), .val (.int p3), .val (.int (0 : Int32)), .val (.ref r0), .val (.int (0 : Int32)), .unset, .unset, .unset, .unset] [(.int (0 : Int32))])) _
      refine XS.istore X0.here hx rfl (hb hby d4_12) rfl (l' := #[.val (.ref r0), .val (.int p1), .val (.ref r2), .val (.int p3), .val (.int (0 : Int32)), .val (.ref r0), .val (.int (0 : Int32)), .val (.int (0 : Int32)), .unset, .unset, .unset]) rfl ?_
      show Steps p.tables e below (s₁.setTop (mkF m 14 #[.val (.ref r0), .val (.int p1), .val (.ref r2), .val (.int p3), .val (.int (0 : Int32)), .val (.ref r0), .val (.int (0 : Int32)), .val (.int (0 : Int32)), .unset, .unset, .unset] [])) _
      refine XS.iload X0.here hx rfl (hb hby d4_14) rfl ?_
      show Steps p.tables e below (s₁.setTop (mkF m 16 #[.val (.ref r0), .val (.int p1), .val (.ref r2), .val (.int p3), .val (.int (0 : Int32)), .val (.ref r0), .val (.int (0 : Int32)), .val (.int (0 : Int32)), .unset, .unset, .unset] [(.int (0 : Int32))])) _
      refine XS.iload X0.here hx rfl (hb hby d4_16) rfl ?_
      show Steps p.tables e below (s₁.setTop (mkF m 18 #[.val (.ref r0), .val (.int p1), .val (.ref r2), .val (.int p3), .val (.int (0 : Int32)), .val (.ref r0), .val (.int (0 : Int32)), .val (.int (0 : Int32)), .unset, .unset, .unset] [(.int (0 : Int32)), (.int (0 : Int32))])) _
      refine XS.icmpYes X0.here hx rfl (pc0 := 18) (pc' := 91) rfl (hb hby d4_18) rfl (flt hc2).2.1 (by decide) (by decide) ?_
      show Steps p.tables e below (s₁.setTop (mkF m 91 #[.val (.ref r0), .val (.int p1), .val (.ref r2), .val (.int p3), .val (.int (0 : Int32)), .val (.ref r0), .val (.int (0 : Int32)), .val (.int (0 : Int32)), .unset, .unset, .unset] [])) _
      refine XS.iconst X0.here hx rfl (hb hby d4_91) ?_
      show Steps p.tables e below (s₁.setTop (mkF m 92 #[.val (.ref r0), .val (.int p1), .val (.ref r2), .val (.int p3), .val (.int (0 : Int32)), .val (.ref r0), .val (.int (0 : Int32)), .val (.int (0 : Int32)), .unset, .unset, .unset] [(.int (0 : Int32))])) _
      exact retN X0 hx (t := .boolean) Bd.returns (by simp) (hb hby d4_92) hr
    · show Q4 Z r0 p1 r2 p3 c1 c2 (0 : Int32) ns F G h0 n0 _ s₁.heap _
      rw [e0]
      refine ⟨0, rfl, N0, rfl, Or.inr ⟨rfl, fun i j hi hj hh => ?_⟩⟩
      have hi' : i < 0 := hi
      have hnc := own_cl ns (by omega)
      omega
  · skip
    obtain rfl : nf = (1 : Int32) := own_eq.mpr hk
    have hc3 : (0 : Int32) < (1 : Int32) := by decide
    have hin4 : ¬ ((0 : Int32) < 0 ∨ c1.slots.size ≤ ((0 : Int32)).toNatClampNeg) := inb_of S1 ⟨by decide, by decide⟩
    have hat4 : c1.slots[((0 : Int32)).toNatClampNeg]? = some (.int (F 0)) := HF 0 (by decide)
    have pre5 : ∀ t, Steps p.tables e below (s₁.setTop (mkF m 36 #[.val (.ref r0), .val (.int p1), .val (.ref r2), .val (.int p3), .val (.int (0 : Int32)), .val (.ref r0), .val (.int (1 : Int32)), .val (.int (0 : Int32)), .val (.int (F 0)), .val (.long (((F 0).toInt64) + (p1.toInt64))), .second] [])) t → Steps p.tables e below (s₁.setTop (mkF m 0 #[.val (.ref r0), .val (.int p1), .val (.ref r2), .val (.int p3), .unset, .unset, .unset, .unset, .unset, .unset, .unset] [])) t := fun t k => pre1 t (by
      show Steps p.tables e below (s₁.setTop (mkF m 11 #[.val (.ref r0), .val (.int p1), .val (.ref r2), .val (.int p3), .val (.int (0 : Int32)), .val (.ref r0), .val (.int (1 : Int32)), .unset, .unset, .unset, .unset] [])) _
      refine XS.iconst X0.here hx rfl (hb hby d4_11) ?_
      show Steps p.tables e below (s₁.setTop (mkF m 12 #[.val (.ref r0), .val (.int p1), .val (.ref r2), .val (.int p3), .val (.int (0 : Int32)), .val (.ref r0), .val (.int (1 : Int32)), .unset, .unset, .unset, .unset] [(.int (0 : Int32))])) _
      refine XS.istore X0.here hx rfl (hb hby d4_12) rfl (l' := #[.val (.ref r0), .val (.int p1), .val (.ref r2), .val (.int p3), .val (.int (0 : Int32)), .val (.ref r0), .val (.int (1 : Int32)), .val (.int (0 : Int32)), .unset, .unset, .unset]) rfl ?_
      show Steps p.tables e below (s₁.setTop (mkF m 14 #[.val (.ref r0), .val (.int p1), .val (.ref r2), .val (.int p3), .val (.int (0 : Int32)), .val (.ref r0), .val (.int (1 : Int32)), .val (.int (0 : Int32)), .unset, .unset, .unset] [])) _
      refine XS.iload X0.here hx rfl (hb hby d4_14) rfl ?_
      show Steps p.tables e below (s₁.setTop (mkF m 16 #[.val (.ref r0), .val (.int p1), .val (.ref r2), .val (.int p3), .val (.int (0 : Int32)), .val (.ref r0), .val (.int (1 : Int32)), .val (.int (0 : Int32)), .unset, .unset, .unset] [(.int (0 : Int32))])) _
      refine XS.iload X0.here hx rfl (hb hby d4_16) rfl ?_
      show Steps p.tables e below (s₁.setTop (mkF m 18 #[.val (.ref r0), .val (.int p1), .val (.ref r2), .val (.int p3), .val (.int (0 : Int32)), .val (.ref r0), .val (.int (1 : Int32)), .val (.int (0 : Int32)), .unset, .unset, .unset] [(.int (1 : Int32)), (.int (0 : Int32))])) _
      refine XS.icmpNo X0.here hx rfl (hb hby d4_18) rfl (tlt hc3).2.1 ?_
      show Steps p.tables e below (s₁.setTop (mkF m 21 #[.val (.ref r0), .val (.int p1), .val (.ref r2), .val (.int p3), .val (.int (0 : Int32)), .val (.ref r0), .val (.int (1 : Int32)), .val (.int (0 : Int32)), .unset, .unset, .unset] [])) _
      refine XS.aload X0.here hx rfl (hb hby d4_21) rfl rfl ?_
      show Steps p.tables e below (s₁.setTop (mkF m 23 #[.val (.ref r0), .val (.int p1), .val (.ref r2), .val (.int p3), .val (.int (0 : Int32)), .val (.ref r0), .val (.int (1 : Int32)), .val (.int (0 : Int32)), .unset, .unset, .unset] [(.ref r0)])) _
      refine XS.iload X0.here hx rfl (hb hby d4_23) rfl ?_
      show Steps p.tables e below (s₁.setTop (mkF m 25 #[.val (.ref r0), .val (.int p1), .val (.ref r2), .val (.int p3), .val (.int (0 : Int32)), .val (.ref r0), .val (.int (1 : Int32)), .val (.int (0 : Int32)), .unset, .unset, .unset] [(.int (0 : Int32)), (.ref r0)])) _
      refine X0.iaload hx (j := (0 : Int32)) (v := (.int (F 0))) (by rw [e0]; exact A1.1) (State.isArrayOf_alike hZ.alike A1.2.1) A1.2.2 hin4 hat4 (g := (mkF m 25 #[.val (.ref r0), .val (.int p1), .val (.ref r2), .val (.int p3), .val (.int (0 : Int32)), .val (.ref r0), .val (.int (1 : Int32)), .val (.int (0 : Int32)), .unset, .unset, .unset] [(.int (0 : Int32)), (.ref r0)])) rfl rfl (hb hby d4_25) _ ?_
      show Steps p.tables e below (s₁.setTop (mkF m 26 #[.val (.ref r0), .val (.int p1), .val (.ref r2), .val (.int p3), .val (.int (0 : Int32)), .val (.ref r0), .val (.int (1 : Int32)), .val (.int (0 : Int32)), .unset, .unset, .unset] [(.int (F 0))])) _
      refine XS.istore X0.here hx rfl (hb hby d4_26) rfl (l' := #[.val (.ref r0), .val (.int p1), .val (.ref r2), .val (.int p3), .val (.int (0 : Int32)), .val (.ref r0), .val (.int (1 : Int32)), .val (.int (0 : Int32)), .val (.int (F 0)), .unset, .unset]) rfl ?_
      show Steps p.tables e below (s₁.setTop (mkF m 28 #[.val (.ref r0), .val (.int p1), .val (.ref r2), .val (.int p3), .val (.int (0 : Int32)), .val (.ref r0), .val (.int (1 : Int32)), .val (.int (0 : Int32)), .val (.int (F 0)), .unset, .unset] [])) _
      refine XS.iload X0.here hx rfl (hb hby d4_28) rfl ?_
      show Steps p.tables e below (s₁.setTop (mkF m 30 #[.val (.ref r0), .val (.int p1), .val (.ref r2), .val (.int p3), .val (.int (0 : Int32)), .val (.ref r0), .val (.int (1 : Int32)), .val (.int (0 : Int32)), .val (.int (F 0)), .unset, .unset] [(.int (F 0))])) _
      refine XS.i2l X0.here hx rfl (hb hby d4_30) rfl ?_
      show Steps p.tables e below (s₁.setTop (mkF m 31 #[.val (.ref r0), .val (.int p1), .val (.ref r2), .val (.int p3), .val (.int (0 : Int32)), .val (.ref r0), .val (.int (1 : Int32)), .val (.int (0 : Int32)), .val (.int (F 0)), .unset, .unset] [(.long ((F 0).toInt64))])) _
      refine XS.iloadN X0.here hx rfl (hb hby d4_31) rfl ?_
      show Steps p.tables e below (s₁.setTop (mkF m 32 #[.val (.ref r0), .val (.int p1), .val (.ref r2), .val (.int p3), .val (.int (0 : Int32)), .val (.ref r0), .val (.int (1 : Int32)), .val (.int (0 : Int32)), .val (.int (F 0)), .unset, .unset] [(.int p1), (.long ((F 0).toInt64))])) _
      refine XS.i2l X0.here hx rfl (hb hby d4_32) rfl ?_
      show Steps p.tables e below (s₁.setTop (mkF m 33 #[.val (.ref r0), .val (.int p1), .val (.ref r2), .val (.int p3), .val (.int (0 : Int32)), .val (.ref r0), .val (.int (1 : Int32)), .val (.int (0 : Int32)), .val (.int (F 0)), .unset, .unset] [(.long (p1.toInt64)), (.long ((F 0).toInt64))])) _
      refine XS.ladd X0.here hx rfl (hb hby d4_33) rfl ?_
      show Steps p.tables e below (s₁.setTop (mkF m 34 #[.val (.ref r0), .val (.int p1), .val (.ref r2), .val (.int p3), .val (.int (0 : Int32)), .val (.ref r0), .val (.int (1 : Int32)), .val (.int (0 : Int32)), .val (.int (F 0)), .unset, .unset] [(.long (((F 0).toInt64) + (p1.toInt64)))])) _
      refine XS.lstore X0.here hx rfl (hb hby d4_34) rfl (l' := #[.val (.ref r0), .val (.int p1), .val (.ref r2), .val (.int p3), .val (.int (0 : Int32)), .val (.ref r0), .val (.int (1 : Int32)), .val (.int (0 : Int32)), .val (.int (F 0)), .val (.long (((F 0).toInt64) + (p1.toInt64))), .second]) rfl ?_
      exact k)
    obtain ⟨ee0, h_ee0⟩ : ∃ z, z = (((F 0).toInt64) + (p1.toInt64)) := ⟨_, rfl⟩
    rw [← h_ee0] at pre5
    have ha0 := c_ladd ((F 0).toInt64) (p1.toInt64)
    rw [c_i2l, c_i2l, ← h_ee0] at ha0
    have hb0 := rng32 (F 0)
    have hd0 := rng64 ee0
    have he0 : ee0.toInt = (F 0).toInt + p1.toInt := by omega
    clear ha0 hb0 hd0
    have lp0 : ∀ (k : Nat) (sv : Int32), 0 ≤ sv.toInt → sv.toInt + k = ns.toInt → ∃ sv' : Int32, sv.toInt ≤ sv'.toInt ∧ sv'.toInt ≤ ns.toInt ∧ (∀ j : Nat, sv.toInt ≤ j → (j : Int) < sv'.toInt → (G j).toInt < ee0.toInt) ∧ (sv'.toInt < ns.toInt → ee0.toInt ≤ (G sv'.toNatClampNeg).toInt) ∧ ∀ t, Steps p.tables e below (s₁.setTop (mkF m 60 #[.val (.ref r0), .val (.int p1), .val (.ref r2), .val (.int p3), .val (.int sv'), .val (.ref r0), .val (.int (1 : Int32)), .val (.int (0 : Int32)), .val (.int (F 0)), .val (.long ee0), .second] [])) t → Steps p.tables e below (s₁.setTop (mkF m 36 #[.val (.ref r0), .val (.int p1), .val (.ref r2), .val (.int p3), .val (.int sv), .val (.ref r0), .val (.int (1 : Int32)), .val (.int (0 : Int32)), .val (.int (F 0)), .val (.long ee0), .second] [])) t := by
      intro k
      induction k with
      | zero =>
        intro sv hs0 hs1
        have hc6 : ¬ (sv < ns) := own_nlt.mpr (show ns.toInt ≤ sv.toInt by omega)
        have ohc6 : ns.toInt ≤ sv.toInt := own_nlt.mp hc6
        refine ⟨sv, by omega, by omega, fun j a b => by omega, fun a => by omega, fun t k => ?_⟩
        show Steps p.tables e below (s₁.setTop (mkF m 36 #[.val (.ref r0), .val (.int p1), .val (.ref r2), .val (.int p3), .val (.int sv), .val (.ref r0), .val (.int (1 : Int32)), .val (.int (0 : Int32)), .val (.int (F 0)), .val (.long ee0), .second] [])) _
        refine XS.iload X0.here hx rfl (hb hby d4_36) rfl ?_
        show Steps p.tables e below (s₁.setTop (mkF m 38 #[.val (.ref r0), .val (.int p1), .val (.ref r2), .val (.int p3), .val (.int sv), .val (.ref r0), .val (.int (1 : Int32)), .val (.int (0 : Int32)), .val (.int (F 0)), .val (.long ee0), .second] [(.int sv)])) _
        refine XS.aloadN X0.here hx rfl (hb hby d4_38) rfl rfl ?_
        show Steps p.tables e below (s₁.setTop (mkF m 39 #[.val (.ref r0), .val (.int p1), .val (.ref r2), .val (.int p3), .val (.int sv), .val (.ref r0), .val (.int (1 : Int32)), .val (.int (0 : Int32)), .val (.int (F 0)), .val (.long ee0), .second] [(.ref r2), (.int sv)])) _
        refine X0.arraylength hx (by rw [e0]; exact A2.1) (State.isArrayOf_alike hZ.alike A2.2.1) (g := (mkF m 39 #[.val (.ref r0), .val (.int p1), .val (.ref r2), .val (.int p3), .val (.int sv), .val (.ref r0), .val (.int (1 : Int32)), .val (.int (0 : Int32)), .val (.int (F 0)), .val (.long ee0), .second] [(.ref r2), (.int sv)])) rfl rfl (hb hby d4_39) _ ?_
        rw [len_of S2 M2]
        show Steps p.tables e below (s₁.setTop (mkF m 40 #[.val (.ref r0), .val (.int p1), .val (.ref r2), .val (.int p3), .val (.int sv), .val (.ref r0), .val (.int (1 : Int32)), .val (.int (0 : Int32)), .val (.int (F 0)), .val (.long ee0), .second] [(.int ns), (.int sv)])) _
        refine XS.icmpYes X0.here hx rfl (pc0 := 40) (pc' := 60) rfl (hb hby d4_40) rfl (flt hc6).2.1 (by decide) (by decide) ?_
        exact k
      | succ k ih =>
        intro sv hs0 hs1
        have hcl := own_cl sv hs0
        have hq := c_lcmp ((G sv.toNatClampNeg).toInt64) ee0
        rw [c_i2l] at hq
        by_cases hlt : (lcmpW ((G (sv).toNatClampNeg).toInt64) ee0) < (0 : Int32)
        · skip
          have olt : (lcmpW ((G (sv).toNatClampNeg).toInt64) ee0).toInt < 0 := own_lt.mp hlt
          have hsi := c_iadd sv (1 : Int32)
          rw [show (1 : Int32).toInt = 1 from rfl] at hsi
          have hsr := rng32 (sv + (1 : Int32))
          have hnr := rng32 ns
          have hsv : (sv + (1 : Int32)).toInt = sv.toInt + 1 := by omega
          clear hsi hsr hnr
          obtain ⟨sv', i1, i2, i3, i4, i5⟩ := ih (sv + (1 : Int32)) (by omega) (by omega)
          have hc7 : sv < ns := own_lt.mpr (show sv.toInt < ns.toInt by omega)
          have ohc7 : sv.toInt < ns.toInt := own_lt.mp hc7
          have hin8 : ¬ (sv < 0 ∨ c2.slots.size ≤ (sv).toNatClampNeg) := inb_of S2 ⟨own_nlt.mpr (show 0 ≤ sv.toInt by omega), own_lt.mpr (show sv.toInt < ns.toInt by omega)⟩
          have hat8 : c2.slots[(sv).toNatClampNeg]? = some (.int (G (sv).toNatClampNeg)) := HG _ (own_cl2 (by omega) (by omega))
          have hc9 : (lcmpW ((G (sv).toNatClampNeg).toInt64) ee0) < (0 : Int32) := hlt
          have ohc9 : (lcmpW ((G (sv).toNatClampNeg).toInt64) ee0).toInt < 0 := own_lt.mp hc9
          refine ⟨sv', by omega, i2, fun j a b => ?_, i4, fun t k => ?_⟩
          · by_cases hjs : (j : Int) = sv.toInt
            · have hj2 : j = sv.toNatClampNeg := by omega
              rw [hj2]; omega
            · exact i3 j (by omega) b
          · skip
            show Steps p.tables e below (s₁.setTop (mkF m 36 #[.val (.ref r0), .val (.int p1), .val (.ref r2), .val (.int p3), .val (.int sv), .val (.ref r0), .val (.int (1 : Int32)), .val (.int (0 : Int32)), .val (.int (F 0)), .val (.long ee0), .second] [])) _
            refine XS.iload X0.here hx rfl (hb hby d4_36) rfl ?_
            show Steps p.tables e below (s₁.setTop (mkF m 38 #[.val (.ref r0), .val (.int p1), .val (.ref r2), .val (.int p3), .val (.int sv), .val (.ref r0), .val (.int (1 : Int32)), .val (.int (0 : Int32)), .val (.int (F 0)), .val (.long ee0), .second] [(.int sv)])) _
            refine XS.aloadN X0.here hx rfl (hb hby d4_38) rfl rfl ?_
            show Steps p.tables e below (s₁.setTop (mkF m 39 #[.val (.ref r0), .val (.int p1), .val (.ref r2), .val (.int p3), .val (.int sv), .val (.ref r0), .val (.int (1 : Int32)), .val (.int (0 : Int32)), .val (.int (F 0)), .val (.long ee0), .second] [(.ref r2), (.int sv)])) _
            refine X0.arraylength hx (by rw [e0]; exact A2.1) (State.isArrayOf_alike hZ.alike A2.2.1) (g := (mkF m 39 #[.val (.ref r0), .val (.int p1), .val (.ref r2), .val (.int p3), .val (.int sv), .val (.ref r0), .val (.int (1 : Int32)), .val (.int (0 : Int32)), .val (.int (F 0)), .val (.long ee0), .second] [(.ref r2), (.int sv)])) rfl rfl (hb hby d4_39) _ ?_
            rw [len_of S2 M2]
            show Steps p.tables e below (s₁.setTop (mkF m 40 #[.val (.ref r0), .val (.int p1), .val (.ref r2), .val (.int p3), .val (.int sv), .val (.ref r0), .val (.int (1 : Int32)), .val (.int (0 : Int32)), .val (.int (F 0)), .val (.long ee0), .second] [(.int ns), (.int sv)])) _
            refine XS.icmpNo X0.here hx rfl (hb hby d4_40) rfl (tlt hc7).2.1 ?_
            show Steps p.tables e below (s₁.setTop (mkF m 43 #[.val (.ref r0), .val (.int p1), .val (.ref r2), .val (.int p3), .val (.int sv), .val (.ref r0), .val (.int (1 : Int32)), .val (.int (0 : Int32)), .val (.int (F 0)), .val (.long ee0), .second] [])) _
            refine XS.aloadN X0.here hx rfl (hb hby d4_43) rfl rfl ?_
            show Steps p.tables e below (s₁.setTop (mkF m 44 #[.val (.ref r0), .val (.int p1), .val (.ref r2), .val (.int p3), .val (.int sv), .val (.ref r0), .val (.int (1 : Int32)), .val (.int (0 : Int32)), .val (.int (F 0)), .val (.long ee0), .second] [(.ref r2)])) _
            refine XS.iload X0.here hx rfl (hb hby d4_44) rfl ?_
            show Steps p.tables e below (s₁.setTop (mkF m 46 #[.val (.ref r0), .val (.int p1), .val (.ref r2), .val (.int p3), .val (.int sv), .val (.ref r0), .val (.int (1 : Int32)), .val (.int (0 : Int32)), .val (.int (F 0)), .val (.long ee0), .second] [(.int sv), (.ref r2)])) _
            refine X0.iaload hx (j := sv) (v := (.int (G (sv).toNatClampNeg))) (by rw [e0]; exact A2.1) (State.isArrayOf_alike hZ.alike A2.2.1) A2.2.2 hin8 hat8 (g := (mkF m 46 #[.val (.ref r0), .val (.int p1), .val (.ref r2), .val (.int p3), .val (.int sv), .val (.ref r0), .val (.int (1 : Int32)), .val (.int (0 : Int32)), .val (.int (F 0)), .val (.long ee0), .second] [(.int sv), (.ref r2)])) rfl rfl (hb hby d4_46) _ ?_
            show Steps p.tables e below (s₁.setTop (mkF m 47 #[.val (.ref r0), .val (.int p1), .val (.ref r2), .val (.int p3), .val (.int sv), .val (.ref r0), .val (.int (1 : Int32)), .val (.int (0 : Int32)), .val (.int (F 0)), .val (.long ee0), .second] [(.int (G (sv).toNatClampNeg))])) _
            refine XS.i2l X0.here hx rfl (hb hby d4_47) rfl ?_
            show Steps p.tables e below (s₁.setTop (mkF m 48 #[.val (.ref r0), .val (.int p1), .val (.ref r2), .val (.int p3), .val (.int sv), .val (.ref r0), .val (.int (1 : Int32)), .val (.int (0 : Int32)), .val (.int (F 0)), .val (.long ee0), .second] [(.long ((G (sv).toNatClampNeg).toInt64))])) _
            refine XS.lload X0.here hx rfl (hb hby d4_48) rfl ?_
            show Steps p.tables e below (s₁.setTop (mkF m 50 #[.val (.ref r0), .val (.int p1), .val (.ref r2), .val (.int p3), .val (.int sv), .val (.ref r0), .val (.int (1 : Int32)), .val (.int (0 : Int32)), .val (.int (F 0)), .val (.long ee0), .second] [(.long ee0), (.long ((G (sv).toNatClampNeg).toInt64))])) _
            refine XS.lcmp X0.here hx rfl (hb hby d4_50) rfl ?_
            show Steps p.tables e below (s₁.setTop (mkF m 51 #[.val (.ref r0), .val (.int p1), .val (.ref r2), .val (.int p3), .val (.int sv), .val (.ref r0), .val (.int (1 : Int32)), .val (.int (0 : Int32)), .val (.int (F 0)), .val (.long ee0), .second] [(.int (lcmpW ((G (sv).toNatClampNeg).toInt64) ee0))])) _
            refine XS.ifNo X0.here hx rfl (hb hby d4_51) rfl ((if0 _ _).trans (tlt hc9).2.1) ?_
            show Steps p.tables e below (s₁.setTop (mkF m 54 #[.val (.ref r0), .val (.int p1), .val (.ref r2), .val (.int p3), .val (.int sv), .val (.ref r0), .val (.int (1 : Int32)), .val (.int (0 : Int32)), .val (.int (F 0)), .val (.long ee0), .second] [])) _
            refine XS.iinc X0.here hx rfl (hb hby d4_54) rfl (l' := #[.val (.ref r0), .val (.int p1), .val (.ref r2), .val (.int p3), .val (.int (sv + (1 : Int32))), .val (.ref r0), .val (.int (1 : Int32)), .val (.int (0 : Int32)), .val (.int (F 0)), .val (.long ee0), .second]) rfl ?_
            show Steps p.tables e below (s₁.setTop (mkF m 57 #[.val (.ref r0), .val (.int p1), .val (.ref r2), .val (.int p3), .val (.int (sv + (1 : Int32))), .val (.ref r0), .val (.int (1 : Int32)), .val (.int (0 : Int32)), .val (.int (F 0)), .val (.long ee0), .second] [])) _
            refine XS.goto X0.here hx rfl (pc0 := 57) (pc' := 36) rfl (hb hby d4_57) (by decide) (by decide) ?_
            exact i5 t k
        · skip
          have olt : 0 ≤ (lcmpW ((G (sv).toNatClampNeg).toInt64) ee0).toInt := own_nlt.mp hlt
          have hc10 : sv < ns := own_lt.mpr (show sv.toInt < ns.toInt by omega)
          have ohc10 : sv.toInt < ns.toInt := own_lt.mp hc10
          have hin11 : ¬ (sv < 0 ∨ c2.slots.size ≤ (sv).toNatClampNeg) := inb_of S2 ⟨own_nlt.mpr (show 0 ≤ sv.toInt by omega), own_lt.mpr (show sv.toInt < ns.toInt by omega)⟩
          have hat11 : c2.slots[(sv).toNatClampNeg]? = some (.int (G (sv).toNatClampNeg)) := HG _ (own_cl2 (by omega) (by omega))
          have hc12 : ¬ ((lcmpW ((G (sv).toNatClampNeg).toInt64) ee0) < (0 : Int32)) := hlt
          have ohc12 : 0 ≤ (lcmpW ((G (sv).toNatClampNeg).toInt64) ee0).toInt := own_nlt.mp hc12
          refine ⟨sv, by omega, by omega, fun j a b => by omega, fun a => by omega, fun t k => ?_⟩
          show Steps p.tables e below (s₁.setTop (mkF m 36 #[.val (.ref r0), .val (.int p1), .val (.ref r2), .val (.int p3), .val (.int sv), .val (.ref r0), .val (.int (1 : Int32)), .val (.int (0 : Int32)), .val (.int (F 0)), .val (.long ee0), .second] [])) _
          refine XS.iload X0.here hx rfl (hb hby d4_36) rfl ?_
          show Steps p.tables e below (s₁.setTop (mkF m 38 #[.val (.ref r0), .val (.int p1), .val (.ref r2), .val (.int p3), .val (.int sv), .val (.ref r0), .val (.int (1 : Int32)), .val (.int (0 : Int32)), .val (.int (F 0)), .val (.long ee0), .second] [(.int sv)])) _
          refine XS.aloadN X0.here hx rfl (hb hby d4_38) rfl rfl ?_
          show Steps p.tables e below (s₁.setTop (mkF m 39 #[.val (.ref r0), .val (.int p1), .val (.ref r2), .val (.int p3), .val (.int sv), .val (.ref r0), .val (.int (1 : Int32)), .val (.int (0 : Int32)), .val (.int (F 0)), .val (.long ee0), .second] [(.ref r2), (.int sv)])) _
          refine X0.arraylength hx (by rw [e0]; exact A2.1) (State.isArrayOf_alike hZ.alike A2.2.1) (g := (mkF m 39 #[.val (.ref r0), .val (.int p1), .val (.ref r2), .val (.int p3), .val (.int sv), .val (.ref r0), .val (.int (1 : Int32)), .val (.int (0 : Int32)), .val (.int (F 0)), .val (.long ee0), .second] [(.ref r2), (.int sv)])) rfl rfl (hb hby d4_39) _ ?_
          rw [len_of S2 M2]
          show Steps p.tables e below (s₁.setTop (mkF m 40 #[.val (.ref r0), .val (.int p1), .val (.ref r2), .val (.int p3), .val (.int sv), .val (.ref r0), .val (.int (1 : Int32)), .val (.int (0 : Int32)), .val (.int (F 0)), .val (.long ee0), .second] [(.int ns), (.int sv)])) _
          refine XS.icmpNo X0.here hx rfl (hb hby d4_40) rfl (tlt hc10).2.1 ?_
          show Steps p.tables e below (s₁.setTop (mkF m 43 #[.val (.ref r0), .val (.int p1), .val (.ref r2), .val (.int p3), .val (.int sv), .val (.ref r0), .val (.int (1 : Int32)), .val (.int (0 : Int32)), .val (.int (F 0)), .val (.long ee0), .second] [])) _
          refine XS.aloadN X0.here hx rfl (hb hby d4_43) rfl rfl ?_
          show Steps p.tables e below (s₁.setTop (mkF m 44 #[.val (.ref r0), .val (.int p1), .val (.ref r2), .val (.int p3), .val (.int sv), .val (.ref r0), .val (.int (1 : Int32)), .val (.int (0 : Int32)), .val (.int (F 0)), .val (.long ee0), .second] [(.ref r2)])) _
          refine XS.iload X0.here hx rfl (hb hby d4_44) rfl ?_
          show Steps p.tables e below (s₁.setTop (mkF m 46 #[.val (.ref r0), .val (.int p1), .val (.ref r2), .val (.int p3), .val (.int sv), .val (.ref r0), .val (.int (1 : Int32)), .val (.int (0 : Int32)), .val (.int (F 0)), .val (.long ee0), .second] [(.int sv), (.ref r2)])) _
          refine X0.iaload hx (j := sv) (v := (.int (G (sv).toNatClampNeg))) (by rw [e0]; exact A2.1) (State.isArrayOf_alike hZ.alike A2.2.1) A2.2.2 hin11 hat11 (g := (mkF m 46 #[.val (.ref r0), .val (.int p1), .val (.ref r2), .val (.int p3), .val (.int sv), .val (.ref r0), .val (.int (1 : Int32)), .val (.int (0 : Int32)), .val (.int (F 0)), .val (.long ee0), .second] [(.int sv), (.ref r2)])) rfl rfl (hb hby d4_46) _ ?_
          show Steps p.tables e below (s₁.setTop (mkF m 47 #[.val (.ref r0), .val (.int p1), .val (.ref r2), .val (.int p3), .val (.int sv), .val (.ref r0), .val (.int (1 : Int32)), .val (.int (0 : Int32)), .val (.int (F 0)), .val (.long ee0), .second] [(.int (G (sv).toNatClampNeg))])) _
          refine XS.i2l X0.here hx rfl (hb hby d4_47) rfl ?_
          show Steps p.tables e below (s₁.setTop (mkF m 48 #[.val (.ref r0), .val (.int p1), .val (.ref r2), .val (.int p3), .val (.int sv), .val (.ref r0), .val (.int (1 : Int32)), .val (.int (0 : Int32)), .val (.int (F 0)), .val (.long ee0), .second] [(.long ((G (sv).toNatClampNeg).toInt64))])) _
          refine XS.lload X0.here hx rfl (hb hby d4_48) rfl ?_
          show Steps p.tables e below (s₁.setTop (mkF m 50 #[.val (.ref r0), .val (.int p1), .val (.ref r2), .val (.int p3), .val (.int sv), .val (.ref r0), .val (.int (1 : Int32)), .val (.int (0 : Int32)), .val (.int (F 0)), .val (.long ee0), .second] [(.long ee0), (.long ((G (sv).toNatClampNeg).toInt64))])) _
          refine XS.lcmp X0.here hx rfl (hb hby d4_50) rfl ?_
          show Steps p.tables e below (s₁.setTop (mkF m 51 #[.val (.ref r0), .val (.int p1), .val (.ref r2), .val (.int p3), .val (.int sv), .val (.ref r0), .val (.int (1 : Int32)), .val (.int (0 : Int32)), .val (.int (F 0)), .val (.long ee0), .second] [(.int (lcmpW ((G (sv).toNatClampNeg).toInt64) ee0))])) _
          refine XS.ifYes X0.here hx rfl (pc0 := 51) (pc' := 60) rfl (hb hby d4_51) rfl ((if0 _ _).trans (flt hc12).2.1) (by decide) (by decide) ?_
          exact k
    obtain ⟨s_0, j01, j02, j03, j04, j05⟩ := lp0 (ns.toInt - 0).toNat (0 : Int32) (by first | decide | omega) (by first | omega | (rw [show ((0 : Int32)).toInt = 0 from rfl]; omega))
    have jz : (0 : Int32).toInt = 0 := rfl
    rw [jz] at j01 j03
    have pre13 : ∀ t, Steps p.tables e below (s₁.setTop (mkF m 60 #[.val (.ref r0), .val (.int p1), .val (.ref r2), .val (.int p3), .val (.int s_0), .val (.ref r0), .val (.int (1 : Int32)), .val (.int (0 : Int32)), .val (.int (F 0)), .val (.long ee0), .second] [])) t → Steps p.tables e below (s₁.setTop (mkF m 0 #[.val (.ref r0), .val (.int p1), .val (.ref r2), .val (.int p3), .unset, .unset, .unset, .unset, .unset, .unset, .unset] [])) t := fun t k => pre5 t (j05 t k)
    have jc0 := own_cl s_0 (by omega)
    have jq0 := c_lcmp ((G (s_0).toNatClampNeg).toInt64) (ee0 + (p3.toInt64))
    have jr0 := c_ladd ee0 (p3.toInt64)
    rw [c_i2l] at jq0 jr0
    have js0 := rng64 (ee0 + (p3.toInt64))
    have jt0 : (ee0 + (p3.toInt64)).toInt = ee0.toInt + p3.toInt := by have rf := rng32 (F 0); omega
    rw [jt0] at jq0
    clear jr0 js0 jt0
    have pre15 : ∀ t, Steps p.tables e below (s₁.setTop (mkF m 64 #[.val (.ref r0), .val (.int p1), .val (.ref r2), .val (.int p3), .val (.int s_0), .val (.ref r0), .val (.int (1 : Int32)), .val (.int (0 : Int32)), .val (.int (F 0)), .val (.long ee0), .second] [(.int ns), (.int s_0)])) t → Steps p.tables e below (s₁.setTop (mkF m 0 #[.val (.ref r0), .val (.int p1), .val (.ref r2), .val (.int p3), .unset, .unset, .unset, .unset, .unset, .unset, .unset] [])) t := fun t k => pre13 t (by
      show Steps p.tables e below (s₁.setTop (mkF m 60 #[.val (.ref r0), .val (.int p1), .val (.ref r2), .val (.int p3), .val (.int s_0), .val (.ref r0), .val (.int (1 : Int32)), .val (.int (0 : Int32)), .val (.int (F 0)), .val (.long ee0), .second] [])) _
      refine XS.iload X0.here hx rfl (hb hby d4_60) rfl ?_
      show Steps p.tables e below (s₁.setTop (mkF m 62 #[.val (.ref r0), .val (.int p1), .val (.ref r2), .val (.int p3), .val (.int s_0), .val (.ref r0), .val (.int (1 : Int32)), .val (.int (0 : Int32)), .val (.int (F 0)), .val (.long ee0), .second] [(.int s_0)])) _
      refine XS.aloadN X0.here hx rfl (hb hby d4_62) rfl rfl ?_
      show Steps p.tables e below (s₁.setTop (mkF m 63 #[.val (.ref r0), .val (.int p1), .val (.ref r2), .val (.int p3), .val (.int s_0), .val (.ref r0), .val (.int (1 : Int32)), .val (.int (0 : Int32)), .val (.int (F 0)), .val (.long ee0), .second] [(.ref r2), (.int s_0)])) _
      refine X0.arraylength hx (by rw [e0]; exact A2.1) (State.isArrayOf_alike hZ.alike A2.2.1) (g := (mkF m 63 #[.val (.ref r0), .val (.int p1), .val (.ref r2), .val (.int p3), .val (.int s_0), .val (.ref r0), .val (.int (1 : Int32)), .val (.int (0 : Int32)), .val (.int (F 0)), .val (.long ee0), .second] [(.ref r2), (.int s_0)])) rfl rfl (hb hby d4_63) _ ?_
      rw [len_of S2 M2]
      exact k)
    by_cases hc14 : s_0 = ns
    · skip
      have ohc14 : s_0.toInt = ns.toInt := own_eq.mp hc14
      obtain ⟨fs, hr, hrun, hended, hW, hsame⟩ := X0.leave (v := some (.int (0 : Int32))) (fun h => by rw [Bd.returns] at h; cases h)
      refine ⟨_, _, pre0 _ (pre15 _ ?_), hrun, hended, _, _, rfl, ?_, ⟨_, rfl⟩, hW, hsame.mono (by decide) (by decide)⟩
      · skip
        show Steps p.tables e below (s₁.setTop (mkF m 64 #[.val (.ref r0), .val (.int p1), .val (.ref r2), .val (.int p3), .val (.int s_0), .val (.ref r0), .val (.int (1 : Int32)), .val (.int (0 : Int32)), .val (.int (F 0)), .val (.long ee0), .second] [(.int ns), (.int s_0)])) _
        refine XS.icmpNo X0.here hx rfl (hb hby d4_64) rfl (teq hc14).2 ?_
        show Steps p.tables e below (s₁.setTop (mkF m 67 #[.val (.ref r0), .val (.int p1), .val (.ref r2), .val (.int p3), .val (.int s_0), .val (.ref r0), .val (.int (1 : Int32)), .val (.int (0 : Int32)), .val (.int (F 0)), .val (.long ee0), .second] [])) _
        refine XS.iconst X0.here hx rfl (hb hby d4_67) ?_
        show Steps p.tables e below (s₁.setTop (mkF m 68 #[.val (.ref r0), .val (.int p1), .val (.ref r2), .val (.int p3), .val (.int s_0), .val (.ref r0), .val (.int (1 : Int32)), .val (.int (0 : Int32)), .val (.int (F 0)), .val (.long ee0), .second] [(.int (0 : Int32))])) _
        exact retN X0 hx (t := .boolean) Bd.returns (by simp) (hb hby d4_68) hr
      · show Q4 Z r0 p1 r2 p3 c1 c2 (1 : Int32) ns F G h0 n0 _ s₁.heap _
        rw [e0]
        refine ⟨0, rfl, N0, rfl, Or.inr ⟨rfl, fun i j hi hj hh => ?_⟩⟩
        have hi' : i < 1 := hi
        have hnc := own_cl ns (by omega)
        have a0 := j03 j
        have b0 := HS (s_0).toNatClampNeg j
        obtain rfl : i = 0 := by omega
        omega
    · skip
      have ohc14 : ¬ (s_0.toInt = ns.toInt) := own_neq.mp hc14
      have hin16 : ¬ (s_0 < 0 ∨ c2.slots.size ≤ (s_0).toNatClampNeg) := inb_of S2 ⟨own_nlt.mpr (show 0 ≤ s_0.toInt by omega), own_lt.mpr (show s_0.toInt < ns.toInt by omega)⟩
      have hat16 : c2.slots[(s_0).toNatClampNeg]? = some (.int (G (s_0).toNatClampNeg)) := HG _ (own_cl2 (by omega) (by omega))
      have pre18 : ∀ t, Steps p.tables e below (s₁.setTop (mkF m 80 #[.val (.ref r0), .val (.int p1), .val (.ref r2), .val (.int p3), .val (.int s_0), .val (.ref r0), .val (.int (1 : Int32)), .val (.int (0 : Int32)), .val (.int (F 0)), .val (.long ee0), .second] [(.int (lcmpW ((G (s_0).toNatClampNeg).toInt64) (ee0 + (p3.toInt64))))])) t → Steps p.tables e below (s₁.setTop (mkF m 0 #[.val (.ref r0), .val (.int p1), .val (.ref r2), .val (.int p3), .unset, .unset, .unset, .unset, .unset, .unset, .unset] [])) t := fun t k => pre15 t (by
        show Steps p.tables e below (s₁.setTop (mkF m 64 #[.val (.ref r0), .val (.int p1), .val (.ref r2), .val (.int p3), .val (.int s_0), .val (.ref r0), .val (.int (1 : Int32)), .val (.int (0 : Int32)), .val (.int (F 0)), .val (.long ee0), .second] [(.int ns), (.int s_0)])) _
        refine XS.icmpYes X0.here hx rfl (pc0 := 64) (pc' := 69) rfl (hb hby d4_64) rfl (feq hc14).2 (by decide) (by decide) ?_
        show Steps p.tables e below (s₁.setTop (mkF m 69 #[.val (.ref r0), .val (.int p1), .val (.ref r2), .val (.int p3), .val (.int s_0), .val (.ref r0), .val (.int (1 : Int32)), .val (.int (0 : Int32)), .val (.int (F 0)), .val (.long ee0), .second] [])) _
        refine XS.aloadN X0.here hx rfl (hb hby d4_69) rfl rfl ?_
        show Steps p.tables e below (s₁.setTop (mkF m 70 #[.val (.ref r0), .val (.int p1), .val (.ref r2), .val (.int p3), .val (.int s_0), .val (.ref r0), .val (.int (1 : Int32)), .val (.int (0 : Int32)), .val (.int (F 0)), .val (.long ee0), .second] [(.ref r2)])) _
        refine XS.iload X0.here hx rfl (hb hby d4_70) rfl ?_
        show Steps p.tables e below (s₁.setTop (mkF m 72 #[.val (.ref r0), .val (.int p1), .val (.ref r2), .val (.int p3), .val (.int s_0), .val (.ref r0), .val (.int (1 : Int32)), .val (.int (0 : Int32)), .val (.int (F 0)), .val (.long ee0), .second] [(.int s_0), (.ref r2)])) _
        refine X0.iaload hx (j := s_0) (v := (.int (G (s_0).toNatClampNeg))) (by rw [e0]; exact A2.1) (State.isArrayOf_alike hZ.alike A2.2.1) A2.2.2 hin16 hat16 (g := (mkF m 72 #[.val (.ref r0), .val (.int p1), .val (.ref r2), .val (.int p3), .val (.int s_0), .val (.ref r0), .val (.int (1 : Int32)), .val (.int (0 : Int32)), .val (.int (F 0)), .val (.long ee0), .second] [(.int s_0), (.ref r2)])) rfl rfl (hb hby d4_72) _ ?_
        show Steps p.tables e below (s₁.setTop (mkF m 73 #[.val (.ref r0), .val (.int p1), .val (.ref r2), .val (.int p3), .val (.int s_0), .val (.ref r0), .val (.int (1 : Int32)), .val (.int (0 : Int32)), .val (.int (F 0)), .val (.long ee0), .second] [(.int (G (s_0).toNatClampNeg))])) _
        refine XS.i2l X0.here hx rfl (hb hby d4_73) rfl ?_
        show Steps p.tables e below (s₁.setTop (mkF m 74 #[.val (.ref r0), .val (.int p1), .val (.ref r2), .val (.int p3), .val (.int s_0), .val (.ref r0), .val (.int (1 : Int32)), .val (.int (0 : Int32)), .val (.int (F 0)), .val (.long ee0), .second] [(.long ((G (s_0).toNatClampNeg).toInt64))])) _
        refine XS.lload X0.here hx rfl (hb hby d4_74) rfl ?_
        show Steps p.tables e below (s₁.setTop (mkF m 76 #[.val (.ref r0), .val (.int p1), .val (.ref r2), .val (.int p3), .val (.int s_0), .val (.ref r0), .val (.int (1 : Int32)), .val (.int (0 : Int32)), .val (.int (F 0)), .val (.long ee0), .second] [(.long ee0), (.long ((G (s_0).toNatClampNeg).toInt64))])) _
        refine XS.iloadN X0.here hx rfl (hb hby d4_76) rfl ?_
        show Steps p.tables e below (s₁.setTop (mkF m 77 #[.val (.ref r0), .val (.int p1), .val (.ref r2), .val (.int p3), .val (.int s_0), .val (.ref r0), .val (.int (1 : Int32)), .val (.int (0 : Int32)), .val (.int (F 0)), .val (.long ee0), .second] [(.int p3), (.long ee0), (.long ((G (s_0).toNatClampNeg).toInt64))])) _
        refine XS.i2l X0.here hx rfl (hb hby d4_77) rfl ?_
        show Steps p.tables e below (s₁.setTop (mkF m 78 #[.val (.ref r0), .val (.int p1), .val (.ref r2), .val (.int p3), .val (.int s_0), .val (.ref r0), .val (.int (1 : Int32)), .val (.int (0 : Int32)), .val (.int (F 0)), .val (.long ee0), .second] [(.long (p3.toInt64)), (.long ee0), (.long ((G (s_0).toNatClampNeg).toInt64))])) _
        refine XS.ladd X0.here hx rfl (hb hby d4_78) rfl ?_
        show Steps p.tables e below (s₁.setTop (mkF m 79 #[.val (.ref r0), .val (.int p1), .val (.ref r2), .val (.int p3), .val (.int s_0), .val (.ref r0), .val (.int (1 : Int32)), .val (.int (0 : Int32)), .val (.int (F 0)), .val (.long ee0), .second] [(.long (ee0 + (p3.toInt64))), (.long ((G (s_0).toNatClampNeg).toInt64))])) _
        refine XS.lcmp X0.here hx rfl (hb hby d4_79) rfl ?_
        exact k)
      by_cases hc17 : (0 : Int32) < (lcmpW ((G (s_0).toNatClampNeg).toInt64) (ee0 + (p3.toInt64)))
      · skip
        have ohc17 : 0 < (lcmpW ((G (s_0).toNatClampNeg).toInt64) (ee0 + (p3.toInt64))).toInt := own_lt.mp hc17
        have hc19 : ¬ ((1 : Int32) < (1 : Int32)) := by decide
        obtain ⟨fs, hr, hrun, hended, hW, hsame⟩ := X0.leave (v := some (.int (0 : Int32))) (fun h => by rw [Bd.returns] at h; cases h)
        refine ⟨_, _, pre0 _ (pre18 _ ?_), hrun, hended, _, _, rfl, ?_, ⟨_, rfl⟩, hW, hsame.mono (by decide) (by decide)⟩
        · skip
          show Steps p.tables e below (s₁.setTop (mkF m 80 #[.val (.ref r0), .val (.int p1), .val (.ref r2), .val (.int p3), .val (.int s_0), .val (.ref r0), .val (.int (1 : Int32)), .val (.int (0 : Int32)), .val (.int (F 0)), .val (.long ee0), .second] [(.int (lcmpW ((G (s_0).toNatClampNeg).toInt64) (ee0 + (p3.toInt64))))])) _
          refine XS.ifYes X0.here hx rfl (pc0 := 80) (pc' := 85) rfl (hb hby d4_80) rfl ((if0 _ _).trans (tlt hc17).2.2.1) (by decide) (by decide) ?_
          show Steps p.tables e below (s₁.setTop (mkF m 85 #[.val (.ref r0), .val (.int p1), .val (.ref r2), .val (.int p3), .val (.int s_0), .val (.ref r0), .val (.int (1 : Int32)), .val (.int (0 : Int32)), .val (.int (F 0)), .val (.long ee0), .second] [])) _
          refine XS.iinc X0.here hx rfl (hb hby d4_85) rfl (l' := #[.val (.ref r0), .val (.int p1), .val (.ref r2), .val (.int p3), .val (.int s_0), .val (.ref r0), .val (.int (1 : Int32)), .val (.int (1 : Int32)), .val (.int (F 0)), .val (.long ee0), .second]) rfl ?_
          show Steps p.tables e below (s₁.setTop (mkF m 88 #[.val (.ref r0), .val (.int p1), .val (.ref r2), .val (.int p3), .val (.int s_0), .val (.ref r0), .val (.int (1 : Int32)), .val (.int (1 : Int32)), .val (.int (F 0)), .val (.long ee0), .second] [])) _
          refine XS.goto X0.here hx rfl (pc0 := 88) (pc' := 14) rfl (hb hby d4_88) (by decide) (by decide) ?_
          show Steps p.tables e below (s₁.setTop (mkF m 14 #[.val (.ref r0), .val (.int p1), .val (.ref r2), .val (.int p3), .val (.int s_0), .val (.ref r0), .val (.int (1 : Int32)), .val (.int (1 : Int32)), .val (.int (F 0)), .val (.long ee0), .second] [])) _
          refine XS.iload X0.here hx rfl (hb hby d4_14) rfl ?_
          show Steps p.tables e below (s₁.setTop (mkF m 16 #[.val (.ref r0), .val (.int p1), .val (.ref r2), .val (.int p3), .val (.int s_0), .val (.ref r0), .val (.int (1 : Int32)), .val (.int (1 : Int32)), .val (.int (F 0)), .val (.long ee0), .second] [(.int (1 : Int32))])) _
          refine XS.iload X0.here hx rfl (hb hby d4_16) rfl ?_
          show Steps p.tables e below (s₁.setTop (mkF m 18 #[.val (.ref r0), .val (.int p1), .val (.ref r2), .val (.int p3), .val (.int s_0), .val (.ref r0), .val (.int (1 : Int32)), .val (.int (1 : Int32)), .val (.int (F 0)), .val (.long ee0), .second] [(.int (1 : Int32)), (.int (1 : Int32))])) _
          refine XS.icmpYes X0.here hx rfl (pc0 := 18) (pc' := 91) rfl (hb hby d4_18) rfl (flt hc19).2.1 (by decide) (by decide) ?_
          show Steps p.tables e below (s₁.setTop (mkF m 91 #[.val (.ref r0), .val (.int p1), .val (.ref r2), .val (.int p3), .val (.int s_0), .val (.ref r0), .val (.int (1 : Int32)), .val (.int (1 : Int32)), .val (.int (F 0)), .val (.long ee0), .second] [])) _
          refine XS.iconst X0.here hx rfl (hb hby d4_91) ?_
          show Steps p.tables e below (s₁.setTop (mkF m 92 #[.val (.ref r0), .val (.int p1), .val (.ref r2), .val (.int p3), .val (.int s_0), .val (.ref r0), .val (.int (1 : Int32)), .val (.int (1 : Int32)), .val (.int (F 0)), .val (.long ee0), .second] [(.int (0 : Int32))])) _
          exact retN X0 hx (t := .boolean) Bd.returns (by simp) (hb hby d4_92) hr
        · show Q4 Z r0 p1 r2 p3 c1 c2 (1 : Int32) ns F G h0 n0 _ s₁.heap _
          rw [e0]
          refine ⟨0, rfl, N0, rfl, Or.inr ⟨rfl, fun i j hi hj hh => ?_⟩⟩
          have hi' : i < 1 := hi
          have hnc := own_cl ns (by omega)
          have a0 := j03 j
          have b0 := HS (s_0).toNatClampNeg j
          obtain rfl : i = 0 := by omega
          omega
      · skip
        have ohc17 : (lcmpW ((G (s_0).toNatClampNeg).toInt64) (ee0 + (p3.toInt64))).toInt ≤ 0 := own_nlt.mp hc17
        obtain ⟨fs, hr, hrun, hended, hW, hsame⟩ := X0.leave (v := some (.int (1 : Int32))) (fun h => by rw [Bd.returns] at h; cases h)
        refine ⟨_, _, pre0 _ (pre18 _ ?_), hrun, hended, _, _, rfl, ?_, ⟨_, rfl⟩, hW, hsame.mono (by decide) (by decide)⟩
        · skip
          show Steps p.tables e below (s₁.setTop (mkF m 80 #[.val (.ref r0), .val (.int p1), .val (.ref r2), .val (.int p3), .val (.int s_0), .val (.ref r0), .val (.int (1 : Int32)), .val (.int (0 : Int32)), .val (.int (F 0)), .val (.long ee0), .second] [(.int (lcmpW ((G (s_0).toNatClampNeg).toInt64) (ee0 + (p3.toInt64))))])) _
          refine XS.ifNo X0.here hx rfl (hb hby d4_80) rfl ((if0 _ _).trans (flt hc17).2.2.1) ?_
          show Steps p.tables e below (s₁.setTop (mkF m 83 #[.val (.ref r0), .val (.int p1), .val (.ref r2), .val (.int p3), .val (.int s_0), .val (.ref r0), .val (.int (1 : Int32)), .val (.int (0 : Int32)), .val (.int (F 0)), .val (.long ee0), .second] [])) _
          refine XS.iconst X0.here hx rfl (hb hby d4_83) ?_
          show Steps p.tables e below (s₁.setTop (mkF m 84 #[.val (.ref r0), .val (.int p1), .val (.ref r2), .val (.int p3), .val (.int s_0), .val (.ref r0), .val (.int (1 : Int32)), .val (.int (0 : Int32)), .val (.int (F 0)), .val (.long ee0), .second] [(.int (1 : Int32))])) _
          exact retN X0 hx (t := .boolean) Bd.returns (by simp) (hb hby d4_84) hr
        · show Q4 Z r0 p1 r2 p3 c1 c2 (1 : Int32) ns F G h0 n0 _ s₁.heap _
          rw [e0]
          exact ⟨1, rfl, N0, rfl, Or.inl ⟨rfl, 0, (s_0).toNatClampNeg, by decide, own_cl2 (by omega) (by omega), by omega⟩⟩
  · skip
    obtain rfl : nf = (2 : Int32) := own_eq.mpr hk
    have hc20 : (0 : Int32) < (2 : Int32) := by decide
    have hin21 : ¬ ((0 : Int32) < 0 ∨ c1.slots.size ≤ ((0 : Int32)).toNatClampNeg) := inb_of S1 ⟨by decide, by decide⟩
    have hat21 : c1.slots[((0 : Int32)).toNatClampNeg]? = some (.int (F 0)) := HF 0 (by decide)
    have pre22 : ∀ t, Steps p.tables e below (s₁.setTop (mkF m 36 #[.val (.ref r0), .val (.int p1), .val (.ref r2), .val (.int p3), .val (.int (0 : Int32)), .val (.ref r0), .val (.int (2 : Int32)), .val (.int (0 : Int32)), .val (.int (F 0)), .val (.long (((F 0).toInt64) + (p1.toInt64))), .second] [])) t → Steps p.tables e below (s₁.setTop (mkF m 0 #[.val (.ref r0), .val (.int p1), .val (.ref r2), .val (.int p3), .unset, .unset, .unset, .unset, .unset, .unset, .unset] [])) t := fun t k => pre1 t (by
      show Steps p.tables e below (s₁.setTop (mkF m 11 #[.val (.ref r0), .val (.int p1), .val (.ref r2), .val (.int p3), .val (.int (0 : Int32)), .val (.ref r0), .val (.int (2 : Int32)), .unset, .unset, .unset, .unset] [])) _
      refine XS.iconst X0.here hx rfl (hb hby d4_11) ?_
      show Steps p.tables e below (s₁.setTop (mkF m 12 #[.val (.ref r0), .val (.int p1), .val (.ref r2), .val (.int p3), .val (.int (0 : Int32)), .val (.ref r0), .val (.int (2 : Int32)), .unset, .unset, .unset, .unset] [(.int (0 : Int32))])) _
      refine XS.istore X0.here hx rfl (hb hby d4_12) rfl (l' := #[.val (.ref r0), .val (.int p1), .val (.ref r2), .val (.int p3), .val (.int (0 : Int32)), .val (.ref r0), .val (.int (2 : Int32)), .val (.int (0 : Int32)), .unset, .unset, .unset]) rfl ?_
      show Steps p.tables e below (s₁.setTop (mkF m 14 #[.val (.ref r0), .val (.int p1), .val (.ref r2), .val (.int p3), .val (.int (0 : Int32)), .val (.ref r0), .val (.int (2 : Int32)), .val (.int (0 : Int32)), .unset, .unset, .unset] [])) _
      refine XS.iload X0.here hx rfl (hb hby d4_14) rfl ?_
      show Steps p.tables e below (s₁.setTop (mkF m 16 #[.val (.ref r0), .val (.int p1), .val (.ref r2), .val (.int p3), .val (.int (0 : Int32)), .val (.ref r0), .val (.int (2 : Int32)), .val (.int (0 : Int32)), .unset, .unset, .unset] [(.int (0 : Int32))])) _
      refine XS.iload X0.here hx rfl (hb hby d4_16) rfl ?_
      show Steps p.tables e below (s₁.setTop (mkF m 18 #[.val (.ref r0), .val (.int p1), .val (.ref r2), .val (.int p3), .val (.int (0 : Int32)), .val (.ref r0), .val (.int (2 : Int32)), .val (.int (0 : Int32)), .unset, .unset, .unset] [(.int (2 : Int32)), (.int (0 : Int32))])) _
      refine XS.icmpNo X0.here hx rfl (hb hby d4_18) rfl (tlt hc20).2.1 ?_
      show Steps p.tables e below (s₁.setTop (mkF m 21 #[.val (.ref r0), .val (.int p1), .val (.ref r2), .val (.int p3), .val (.int (0 : Int32)), .val (.ref r0), .val (.int (2 : Int32)), .val (.int (0 : Int32)), .unset, .unset, .unset] [])) _
      refine XS.aload X0.here hx rfl (hb hby d4_21) rfl rfl ?_
      show Steps p.tables e below (s₁.setTop (mkF m 23 #[.val (.ref r0), .val (.int p1), .val (.ref r2), .val (.int p3), .val (.int (0 : Int32)), .val (.ref r0), .val (.int (2 : Int32)), .val (.int (0 : Int32)), .unset, .unset, .unset] [(.ref r0)])) _
      refine XS.iload X0.here hx rfl (hb hby d4_23) rfl ?_
      show Steps p.tables e below (s₁.setTop (mkF m 25 #[.val (.ref r0), .val (.int p1), .val (.ref r2), .val (.int p3), .val (.int (0 : Int32)), .val (.ref r0), .val (.int (2 : Int32)), .val (.int (0 : Int32)), .unset, .unset, .unset] [(.int (0 : Int32)), (.ref r0)])) _
      refine X0.iaload hx (j := (0 : Int32)) (v := (.int (F 0))) (by rw [e0]; exact A1.1) (State.isArrayOf_alike hZ.alike A1.2.1) A1.2.2 hin21 hat21 (g := (mkF m 25 #[.val (.ref r0), .val (.int p1), .val (.ref r2), .val (.int p3), .val (.int (0 : Int32)), .val (.ref r0), .val (.int (2 : Int32)), .val (.int (0 : Int32)), .unset, .unset, .unset] [(.int (0 : Int32)), (.ref r0)])) rfl rfl (hb hby d4_25) _ ?_
      show Steps p.tables e below (s₁.setTop (mkF m 26 #[.val (.ref r0), .val (.int p1), .val (.ref r2), .val (.int p3), .val (.int (0 : Int32)), .val (.ref r0), .val (.int (2 : Int32)), .val (.int (0 : Int32)), .unset, .unset, .unset] [(.int (F 0))])) _
      refine XS.istore X0.here hx rfl (hb hby d4_26) rfl (l' := #[.val (.ref r0), .val (.int p1), .val (.ref r2), .val (.int p3), .val (.int (0 : Int32)), .val (.ref r0), .val (.int (2 : Int32)), .val (.int (0 : Int32)), .val (.int (F 0)), .unset, .unset]) rfl ?_
      show Steps p.tables e below (s₁.setTop (mkF m 28 #[.val (.ref r0), .val (.int p1), .val (.ref r2), .val (.int p3), .val (.int (0 : Int32)), .val (.ref r0), .val (.int (2 : Int32)), .val (.int (0 : Int32)), .val (.int (F 0)), .unset, .unset] [])) _
      refine XS.iload X0.here hx rfl (hb hby d4_28) rfl ?_
      show Steps p.tables e below (s₁.setTop (mkF m 30 #[.val (.ref r0), .val (.int p1), .val (.ref r2), .val (.int p3), .val (.int (0 : Int32)), .val (.ref r0), .val (.int (2 : Int32)), .val (.int (0 : Int32)), .val (.int (F 0)), .unset, .unset] [(.int (F 0))])) _
      refine XS.i2l X0.here hx rfl (hb hby d4_30) rfl ?_
      show Steps p.tables e below (s₁.setTop (mkF m 31 #[.val (.ref r0), .val (.int p1), .val (.ref r2), .val (.int p3), .val (.int (0 : Int32)), .val (.ref r0), .val (.int (2 : Int32)), .val (.int (0 : Int32)), .val (.int (F 0)), .unset, .unset] [(.long ((F 0).toInt64))])) _
      refine XS.iloadN X0.here hx rfl (hb hby d4_31) rfl ?_
      show Steps p.tables e below (s₁.setTop (mkF m 32 #[.val (.ref r0), .val (.int p1), .val (.ref r2), .val (.int p3), .val (.int (0 : Int32)), .val (.ref r0), .val (.int (2 : Int32)), .val (.int (0 : Int32)), .val (.int (F 0)), .unset, .unset] [(.int p1), (.long ((F 0).toInt64))])) _
      refine XS.i2l X0.here hx rfl (hb hby d4_32) rfl ?_
      show Steps p.tables e below (s₁.setTop (mkF m 33 #[.val (.ref r0), .val (.int p1), .val (.ref r2), .val (.int p3), .val (.int (0 : Int32)), .val (.ref r0), .val (.int (2 : Int32)), .val (.int (0 : Int32)), .val (.int (F 0)), .unset, .unset] [(.long (p1.toInt64)), (.long ((F 0).toInt64))])) _
      refine XS.ladd X0.here hx rfl (hb hby d4_33) rfl ?_
      show Steps p.tables e below (s₁.setTop (mkF m 34 #[.val (.ref r0), .val (.int p1), .val (.ref r2), .val (.int p3), .val (.int (0 : Int32)), .val (.ref r0), .val (.int (2 : Int32)), .val (.int (0 : Int32)), .val (.int (F 0)), .unset, .unset] [(.long (((F 0).toInt64) + (p1.toInt64)))])) _
      refine XS.lstore X0.here hx rfl (hb hby d4_34) rfl (l' := #[.val (.ref r0), .val (.int p1), .val (.ref r2), .val (.int p3), .val (.int (0 : Int32)), .val (.ref r0), .val (.int (2 : Int32)), .val (.int (0 : Int32)), .val (.int (F 0)), .val (.long (((F 0).toInt64) + (p1.toInt64))), .second]) rfl ?_
      exact k)
    obtain ⟨ee0, h_ee0⟩ : ∃ z, z = (((F 0).toInt64) + (p1.toInt64)) := ⟨_, rfl⟩
    rw [← h_ee0] at pre22
    have ha0 := c_ladd ((F 0).toInt64) (p1.toInt64)
    rw [c_i2l, c_i2l, ← h_ee0] at ha0
    have hb0 := rng32 (F 0)
    have hd0 := rng64 ee0
    have he0 : ee0.toInt = (F 0).toInt + p1.toInt := by omega
    clear ha0 hb0 hd0
    have lp0 : ∀ (k : Nat) (sv : Int32), 0 ≤ sv.toInt → sv.toInt + k = ns.toInt → ∃ sv' : Int32, sv.toInt ≤ sv'.toInt ∧ sv'.toInt ≤ ns.toInt ∧ (∀ j : Nat, sv.toInt ≤ j → (j : Int) < sv'.toInt → (G j).toInt < ee0.toInt) ∧ (sv'.toInt < ns.toInt → ee0.toInt ≤ (G sv'.toNatClampNeg).toInt) ∧ ∀ t, Steps p.tables e below (s₁.setTop (mkF m 60 #[.val (.ref r0), .val (.int p1), .val (.ref r2), .val (.int p3), .val (.int sv'), .val (.ref r0), .val (.int (2 : Int32)), .val (.int (0 : Int32)), .val (.int (F 0)), .val (.long ee0), .second] [])) t → Steps p.tables e below (s₁.setTop (mkF m 36 #[.val (.ref r0), .val (.int p1), .val (.ref r2), .val (.int p3), .val (.int sv), .val (.ref r0), .val (.int (2 : Int32)), .val (.int (0 : Int32)), .val (.int (F 0)), .val (.long ee0), .second] [])) t := by
      intro k
      induction k with
      | zero =>
        intro sv hs0 hs1
        have hc23 : ¬ (sv < ns) := own_nlt.mpr (show ns.toInt ≤ sv.toInt by omega)
        have ohc23 : ns.toInt ≤ sv.toInt := own_nlt.mp hc23
        refine ⟨sv, by omega, by omega, fun j a b => by omega, fun a => by omega, fun t k => ?_⟩
        show Steps p.tables e below (s₁.setTop (mkF m 36 #[.val (.ref r0), .val (.int p1), .val (.ref r2), .val (.int p3), .val (.int sv), .val (.ref r0), .val (.int (2 : Int32)), .val (.int (0 : Int32)), .val (.int (F 0)), .val (.long ee0), .second] [])) _
        refine XS.iload X0.here hx rfl (hb hby d4_36) rfl ?_
        show Steps p.tables e below (s₁.setTop (mkF m 38 #[.val (.ref r0), .val (.int p1), .val (.ref r2), .val (.int p3), .val (.int sv), .val (.ref r0), .val (.int (2 : Int32)), .val (.int (0 : Int32)), .val (.int (F 0)), .val (.long ee0), .second] [(.int sv)])) _
        refine XS.aloadN X0.here hx rfl (hb hby d4_38) rfl rfl ?_
        show Steps p.tables e below (s₁.setTop (mkF m 39 #[.val (.ref r0), .val (.int p1), .val (.ref r2), .val (.int p3), .val (.int sv), .val (.ref r0), .val (.int (2 : Int32)), .val (.int (0 : Int32)), .val (.int (F 0)), .val (.long ee0), .second] [(.ref r2), (.int sv)])) _
        refine X0.arraylength hx (by rw [e0]; exact A2.1) (State.isArrayOf_alike hZ.alike A2.2.1) (g := (mkF m 39 #[.val (.ref r0), .val (.int p1), .val (.ref r2), .val (.int p3), .val (.int sv), .val (.ref r0), .val (.int (2 : Int32)), .val (.int (0 : Int32)), .val (.int (F 0)), .val (.long ee0), .second] [(.ref r2), (.int sv)])) rfl rfl (hb hby d4_39) _ ?_
        rw [len_of S2 M2]
        show Steps p.tables e below (s₁.setTop (mkF m 40 #[.val (.ref r0), .val (.int p1), .val (.ref r2), .val (.int p3), .val (.int sv), .val (.ref r0), .val (.int (2 : Int32)), .val (.int (0 : Int32)), .val (.int (F 0)), .val (.long ee0), .second] [(.int ns), (.int sv)])) _
        refine XS.icmpYes X0.here hx rfl (pc0 := 40) (pc' := 60) rfl (hb hby d4_40) rfl (flt hc23).2.1 (by decide) (by decide) ?_
        exact k
      | succ k ih =>
        intro sv hs0 hs1
        have hcl := own_cl sv hs0
        have hq := c_lcmp ((G sv.toNatClampNeg).toInt64) ee0
        rw [c_i2l] at hq
        by_cases hlt : (lcmpW ((G (sv).toNatClampNeg).toInt64) ee0) < (0 : Int32)
        · skip
          have olt : (lcmpW ((G (sv).toNatClampNeg).toInt64) ee0).toInt < 0 := own_lt.mp hlt
          have hsi := c_iadd sv (1 : Int32)
          rw [show (1 : Int32).toInt = 1 from rfl] at hsi
          have hsr := rng32 (sv + (1 : Int32))
          have hnr := rng32 ns
          have hsv : (sv + (1 : Int32)).toInt = sv.toInt + 1 := by omega
          clear hsi hsr hnr
          obtain ⟨sv', i1, i2, i3, i4, i5⟩ := ih (sv + (1 : Int32)) (by omega) (by omega)
          have hc24 : sv < ns := own_lt.mpr (show sv.toInt < ns.toInt by omega)
          have ohc24 : sv.toInt < ns.toInt := own_lt.mp hc24
          have hin25 : ¬ (sv < 0 ∨ c2.slots.size ≤ (sv).toNatClampNeg) := inb_of S2 ⟨own_nlt.mpr (show 0 ≤ sv.toInt by omega), own_lt.mpr (show sv.toInt < ns.toInt by omega)⟩
          have hat25 : c2.slots[(sv).toNatClampNeg]? = some (.int (G (sv).toNatClampNeg)) := HG _ (own_cl2 (by omega) (by omega))
          have hc26 : (lcmpW ((G (sv).toNatClampNeg).toInt64) ee0) < (0 : Int32) := hlt
          have ohc26 : (lcmpW ((G (sv).toNatClampNeg).toInt64) ee0).toInt < 0 := own_lt.mp hc26
          refine ⟨sv', by omega, i2, fun j a b => ?_, i4, fun t k => ?_⟩
          · by_cases hjs : (j : Int) = sv.toInt
            · have hj2 : j = sv.toNatClampNeg := by omega
              rw [hj2]; omega
            · exact i3 j (by omega) b
          · skip
            show Steps p.tables e below (s₁.setTop (mkF m 36 #[.val (.ref r0), .val (.int p1), .val (.ref r2), .val (.int p3), .val (.int sv), .val (.ref r0), .val (.int (2 : Int32)), .val (.int (0 : Int32)), .val (.int (F 0)), .val (.long ee0), .second] [])) _
            refine XS.iload X0.here hx rfl (hb hby d4_36) rfl ?_
            show Steps p.tables e below (s₁.setTop (mkF m 38 #[.val (.ref r0), .val (.int p1), .val (.ref r2), .val (.int p3), .val (.int sv), .val (.ref r0), .val (.int (2 : Int32)), .val (.int (0 : Int32)), .val (.int (F 0)), .val (.long ee0), .second] [(.int sv)])) _
            refine XS.aloadN X0.here hx rfl (hb hby d4_38) rfl rfl ?_
            show Steps p.tables e below (s₁.setTop (mkF m 39 #[.val (.ref r0), .val (.int p1), .val (.ref r2), .val (.int p3), .val (.int sv), .val (.ref r0), .val (.int (2 : Int32)), .val (.int (0 : Int32)), .val (.int (F 0)), .val (.long ee0), .second] [(.ref r2), (.int sv)])) _
            refine X0.arraylength hx (by rw [e0]; exact A2.1) (State.isArrayOf_alike hZ.alike A2.2.1) (g := (mkF m 39 #[.val (.ref r0), .val (.int p1), .val (.ref r2), .val (.int p3), .val (.int sv), .val (.ref r0), .val (.int (2 : Int32)), .val (.int (0 : Int32)), .val (.int (F 0)), .val (.long ee0), .second] [(.ref r2), (.int sv)])) rfl rfl (hb hby d4_39) _ ?_
            rw [len_of S2 M2]
            show Steps p.tables e below (s₁.setTop (mkF m 40 #[.val (.ref r0), .val (.int p1), .val (.ref r2), .val (.int p3), .val (.int sv), .val (.ref r0), .val (.int (2 : Int32)), .val (.int (0 : Int32)), .val (.int (F 0)), .val (.long ee0), .second] [(.int ns), (.int sv)])) _
            refine XS.icmpNo X0.here hx rfl (hb hby d4_40) rfl (tlt hc24).2.1 ?_
            show Steps p.tables e below (s₁.setTop (mkF m 43 #[.val (.ref r0), .val (.int p1), .val (.ref r2), .val (.int p3), .val (.int sv), .val (.ref r0), .val (.int (2 : Int32)), .val (.int (0 : Int32)), .val (.int (F 0)), .val (.long ee0), .second] [])) _
            refine XS.aloadN X0.here hx rfl (hb hby d4_43) rfl rfl ?_
            show Steps p.tables e below (s₁.setTop (mkF m 44 #[.val (.ref r0), .val (.int p1), .val (.ref r2), .val (.int p3), .val (.int sv), .val (.ref r0), .val (.int (2 : Int32)), .val (.int (0 : Int32)), .val (.int (F 0)), .val (.long ee0), .second] [(.ref r2)])) _
            refine XS.iload X0.here hx rfl (hb hby d4_44) rfl ?_
            show Steps p.tables e below (s₁.setTop (mkF m 46 #[.val (.ref r0), .val (.int p1), .val (.ref r2), .val (.int p3), .val (.int sv), .val (.ref r0), .val (.int (2 : Int32)), .val (.int (0 : Int32)), .val (.int (F 0)), .val (.long ee0), .second] [(.int sv), (.ref r2)])) _
            refine X0.iaload hx (j := sv) (v := (.int (G (sv).toNatClampNeg))) (by rw [e0]; exact A2.1) (State.isArrayOf_alike hZ.alike A2.2.1) A2.2.2 hin25 hat25 (g := (mkF m 46 #[.val (.ref r0), .val (.int p1), .val (.ref r2), .val (.int p3), .val (.int sv), .val (.ref r0), .val (.int (2 : Int32)), .val (.int (0 : Int32)), .val (.int (F 0)), .val (.long ee0), .second] [(.int sv), (.ref r2)])) rfl rfl (hb hby d4_46) _ ?_
            show Steps p.tables e below (s₁.setTop (mkF m 47 #[.val (.ref r0), .val (.int p1), .val (.ref r2), .val (.int p3), .val (.int sv), .val (.ref r0), .val (.int (2 : Int32)), .val (.int (0 : Int32)), .val (.int (F 0)), .val (.long ee0), .second] [(.int (G (sv).toNatClampNeg))])) _
            refine XS.i2l X0.here hx rfl (hb hby d4_47) rfl ?_
            show Steps p.tables e below (s₁.setTop (mkF m 48 #[.val (.ref r0), .val (.int p1), .val (.ref r2), .val (.int p3), .val (.int sv), .val (.ref r0), .val (.int (2 : Int32)), .val (.int (0 : Int32)), .val (.int (F 0)), .val (.long ee0), .second] [(.long ((G (sv).toNatClampNeg).toInt64))])) _
            refine XS.lload X0.here hx rfl (hb hby d4_48) rfl ?_
            show Steps p.tables e below (s₁.setTop (mkF m 50 #[.val (.ref r0), .val (.int p1), .val (.ref r2), .val (.int p3), .val (.int sv), .val (.ref r0), .val (.int (2 : Int32)), .val (.int (0 : Int32)), .val (.int (F 0)), .val (.long ee0), .second] [(.long ee0), (.long ((G (sv).toNatClampNeg).toInt64))])) _
            refine XS.lcmp X0.here hx rfl (hb hby d4_50) rfl ?_
            show Steps p.tables e below (s₁.setTop (mkF m 51 #[.val (.ref r0), .val (.int p1), .val (.ref r2), .val (.int p3), .val (.int sv), .val (.ref r0), .val (.int (2 : Int32)), .val (.int (0 : Int32)), .val (.int (F 0)), .val (.long ee0), .second] [(.int (lcmpW ((G (sv).toNatClampNeg).toInt64) ee0))])) _
            refine XS.ifNo X0.here hx rfl (hb hby d4_51) rfl ((if0 _ _).trans (tlt hc26).2.1) ?_
            show Steps p.tables e below (s₁.setTop (mkF m 54 #[.val (.ref r0), .val (.int p1), .val (.ref r2), .val (.int p3), .val (.int sv), .val (.ref r0), .val (.int (2 : Int32)), .val (.int (0 : Int32)), .val (.int (F 0)), .val (.long ee0), .second] [])) _
            refine XS.iinc X0.here hx rfl (hb hby d4_54) rfl (l' := #[.val (.ref r0), .val (.int p1), .val (.ref r2), .val (.int p3), .val (.int (sv + (1 : Int32))), .val (.ref r0), .val (.int (2 : Int32)), .val (.int (0 : Int32)), .val (.int (F 0)), .val (.long ee0), .second]) rfl ?_
            show Steps p.tables e below (s₁.setTop (mkF m 57 #[.val (.ref r0), .val (.int p1), .val (.ref r2), .val (.int p3), .val (.int (sv + (1 : Int32))), .val (.ref r0), .val (.int (2 : Int32)), .val (.int (0 : Int32)), .val (.int (F 0)), .val (.long ee0), .second] [])) _
            refine XS.goto X0.here hx rfl (pc0 := 57) (pc' := 36) rfl (hb hby d4_57) (by decide) (by decide) ?_
            exact i5 t k
        · skip
          have olt : 0 ≤ (lcmpW ((G (sv).toNatClampNeg).toInt64) ee0).toInt := own_nlt.mp hlt
          have hc27 : sv < ns := own_lt.mpr (show sv.toInt < ns.toInt by omega)
          have ohc27 : sv.toInt < ns.toInt := own_lt.mp hc27
          have hin28 : ¬ (sv < 0 ∨ c2.slots.size ≤ (sv).toNatClampNeg) := inb_of S2 ⟨own_nlt.mpr (show 0 ≤ sv.toInt by omega), own_lt.mpr (show sv.toInt < ns.toInt by omega)⟩
          have hat28 : c2.slots[(sv).toNatClampNeg]? = some (.int (G (sv).toNatClampNeg)) := HG _ (own_cl2 (by omega) (by omega))
          have hc29 : ¬ ((lcmpW ((G (sv).toNatClampNeg).toInt64) ee0) < (0 : Int32)) := hlt
          have ohc29 : 0 ≤ (lcmpW ((G (sv).toNatClampNeg).toInt64) ee0).toInt := own_nlt.mp hc29
          refine ⟨sv, by omega, by omega, fun j a b => by omega, fun a => by omega, fun t k => ?_⟩
          show Steps p.tables e below (s₁.setTop (mkF m 36 #[.val (.ref r0), .val (.int p1), .val (.ref r2), .val (.int p3), .val (.int sv), .val (.ref r0), .val (.int (2 : Int32)), .val (.int (0 : Int32)), .val (.int (F 0)), .val (.long ee0), .second] [])) _
          refine XS.iload X0.here hx rfl (hb hby d4_36) rfl ?_
          show Steps p.tables e below (s₁.setTop (mkF m 38 #[.val (.ref r0), .val (.int p1), .val (.ref r2), .val (.int p3), .val (.int sv), .val (.ref r0), .val (.int (2 : Int32)), .val (.int (0 : Int32)), .val (.int (F 0)), .val (.long ee0), .second] [(.int sv)])) _
          refine XS.aloadN X0.here hx rfl (hb hby d4_38) rfl rfl ?_
          show Steps p.tables e below (s₁.setTop (mkF m 39 #[.val (.ref r0), .val (.int p1), .val (.ref r2), .val (.int p3), .val (.int sv), .val (.ref r0), .val (.int (2 : Int32)), .val (.int (0 : Int32)), .val (.int (F 0)), .val (.long ee0), .second] [(.ref r2), (.int sv)])) _
          refine X0.arraylength hx (by rw [e0]; exact A2.1) (State.isArrayOf_alike hZ.alike A2.2.1) (g := (mkF m 39 #[.val (.ref r0), .val (.int p1), .val (.ref r2), .val (.int p3), .val (.int sv), .val (.ref r0), .val (.int (2 : Int32)), .val (.int (0 : Int32)), .val (.int (F 0)), .val (.long ee0), .second] [(.ref r2), (.int sv)])) rfl rfl (hb hby d4_39) _ ?_
          rw [len_of S2 M2]
          show Steps p.tables e below (s₁.setTop (mkF m 40 #[.val (.ref r0), .val (.int p1), .val (.ref r2), .val (.int p3), .val (.int sv), .val (.ref r0), .val (.int (2 : Int32)), .val (.int (0 : Int32)), .val (.int (F 0)), .val (.long ee0), .second] [(.int ns), (.int sv)])) _
          refine XS.icmpNo X0.here hx rfl (hb hby d4_40) rfl (tlt hc27).2.1 ?_
          show Steps p.tables e below (s₁.setTop (mkF m 43 #[.val (.ref r0), .val (.int p1), .val (.ref r2), .val (.int p3), .val (.int sv), .val (.ref r0), .val (.int (2 : Int32)), .val (.int (0 : Int32)), .val (.int (F 0)), .val (.long ee0), .second] [])) _
          refine XS.aloadN X0.here hx rfl (hb hby d4_43) rfl rfl ?_
          show Steps p.tables e below (s₁.setTop (mkF m 44 #[.val (.ref r0), .val (.int p1), .val (.ref r2), .val (.int p3), .val (.int sv), .val (.ref r0), .val (.int (2 : Int32)), .val (.int (0 : Int32)), .val (.int (F 0)), .val (.long ee0), .second] [(.ref r2)])) _
          refine XS.iload X0.here hx rfl (hb hby d4_44) rfl ?_
          show Steps p.tables e below (s₁.setTop (mkF m 46 #[.val (.ref r0), .val (.int p1), .val (.ref r2), .val (.int p3), .val (.int sv), .val (.ref r0), .val (.int (2 : Int32)), .val (.int (0 : Int32)), .val (.int (F 0)), .val (.long ee0), .second] [(.int sv), (.ref r2)])) _
          refine X0.iaload hx (j := sv) (v := (.int (G (sv).toNatClampNeg))) (by rw [e0]; exact A2.1) (State.isArrayOf_alike hZ.alike A2.2.1) A2.2.2 hin28 hat28 (g := (mkF m 46 #[.val (.ref r0), .val (.int p1), .val (.ref r2), .val (.int p3), .val (.int sv), .val (.ref r0), .val (.int (2 : Int32)), .val (.int (0 : Int32)), .val (.int (F 0)), .val (.long ee0), .second] [(.int sv), (.ref r2)])) rfl rfl (hb hby d4_46) _ ?_
          show Steps p.tables e below (s₁.setTop (mkF m 47 #[.val (.ref r0), .val (.int p1), .val (.ref r2), .val (.int p3), .val (.int sv), .val (.ref r0), .val (.int (2 : Int32)), .val (.int (0 : Int32)), .val (.int (F 0)), .val (.long ee0), .second] [(.int (G (sv).toNatClampNeg))])) _
          refine XS.i2l X0.here hx rfl (hb hby d4_47) rfl ?_
          show Steps p.tables e below (s₁.setTop (mkF m 48 #[.val (.ref r0), .val (.int p1), .val (.ref r2), .val (.int p3), .val (.int sv), .val (.ref r0), .val (.int (2 : Int32)), .val (.int (0 : Int32)), .val (.int (F 0)), .val (.long ee0), .second] [(.long ((G (sv).toNatClampNeg).toInt64))])) _
          refine XS.lload X0.here hx rfl (hb hby d4_48) rfl ?_
          show Steps p.tables e below (s₁.setTop (mkF m 50 #[.val (.ref r0), .val (.int p1), .val (.ref r2), .val (.int p3), .val (.int sv), .val (.ref r0), .val (.int (2 : Int32)), .val (.int (0 : Int32)), .val (.int (F 0)), .val (.long ee0), .second] [(.long ee0), (.long ((G (sv).toNatClampNeg).toInt64))])) _
          refine XS.lcmp X0.here hx rfl (hb hby d4_50) rfl ?_
          show Steps p.tables e below (s₁.setTop (mkF m 51 #[.val (.ref r0), .val (.int p1), .val (.ref r2), .val (.int p3), .val (.int sv), .val (.ref r0), .val (.int (2 : Int32)), .val (.int (0 : Int32)), .val (.int (F 0)), .val (.long ee0), .second] [(.int (lcmpW ((G (sv).toNatClampNeg).toInt64) ee0))])) _
          refine XS.ifYes X0.here hx rfl (pc0 := 51) (pc' := 60) rfl (hb hby d4_51) rfl ((if0 _ _).trans (flt hc29).2.1) (by decide) (by decide) ?_
          exact k
    obtain ⟨s_0, j01, j02, j03, j04, j05⟩ := lp0 (ns.toInt - 0).toNat (0 : Int32) (by first | decide | omega) (by first | omega | (rw [show ((0 : Int32)).toInt = 0 from rfl]; omega))
    have jz : (0 : Int32).toInt = 0 := rfl
    rw [jz] at j01 j03
    have pre30 : ∀ t, Steps p.tables e below (s₁.setTop (mkF m 60 #[.val (.ref r0), .val (.int p1), .val (.ref r2), .val (.int p3), .val (.int s_0), .val (.ref r0), .val (.int (2 : Int32)), .val (.int (0 : Int32)), .val (.int (F 0)), .val (.long ee0), .second] [])) t → Steps p.tables e below (s₁.setTop (mkF m 0 #[.val (.ref r0), .val (.int p1), .val (.ref r2), .val (.int p3), .unset, .unset, .unset, .unset, .unset, .unset, .unset] [])) t := fun t k => pre22 t (j05 t k)
    have jc0 := own_cl s_0 (by omega)
    have jq0 := c_lcmp ((G (s_0).toNatClampNeg).toInt64) (ee0 + (p3.toInt64))
    have jr0 := c_ladd ee0 (p3.toInt64)
    rw [c_i2l] at jq0 jr0
    have js0 := rng64 (ee0 + (p3.toInt64))
    have jt0 : (ee0 + (p3.toInt64)).toInt = ee0.toInt + p3.toInt := by have rf := rng32 (F 0); omega
    rw [jt0] at jq0
    clear jr0 js0 jt0
    have pre32 : ∀ t, Steps p.tables e below (s₁.setTop (mkF m 64 #[.val (.ref r0), .val (.int p1), .val (.ref r2), .val (.int p3), .val (.int s_0), .val (.ref r0), .val (.int (2 : Int32)), .val (.int (0 : Int32)), .val (.int (F 0)), .val (.long ee0), .second] [(.int ns), (.int s_0)])) t → Steps p.tables e below (s₁.setTop (mkF m 0 #[.val (.ref r0), .val (.int p1), .val (.ref r2), .val (.int p3), .unset, .unset, .unset, .unset, .unset, .unset, .unset] [])) t := fun t k => pre30 t (by
      show Steps p.tables e below (s₁.setTop (mkF m 60 #[.val (.ref r0), .val (.int p1), .val (.ref r2), .val (.int p3), .val (.int s_0), .val (.ref r0), .val (.int (2 : Int32)), .val (.int (0 : Int32)), .val (.int (F 0)), .val (.long ee0), .second] [])) _
      refine XS.iload X0.here hx rfl (hb hby d4_60) rfl ?_
      show Steps p.tables e below (s₁.setTop (mkF m 62 #[.val (.ref r0), .val (.int p1), .val (.ref r2), .val (.int p3), .val (.int s_0), .val (.ref r0), .val (.int (2 : Int32)), .val (.int (0 : Int32)), .val (.int (F 0)), .val (.long ee0), .second] [(.int s_0)])) _
      refine XS.aloadN X0.here hx rfl (hb hby d4_62) rfl rfl ?_
      show Steps p.tables e below (s₁.setTop (mkF m 63 #[.val (.ref r0), .val (.int p1), .val (.ref r2), .val (.int p3), .val (.int s_0), .val (.ref r0), .val (.int (2 : Int32)), .val (.int (0 : Int32)), .val (.int (F 0)), .val (.long ee0), .second] [(.ref r2), (.int s_0)])) _
      refine X0.arraylength hx (by rw [e0]; exact A2.1) (State.isArrayOf_alike hZ.alike A2.2.1) (g := (mkF m 63 #[.val (.ref r0), .val (.int p1), .val (.ref r2), .val (.int p3), .val (.int s_0), .val (.ref r0), .val (.int (2 : Int32)), .val (.int (0 : Int32)), .val (.int (F 0)), .val (.long ee0), .second] [(.ref r2), (.int s_0)])) rfl rfl (hb hby d4_63) _ ?_
      rw [len_of S2 M2]
      exact k)
    by_cases hc31 : s_0 = ns
    · skip
      have ohc31 : s_0.toInt = ns.toInt := own_eq.mp hc31
      obtain ⟨fs, hr, hrun, hended, hW, hsame⟩ := X0.leave (v := some (.int (0 : Int32))) (fun h => by rw [Bd.returns] at h; cases h)
      refine ⟨_, _, pre0 _ (pre32 _ ?_), hrun, hended, _, _, rfl, ?_, ⟨_, rfl⟩, hW, hsame.mono (by decide) (by decide)⟩
      · skip
        show Steps p.tables e below (s₁.setTop (mkF m 64 #[.val (.ref r0), .val (.int p1), .val (.ref r2), .val (.int p3), .val (.int s_0), .val (.ref r0), .val (.int (2 : Int32)), .val (.int (0 : Int32)), .val (.int (F 0)), .val (.long ee0), .second] [(.int ns), (.int s_0)])) _
        refine XS.icmpNo X0.here hx rfl (hb hby d4_64) rfl (teq hc31).2 ?_
        show Steps p.tables e below (s₁.setTop (mkF m 67 #[.val (.ref r0), .val (.int p1), .val (.ref r2), .val (.int p3), .val (.int s_0), .val (.ref r0), .val (.int (2 : Int32)), .val (.int (0 : Int32)), .val (.int (F 0)), .val (.long ee0), .second] [])) _
        refine XS.iconst X0.here hx rfl (hb hby d4_67) ?_
        show Steps p.tables e below (s₁.setTop (mkF m 68 #[.val (.ref r0), .val (.int p1), .val (.ref r2), .val (.int p3), .val (.int s_0), .val (.ref r0), .val (.int (2 : Int32)), .val (.int (0 : Int32)), .val (.int (F 0)), .val (.long ee0), .second] [(.int (0 : Int32))])) _
        exact retN X0 hx (t := .boolean) Bd.returns (by simp) (hb hby d4_68) hr
      · show Q4 Z r0 p1 r2 p3 c1 c2 (2 : Int32) ns F G h0 n0 _ s₁.heap _
        rw [e0]
        refine ⟨0, rfl, N0, rfl, Or.inr ⟨rfl, fun i j hi hj hh => ?_⟩⟩
        have hi' : i < 2 := hi
        have hnc := own_cl ns (by omega)
        have a0 := j03 j
        have b0 := HS (s_0).toNatClampNeg j
        rcases (show i = 0 ∨ i = 1 by omega) with rfl | rfl
        · omega
        · omega
    · skip
      have ohc31 : ¬ (s_0.toInt = ns.toInt) := own_neq.mp hc31
      have hin33 : ¬ (s_0 < 0 ∨ c2.slots.size ≤ (s_0).toNatClampNeg) := inb_of S2 ⟨own_nlt.mpr (show 0 ≤ s_0.toInt by omega), own_lt.mpr (show s_0.toInt < ns.toInt by omega)⟩
      have hat33 : c2.slots[(s_0).toNatClampNeg]? = some (.int (G (s_0).toNatClampNeg)) := HG _ (own_cl2 (by omega) (by omega))
      have pre35 : ∀ t, Steps p.tables e below (s₁.setTop (mkF m 80 #[.val (.ref r0), .val (.int p1), .val (.ref r2), .val (.int p3), .val (.int s_0), .val (.ref r0), .val (.int (2 : Int32)), .val (.int (0 : Int32)), .val (.int (F 0)), .val (.long ee0), .second] [(.int (lcmpW ((G (s_0).toNatClampNeg).toInt64) (ee0 + (p3.toInt64))))])) t → Steps p.tables e below (s₁.setTop (mkF m 0 #[.val (.ref r0), .val (.int p1), .val (.ref r2), .val (.int p3), .unset, .unset, .unset, .unset, .unset, .unset, .unset] [])) t := fun t k => pre32 t (by
        show Steps p.tables e below (s₁.setTop (mkF m 64 #[.val (.ref r0), .val (.int p1), .val (.ref r2), .val (.int p3), .val (.int s_0), .val (.ref r0), .val (.int (2 : Int32)), .val (.int (0 : Int32)), .val (.int (F 0)), .val (.long ee0), .second] [(.int ns), (.int s_0)])) _
        refine XS.icmpYes X0.here hx rfl (pc0 := 64) (pc' := 69) rfl (hb hby d4_64) rfl (feq hc31).2 (by decide) (by decide) ?_
        show Steps p.tables e below (s₁.setTop (mkF m 69 #[.val (.ref r0), .val (.int p1), .val (.ref r2), .val (.int p3), .val (.int s_0), .val (.ref r0), .val (.int (2 : Int32)), .val (.int (0 : Int32)), .val (.int (F 0)), .val (.long ee0), .second] [])) _
        refine XS.aloadN X0.here hx rfl (hb hby d4_69) rfl rfl ?_
        show Steps p.tables e below (s₁.setTop (mkF m 70 #[.val (.ref r0), .val (.int p1), .val (.ref r2), .val (.int p3), .val (.int s_0), .val (.ref r0), .val (.int (2 : Int32)), .val (.int (0 : Int32)), .val (.int (F 0)), .val (.long ee0), .second] [(.ref r2)])) _
        refine XS.iload X0.here hx rfl (hb hby d4_70) rfl ?_
        show Steps p.tables e below (s₁.setTop (mkF m 72 #[.val (.ref r0), .val (.int p1), .val (.ref r2), .val (.int p3), .val (.int s_0), .val (.ref r0), .val (.int (2 : Int32)), .val (.int (0 : Int32)), .val (.int (F 0)), .val (.long ee0), .second] [(.int s_0), (.ref r2)])) _
        refine X0.iaload hx (j := s_0) (v := (.int (G (s_0).toNatClampNeg))) (by rw [e0]; exact A2.1) (State.isArrayOf_alike hZ.alike A2.2.1) A2.2.2 hin33 hat33 (g := (mkF m 72 #[.val (.ref r0), .val (.int p1), .val (.ref r2), .val (.int p3), .val (.int s_0), .val (.ref r0), .val (.int (2 : Int32)), .val (.int (0 : Int32)), .val (.int (F 0)), .val (.long ee0), .second] [(.int s_0), (.ref r2)])) rfl rfl (hb hby d4_72) _ ?_
        show Steps p.tables e below (s₁.setTop (mkF m 73 #[.val (.ref r0), .val (.int p1), .val (.ref r2), .val (.int p3), .val (.int s_0), .val (.ref r0), .val (.int (2 : Int32)), .val (.int (0 : Int32)), .val (.int (F 0)), .val (.long ee0), .second] [(.int (G (s_0).toNatClampNeg))])) _
        refine XS.i2l X0.here hx rfl (hb hby d4_73) rfl ?_
        show Steps p.tables e below (s₁.setTop (mkF m 74 #[.val (.ref r0), .val (.int p1), .val (.ref r2), .val (.int p3), .val (.int s_0), .val (.ref r0), .val (.int (2 : Int32)), .val (.int (0 : Int32)), .val (.int (F 0)), .val (.long ee0), .second] [(.long ((G (s_0).toNatClampNeg).toInt64))])) _
        refine XS.lload X0.here hx rfl (hb hby d4_74) rfl ?_
        show Steps p.tables e below (s₁.setTop (mkF m 76 #[.val (.ref r0), .val (.int p1), .val (.ref r2), .val (.int p3), .val (.int s_0), .val (.ref r0), .val (.int (2 : Int32)), .val (.int (0 : Int32)), .val (.int (F 0)), .val (.long ee0), .second] [(.long ee0), (.long ((G (s_0).toNatClampNeg).toInt64))])) _
        refine XS.iloadN X0.here hx rfl (hb hby d4_76) rfl ?_
        show Steps p.tables e below (s₁.setTop (mkF m 77 #[.val (.ref r0), .val (.int p1), .val (.ref r2), .val (.int p3), .val (.int s_0), .val (.ref r0), .val (.int (2 : Int32)), .val (.int (0 : Int32)), .val (.int (F 0)), .val (.long ee0), .second] [(.int p3), (.long ee0), (.long ((G (s_0).toNatClampNeg).toInt64))])) _
        refine XS.i2l X0.here hx rfl (hb hby d4_77) rfl ?_
        show Steps p.tables e below (s₁.setTop (mkF m 78 #[.val (.ref r0), .val (.int p1), .val (.ref r2), .val (.int p3), .val (.int s_0), .val (.ref r0), .val (.int (2 : Int32)), .val (.int (0 : Int32)), .val (.int (F 0)), .val (.long ee0), .second] [(.long (p3.toInt64)), (.long ee0), (.long ((G (s_0).toNatClampNeg).toInt64))])) _
        refine XS.ladd X0.here hx rfl (hb hby d4_78) rfl ?_
        show Steps p.tables e below (s₁.setTop (mkF m 79 #[.val (.ref r0), .val (.int p1), .val (.ref r2), .val (.int p3), .val (.int s_0), .val (.ref r0), .val (.int (2 : Int32)), .val (.int (0 : Int32)), .val (.int (F 0)), .val (.long ee0), .second] [(.long (ee0 + (p3.toInt64))), (.long ((G (s_0).toNatClampNeg).toInt64))])) _
        refine XS.lcmp X0.here hx rfl (hb hby d4_79) rfl ?_
        exact k)
      by_cases hc34 : (0 : Int32) < (lcmpW ((G (s_0).toNatClampNeg).toInt64) (ee0 + (p3.toInt64)))
      · skip
        have ohc34 : 0 < (lcmpW ((G (s_0).toNatClampNeg).toInt64) (ee0 + (p3.toInt64))).toInt := own_lt.mp hc34
        have hc36 : (1 : Int32) < (2 : Int32) := by decide
        have hin37 : ¬ ((1 : Int32) < 0 ∨ c1.slots.size ≤ ((1 : Int32)).toNatClampNeg) := inb_of S1 ⟨by decide, by decide⟩
        have hat37 : c1.slots[((1 : Int32)).toNatClampNeg]? = some (.int (F 1)) := HF 1 (by decide)
        have pre38 : ∀ t, Steps p.tables e below (s₁.setTop (mkF m 36 #[.val (.ref r0), .val (.int p1), .val (.ref r2), .val (.int p3), .val (.int s_0), .val (.ref r0), .val (.int (2 : Int32)), .val (.int (1 : Int32)), .val (.int (F 1)), .val (.long (((F 1).toInt64) + (p1.toInt64))), .second] [])) t → Steps p.tables e below (s₁.setTop (mkF m 0 #[.val (.ref r0), .val (.int p1), .val (.ref r2), .val (.int p3), .unset, .unset, .unset, .unset, .unset, .unset, .unset] [])) t := fun t k => pre35 t (by
          show Steps p.tables e below (s₁.setTop (mkF m 80 #[.val (.ref r0), .val (.int p1), .val (.ref r2), .val (.int p3), .val (.int s_0), .val (.ref r0), .val (.int (2 : Int32)), .val (.int (0 : Int32)), .val (.int (F 0)), .val (.long ee0), .second] [(.int (lcmpW ((G (s_0).toNatClampNeg).toInt64) (ee0 + (p3.toInt64))))])) _
          refine XS.ifYes X0.here hx rfl (pc0 := 80) (pc' := 85) rfl (hb hby d4_80) rfl ((if0 _ _).trans (tlt hc34).2.2.1) (by decide) (by decide) ?_
          show Steps p.tables e below (s₁.setTop (mkF m 85 #[.val (.ref r0), .val (.int p1), .val (.ref r2), .val (.int p3), .val (.int s_0), .val (.ref r0), .val (.int (2 : Int32)), .val (.int (0 : Int32)), .val (.int (F 0)), .val (.long ee0), .second] [])) _
          refine XS.iinc X0.here hx rfl (hb hby d4_85) rfl (l' := #[.val (.ref r0), .val (.int p1), .val (.ref r2), .val (.int p3), .val (.int s_0), .val (.ref r0), .val (.int (2 : Int32)), .val (.int (1 : Int32)), .val (.int (F 0)), .val (.long ee0), .second]) rfl ?_
          show Steps p.tables e below (s₁.setTop (mkF m 88 #[.val (.ref r0), .val (.int p1), .val (.ref r2), .val (.int p3), .val (.int s_0), .val (.ref r0), .val (.int (2 : Int32)), .val (.int (1 : Int32)), .val (.int (F 0)), .val (.long ee0), .second] [])) _
          refine XS.goto X0.here hx rfl (pc0 := 88) (pc' := 14) rfl (hb hby d4_88) (by decide) (by decide) ?_
          show Steps p.tables e below (s₁.setTop (mkF m 14 #[.val (.ref r0), .val (.int p1), .val (.ref r2), .val (.int p3), .val (.int s_0), .val (.ref r0), .val (.int (2 : Int32)), .val (.int (1 : Int32)), .val (.int (F 0)), .val (.long ee0), .second] [])) _
          refine XS.iload X0.here hx rfl (hb hby d4_14) rfl ?_
          show Steps p.tables e below (s₁.setTop (mkF m 16 #[.val (.ref r0), .val (.int p1), .val (.ref r2), .val (.int p3), .val (.int s_0), .val (.ref r0), .val (.int (2 : Int32)), .val (.int (1 : Int32)), .val (.int (F 0)), .val (.long ee0), .second] [(.int (1 : Int32))])) _
          refine XS.iload X0.here hx rfl (hb hby d4_16) rfl ?_
          show Steps p.tables e below (s₁.setTop (mkF m 18 #[.val (.ref r0), .val (.int p1), .val (.ref r2), .val (.int p3), .val (.int s_0), .val (.ref r0), .val (.int (2 : Int32)), .val (.int (1 : Int32)), .val (.int (F 0)), .val (.long ee0), .second] [(.int (2 : Int32)), (.int (1 : Int32))])) _
          refine XS.icmpNo X0.here hx rfl (hb hby d4_18) rfl (tlt hc36).2.1 ?_
          show Steps p.tables e below (s₁.setTop (mkF m 21 #[.val (.ref r0), .val (.int p1), .val (.ref r2), .val (.int p3), .val (.int s_0), .val (.ref r0), .val (.int (2 : Int32)), .val (.int (1 : Int32)), .val (.int (F 0)), .val (.long ee0), .second] [])) _
          refine XS.aload X0.here hx rfl (hb hby d4_21) rfl rfl ?_
          show Steps p.tables e below (s₁.setTop (mkF m 23 #[.val (.ref r0), .val (.int p1), .val (.ref r2), .val (.int p3), .val (.int s_0), .val (.ref r0), .val (.int (2 : Int32)), .val (.int (1 : Int32)), .val (.int (F 0)), .val (.long ee0), .second] [(.ref r0)])) _
          refine XS.iload X0.here hx rfl (hb hby d4_23) rfl ?_
          show Steps p.tables e below (s₁.setTop (mkF m 25 #[.val (.ref r0), .val (.int p1), .val (.ref r2), .val (.int p3), .val (.int s_0), .val (.ref r0), .val (.int (2 : Int32)), .val (.int (1 : Int32)), .val (.int (F 0)), .val (.long ee0), .second] [(.int (1 : Int32)), (.ref r0)])) _
          refine X0.iaload hx (j := (1 : Int32)) (v := (.int (F 1))) (by rw [e0]; exact A1.1) (State.isArrayOf_alike hZ.alike A1.2.1) A1.2.2 hin37 hat37 (g := (mkF m 25 #[.val (.ref r0), .val (.int p1), .val (.ref r2), .val (.int p3), .val (.int s_0), .val (.ref r0), .val (.int (2 : Int32)), .val (.int (1 : Int32)), .val (.int (F 0)), .val (.long ee0), .second] [(.int (1 : Int32)), (.ref r0)])) rfl rfl (hb hby d4_25) _ ?_
          show Steps p.tables e below (s₁.setTop (mkF m 26 #[.val (.ref r0), .val (.int p1), .val (.ref r2), .val (.int p3), .val (.int s_0), .val (.ref r0), .val (.int (2 : Int32)), .val (.int (1 : Int32)), .val (.int (F 0)), .val (.long ee0), .second] [(.int (F 1))])) _
          refine XS.istore X0.here hx rfl (hb hby d4_26) rfl (l' := #[.val (.ref r0), .val (.int p1), .val (.ref r2), .val (.int p3), .val (.int s_0), .val (.ref r0), .val (.int (2 : Int32)), .val (.int (1 : Int32)), .val (.int (F 1)), .val (.long ee0), .second]) rfl ?_
          show Steps p.tables e below (s₁.setTop (mkF m 28 #[.val (.ref r0), .val (.int p1), .val (.ref r2), .val (.int p3), .val (.int s_0), .val (.ref r0), .val (.int (2 : Int32)), .val (.int (1 : Int32)), .val (.int (F 1)), .val (.long ee0), .second] [])) _
          refine XS.iload X0.here hx rfl (hb hby d4_28) rfl ?_
          show Steps p.tables e below (s₁.setTop (mkF m 30 #[.val (.ref r0), .val (.int p1), .val (.ref r2), .val (.int p3), .val (.int s_0), .val (.ref r0), .val (.int (2 : Int32)), .val (.int (1 : Int32)), .val (.int (F 1)), .val (.long ee0), .second] [(.int (F 1))])) _
          refine XS.i2l X0.here hx rfl (hb hby d4_30) rfl ?_
          show Steps p.tables e below (s₁.setTop (mkF m 31 #[.val (.ref r0), .val (.int p1), .val (.ref r2), .val (.int p3), .val (.int s_0), .val (.ref r0), .val (.int (2 : Int32)), .val (.int (1 : Int32)), .val (.int (F 1)), .val (.long ee0), .second] [(.long ((F 1).toInt64))])) _
          refine XS.iloadN X0.here hx rfl (hb hby d4_31) rfl ?_
          show Steps p.tables e below (s₁.setTop (mkF m 32 #[.val (.ref r0), .val (.int p1), .val (.ref r2), .val (.int p3), .val (.int s_0), .val (.ref r0), .val (.int (2 : Int32)), .val (.int (1 : Int32)), .val (.int (F 1)), .val (.long ee0), .second] [(.int p1), (.long ((F 1).toInt64))])) _
          refine XS.i2l X0.here hx rfl (hb hby d4_32) rfl ?_
          show Steps p.tables e below (s₁.setTop (mkF m 33 #[.val (.ref r0), .val (.int p1), .val (.ref r2), .val (.int p3), .val (.int s_0), .val (.ref r0), .val (.int (2 : Int32)), .val (.int (1 : Int32)), .val (.int (F 1)), .val (.long ee0), .second] [(.long (p1.toInt64)), (.long ((F 1).toInt64))])) _
          refine XS.ladd X0.here hx rfl (hb hby d4_33) rfl ?_
          show Steps p.tables e below (s₁.setTop (mkF m 34 #[.val (.ref r0), .val (.int p1), .val (.ref r2), .val (.int p3), .val (.int s_0), .val (.ref r0), .val (.int (2 : Int32)), .val (.int (1 : Int32)), .val (.int (F 1)), .val (.long ee0), .second] [(.long (((F 1).toInt64) + (p1.toInt64)))])) _
          refine XS.lstore X0.here hx rfl (hb hby d4_34) rfl (l' := #[.val (.ref r0), .val (.int p1), .val (.ref r2), .val (.int p3), .val (.int s_0), .val (.ref r0), .val (.int (2 : Int32)), .val (.int (1 : Int32)), .val (.int (F 1)), .val (.long (((F 1).toInt64) + (p1.toInt64))), .second]) rfl ?_
          exact k)
        obtain ⟨ee1, h_ee1⟩ : ∃ z, z = (((F 1).toInt64) + (p1.toInt64)) := ⟨_, rfl⟩
        rw [← h_ee1] at pre38
        have ha1 := c_ladd ((F 1).toInt64) (p1.toInt64)
        rw [c_i2l, c_i2l, ← h_ee1] at ha1
        have hb1 := rng32 (F 1)
        have hd1 := rng64 ee1
        have he1 : ee1.toInt = (F 1).toInt + p1.toInt := by omega
        clear ha1 hb1 hd1
        have lp1 : ∀ (k : Nat) (sv : Int32), 0 ≤ sv.toInt → sv.toInt + k = ns.toInt → ∃ sv' : Int32, sv.toInt ≤ sv'.toInt ∧ sv'.toInt ≤ ns.toInt ∧ (∀ j : Nat, sv.toInt ≤ j → (j : Int) < sv'.toInt → (G j).toInt < ee1.toInt) ∧ (sv'.toInt < ns.toInt → ee1.toInt ≤ (G sv'.toNatClampNeg).toInt) ∧ ∀ t, Steps p.tables e below (s₁.setTop (mkF m 60 #[.val (.ref r0), .val (.int p1), .val (.ref r2), .val (.int p3), .val (.int sv'), .val (.ref r0), .val (.int (2 : Int32)), .val (.int (1 : Int32)), .val (.int (F 1)), .val (.long ee1), .second] [])) t → Steps p.tables e below (s₁.setTop (mkF m 36 #[.val (.ref r0), .val (.int p1), .val (.ref r2), .val (.int p3), .val (.int sv), .val (.ref r0), .val (.int (2 : Int32)), .val (.int (1 : Int32)), .val (.int (F 1)), .val (.long ee1), .second] [])) t := by
          intro k
          induction k with
          | zero =>
            intro sv hs0 hs1
            have hc39 : ¬ (sv < ns) := own_nlt.mpr (show ns.toInt ≤ sv.toInt by omega)
            have ohc39 : ns.toInt ≤ sv.toInt := own_nlt.mp hc39
            refine ⟨sv, by omega, by omega, fun j a b => by omega, fun a => by omega, fun t k => ?_⟩
            show Steps p.tables e below (s₁.setTop (mkF m 36 #[.val (.ref r0), .val (.int p1), .val (.ref r2), .val (.int p3), .val (.int sv), .val (.ref r0), .val (.int (2 : Int32)), .val (.int (1 : Int32)), .val (.int (F 1)), .val (.long ee1), .second] [])) _
            refine XS.iload X0.here hx rfl (hb hby d4_36) rfl ?_
            show Steps p.tables e below (s₁.setTop (mkF m 38 #[.val (.ref r0), .val (.int p1), .val (.ref r2), .val (.int p3), .val (.int sv), .val (.ref r0), .val (.int (2 : Int32)), .val (.int (1 : Int32)), .val (.int (F 1)), .val (.long ee1), .second] [(.int sv)])) _
            refine XS.aloadN X0.here hx rfl (hb hby d4_38) rfl rfl ?_
            show Steps p.tables e below (s₁.setTop (mkF m 39 #[.val (.ref r0), .val (.int p1), .val (.ref r2), .val (.int p3), .val (.int sv), .val (.ref r0), .val (.int (2 : Int32)), .val (.int (1 : Int32)), .val (.int (F 1)), .val (.long ee1), .second] [(.ref r2), (.int sv)])) _
            refine X0.arraylength hx (by rw [e0]; exact A2.1) (State.isArrayOf_alike hZ.alike A2.2.1) (g := (mkF m 39 #[.val (.ref r0), .val (.int p1), .val (.ref r2), .val (.int p3), .val (.int sv), .val (.ref r0), .val (.int (2 : Int32)), .val (.int (1 : Int32)), .val (.int (F 1)), .val (.long ee1), .second] [(.ref r2), (.int sv)])) rfl rfl (hb hby d4_39) _ ?_
            rw [len_of S2 M2]
            show Steps p.tables e below (s₁.setTop (mkF m 40 #[.val (.ref r0), .val (.int p1), .val (.ref r2), .val (.int p3), .val (.int sv), .val (.ref r0), .val (.int (2 : Int32)), .val (.int (1 : Int32)), .val (.int (F 1)), .val (.long ee1), .second] [(.int ns), (.int sv)])) _
            refine XS.icmpYes X0.here hx rfl (pc0 := 40) (pc' := 60) rfl (hb hby d4_40) rfl (flt hc39).2.1 (by decide) (by decide) ?_
            exact k
          | succ k ih =>
            intro sv hs0 hs1
            have hcl := own_cl sv hs0
            have hq := c_lcmp ((G sv.toNatClampNeg).toInt64) ee1
            rw [c_i2l] at hq
            by_cases hlt : (lcmpW ((G (sv).toNatClampNeg).toInt64) ee1) < (0 : Int32)
            · skip
              have olt : (lcmpW ((G (sv).toNatClampNeg).toInt64) ee1).toInt < 0 := own_lt.mp hlt
              have hsi := c_iadd sv (1 : Int32)
              rw [show (1 : Int32).toInt = 1 from rfl] at hsi
              have hsr := rng32 (sv + (1 : Int32))
              have hnr := rng32 ns
              have hsv : (sv + (1 : Int32)).toInt = sv.toInt + 1 := by omega
              clear hsi hsr hnr
              obtain ⟨sv', i1, i2, i3, i4, i5⟩ := ih (sv + (1 : Int32)) (by omega) (by omega)
              have hc40 : sv < ns := own_lt.mpr (show sv.toInt < ns.toInt by omega)
              have ohc40 : sv.toInt < ns.toInt := own_lt.mp hc40
              have hin41 : ¬ (sv < 0 ∨ c2.slots.size ≤ (sv).toNatClampNeg) := inb_of S2 ⟨own_nlt.mpr (show 0 ≤ sv.toInt by omega), own_lt.mpr (show sv.toInt < ns.toInt by omega)⟩
              have hat41 : c2.slots[(sv).toNatClampNeg]? = some (.int (G (sv).toNatClampNeg)) := HG _ (own_cl2 (by omega) (by omega))
              have hc42 : (lcmpW ((G (sv).toNatClampNeg).toInt64) ee1) < (0 : Int32) := hlt
              have ohc42 : (lcmpW ((G (sv).toNatClampNeg).toInt64) ee1).toInt < 0 := own_lt.mp hc42
              refine ⟨sv', by omega, i2, fun j a b => ?_, i4, fun t k => ?_⟩
              · by_cases hjs : (j : Int) = sv.toInt
                · have hj2 : j = sv.toNatClampNeg := by omega
                  rw [hj2]; omega
                · exact i3 j (by omega) b
              · skip
                show Steps p.tables e below (s₁.setTop (mkF m 36 #[.val (.ref r0), .val (.int p1), .val (.ref r2), .val (.int p3), .val (.int sv), .val (.ref r0), .val (.int (2 : Int32)), .val (.int (1 : Int32)), .val (.int (F 1)), .val (.long ee1), .second] [])) _
                refine XS.iload X0.here hx rfl (hb hby d4_36) rfl ?_
                show Steps p.tables e below (s₁.setTop (mkF m 38 #[.val (.ref r0), .val (.int p1), .val (.ref r2), .val (.int p3), .val (.int sv), .val (.ref r0), .val (.int (2 : Int32)), .val (.int (1 : Int32)), .val (.int (F 1)), .val (.long ee1), .second] [(.int sv)])) _
                refine XS.aloadN X0.here hx rfl (hb hby d4_38) rfl rfl ?_
                show Steps p.tables e below (s₁.setTop (mkF m 39 #[.val (.ref r0), .val (.int p1), .val (.ref r2), .val (.int p3), .val (.int sv), .val (.ref r0), .val (.int (2 : Int32)), .val (.int (1 : Int32)), .val (.int (F 1)), .val (.long ee1), .second] [(.ref r2), (.int sv)])) _
                refine X0.arraylength hx (by rw [e0]; exact A2.1) (State.isArrayOf_alike hZ.alike A2.2.1) (g := (mkF m 39 #[.val (.ref r0), .val (.int p1), .val (.ref r2), .val (.int p3), .val (.int sv), .val (.ref r0), .val (.int (2 : Int32)), .val (.int (1 : Int32)), .val (.int (F 1)), .val (.long ee1), .second] [(.ref r2), (.int sv)])) rfl rfl (hb hby d4_39) _ ?_
                rw [len_of S2 M2]
                show Steps p.tables e below (s₁.setTop (mkF m 40 #[.val (.ref r0), .val (.int p1), .val (.ref r2), .val (.int p3), .val (.int sv), .val (.ref r0), .val (.int (2 : Int32)), .val (.int (1 : Int32)), .val (.int (F 1)), .val (.long ee1), .second] [(.int ns), (.int sv)])) _
                refine XS.icmpNo X0.here hx rfl (hb hby d4_40) rfl (tlt hc40).2.1 ?_
                show Steps p.tables e below (s₁.setTop (mkF m 43 #[.val (.ref r0), .val (.int p1), .val (.ref r2), .val (.int p3), .val (.int sv), .val (.ref r0), .val (.int (2 : Int32)), .val (.int (1 : Int32)), .val (.int (F 1)), .val (.long ee1), .second] [])) _
                refine XS.aloadN X0.here hx rfl (hb hby d4_43) rfl rfl ?_
                show Steps p.tables e below (s₁.setTop (mkF m 44 #[.val (.ref r0), .val (.int p1), .val (.ref r2), .val (.int p3), .val (.int sv), .val (.ref r0), .val (.int (2 : Int32)), .val (.int (1 : Int32)), .val (.int (F 1)), .val (.long ee1), .second] [(.ref r2)])) _
                refine XS.iload X0.here hx rfl (hb hby d4_44) rfl ?_
                show Steps p.tables e below (s₁.setTop (mkF m 46 #[.val (.ref r0), .val (.int p1), .val (.ref r2), .val (.int p3), .val (.int sv), .val (.ref r0), .val (.int (2 : Int32)), .val (.int (1 : Int32)), .val (.int (F 1)), .val (.long ee1), .second] [(.int sv), (.ref r2)])) _
                refine X0.iaload hx (j := sv) (v := (.int (G (sv).toNatClampNeg))) (by rw [e0]; exact A2.1) (State.isArrayOf_alike hZ.alike A2.2.1) A2.2.2 hin41 hat41 (g := (mkF m 46 #[.val (.ref r0), .val (.int p1), .val (.ref r2), .val (.int p3), .val (.int sv), .val (.ref r0), .val (.int (2 : Int32)), .val (.int (1 : Int32)), .val (.int (F 1)), .val (.long ee1), .second] [(.int sv), (.ref r2)])) rfl rfl (hb hby d4_46) _ ?_
                show Steps p.tables e below (s₁.setTop (mkF m 47 #[.val (.ref r0), .val (.int p1), .val (.ref r2), .val (.int p3), .val (.int sv), .val (.ref r0), .val (.int (2 : Int32)), .val (.int (1 : Int32)), .val (.int (F 1)), .val (.long ee1), .second] [(.int (G (sv).toNatClampNeg))])) _
                refine XS.i2l X0.here hx rfl (hb hby d4_47) rfl ?_
                show Steps p.tables e below (s₁.setTop (mkF m 48 #[.val (.ref r0), .val (.int p1), .val (.ref r2), .val (.int p3), .val (.int sv), .val (.ref r0), .val (.int (2 : Int32)), .val (.int (1 : Int32)), .val (.int (F 1)), .val (.long ee1), .second] [(.long ((G (sv).toNatClampNeg).toInt64))])) _
                refine XS.lload X0.here hx rfl (hb hby d4_48) rfl ?_
                show Steps p.tables e below (s₁.setTop (mkF m 50 #[.val (.ref r0), .val (.int p1), .val (.ref r2), .val (.int p3), .val (.int sv), .val (.ref r0), .val (.int (2 : Int32)), .val (.int (1 : Int32)), .val (.int (F 1)), .val (.long ee1), .second] [(.long ee1), (.long ((G (sv).toNatClampNeg).toInt64))])) _
                refine XS.lcmp X0.here hx rfl (hb hby d4_50) rfl ?_
                show Steps p.tables e below (s₁.setTop (mkF m 51 #[.val (.ref r0), .val (.int p1), .val (.ref r2), .val (.int p3), .val (.int sv), .val (.ref r0), .val (.int (2 : Int32)), .val (.int (1 : Int32)), .val (.int (F 1)), .val (.long ee1), .second] [(.int (lcmpW ((G (sv).toNatClampNeg).toInt64) ee1))])) _
                refine XS.ifNo X0.here hx rfl (hb hby d4_51) rfl ((if0 _ _).trans (tlt hc42).2.1) ?_
                show Steps p.tables e below (s₁.setTop (mkF m 54 #[.val (.ref r0), .val (.int p1), .val (.ref r2), .val (.int p3), .val (.int sv), .val (.ref r0), .val (.int (2 : Int32)), .val (.int (1 : Int32)), .val (.int (F 1)), .val (.long ee1), .second] [])) _
                refine XS.iinc X0.here hx rfl (hb hby d4_54) rfl (l' := #[.val (.ref r0), .val (.int p1), .val (.ref r2), .val (.int p3), .val (.int (sv + (1 : Int32))), .val (.ref r0), .val (.int (2 : Int32)), .val (.int (1 : Int32)), .val (.int (F 1)), .val (.long ee1), .second]) rfl ?_
                show Steps p.tables e below (s₁.setTop (mkF m 57 #[.val (.ref r0), .val (.int p1), .val (.ref r2), .val (.int p3), .val (.int (sv + (1 : Int32))), .val (.ref r0), .val (.int (2 : Int32)), .val (.int (1 : Int32)), .val (.int (F 1)), .val (.long ee1), .second] [])) _
                refine XS.goto X0.here hx rfl (pc0 := 57) (pc' := 36) rfl (hb hby d4_57) (by decide) (by decide) ?_
                exact i5 t k
            · skip
              have olt : 0 ≤ (lcmpW ((G (sv).toNatClampNeg).toInt64) ee1).toInt := own_nlt.mp hlt
              have hc43 : sv < ns := own_lt.mpr (show sv.toInt < ns.toInt by omega)
              have ohc43 : sv.toInt < ns.toInt := own_lt.mp hc43
              have hin44 : ¬ (sv < 0 ∨ c2.slots.size ≤ (sv).toNatClampNeg) := inb_of S2 ⟨own_nlt.mpr (show 0 ≤ sv.toInt by omega), own_lt.mpr (show sv.toInt < ns.toInt by omega)⟩
              have hat44 : c2.slots[(sv).toNatClampNeg]? = some (.int (G (sv).toNatClampNeg)) := HG _ (own_cl2 (by omega) (by omega))
              have hc45 : ¬ ((lcmpW ((G (sv).toNatClampNeg).toInt64) ee1) < (0 : Int32)) := hlt
              have ohc45 : 0 ≤ (lcmpW ((G (sv).toNatClampNeg).toInt64) ee1).toInt := own_nlt.mp hc45
              refine ⟨sv, by omega, by omega, fun j a b => by omega, fun a => by omega, fun t k => ?_⟩
              show Steps p.tables e below (s₁.setTop (mkF m 36 #[.val (.ref r0), .val (.int p1), .val (.ref r2), .val (.int p3), .val (.int sv), .val (.ref r0), .val (.int (2 : Int32)), .val (.int (1 : Int32)), .val (.int (F 1)), .val (.long ee1), .second] [])) _
              refine XS.iload X0.here hx rfl (hb hby d4_36) rfl ?_
              show Steps p.tables e below (s₁.setTop (mkF m 38 #[.val (.ref r0), .val (.int p1), .val (.ref r2), .val (.int p3), .val (.int sv), .val (.ref r0), .val (.int (2 : Int32)), .val (.int (1 : Int32)), .val (.int (F 1)), .val (.long ee1), .second] [(.int sv)])) _
              refine XS.aloadN X0.here hx rfl (hb hby d4_38) rfl rfl ?_
              show Steps p.tables e below (s₁.setTop (mkF m 39 #[.val (.ref r0), .val (.int p1), .val (.ref r2), .val (.int p3), .val (.int sv), .val (.ref r0), .val (.int (2 : Int32)), .val (.int (1 : Int32)), .val (.int (F 1)), .val (.long ee1), .second] [(.ref r2), (.int sv)])) _
              refine X0.arraylength hx (by rw [e0]; exact A2.1) (State.isArrayOf_alike hZ.alike A2.2.1) (g := (mkF m 39 #[.val (.ref r0), .val (.int p1), .val (.ref r2), .val (.int p3), .val (.int sv), .val (.ref r0), .val (.int (2 : Int32)), .val (.int (1 : Int32)), .val (.int (F 1)), .val (.long ee1), .second] [(.ref r2), (.int sv)])) rfl rfl (hb hby d4_39) _ ?_
              rw [len_of S2 M2]
              show Steps p.tables e below (s₁.setTop (mkF m 40 #[.val (.ref r0), .val (.int p1), .val (.ref r2), .val (.int p3), .val (.int sv), .val (.ref r0), .val (.int (2 : Int32)), .val (.int (1 : Int32)), .val (.int (F 1)), .val (.long ee1), .second] [(.int ns), (.int sv)])) _
              refine XS.icmpNo X0.here hx rfl (hb hby d4_40) rfl (tlt hc43).2.1 ?_
              show Steps p.tables e below (s₁.setTop (mkF m 43 #[.val (.ref r0), .val (.int p1), .val (.ref r2), .val (.int p3), .val (.int sv), .val (.ref r0), .val (.int (2 : Int32)), .val (.int (1 : Int32)), .val (.int (F 1)), .val (.long ee1), .second] [])) _
              refine XS.aloadN X0.here hx rfl (hb hby d4_43) rfl rfl ?_
              show Steps p.tables e below (s₁.setTop (mkF m 44 #[.val (.ref r0), .val (.int p1), .val (.ref r2), .val (.int p3), .val (.int sv), .val (.ref r0), .val (.int (2 : Int32)), .val (.int (1 : Int32)), .val (.int (F 1)), .val (.long ee1), .second] [(.ref r2)])) _
              refine XS.iload X0.here hx rfl (hb hby d4_44) rfl ?_
              show Steps p.tables e below (s₁.setTop (mkF m 46 #[.val (.ref r0), .val (.int p1), .val (.ref r2), .val (.int p3), .val (.int sv), .val (.ref r0), .val (.int (2 : Int32)), .val (.int (1 : Int32)), .val (.int (F 1)), .val (.long ee1), .second] [(.int sv), (.ref r2)])) _
              refine X0.iaload hx (j := sv) (v := (.int (G (sv).toNatClampNeg))) (by rw [e0]; exact A2.1) (State.isArrayOf_alike hZ.alike A2.2.1) A2.2.2 hin44 hat44 (g := (mkF m 46 #[.val (.ref r0), .val (.int p1), .val (.ref r2), .val (.int p3), .val (.int sv), .val (.ref r0), .val (.int (2 : Int32)), .val (.int (1 : Int32)), .val (.int (F 1)), .val (.long ee1), .second] [(.int sv), (.ref r2)])) rfl rfl (hb hby d4_46) _ ?_
              show Steps p.tables e below (s₁.setTop (mkF m 47 #[.val (.ref r0), .val (.int p1), .val (.ref r2), .val (.int p3), .val (.int sv), .val (.ref r0), .val (.int (2 : Int32)), .val (.int (1 : Int32)), .val (.int (F 1)), .val (.long ee1), .second] [(.int (G (sv).toNatClampNeg))])) _
              refine XS.i2l X0.here hx rfl (hb hby d4_47) rfl ?_
              show Steps p.tables e below (s₁.setTop (mkF m 48 #[.val (.ref r0), .val (.int p1), .val (.ref r2), .val (.int p3), .val (.int sv), .val (.ref r0), .val (.int (2 : Int32)), .val (.int (1 : Int32)), .val (.int (F 1)), .val (.long ee1), .second] [(.long ((G (sv).toNatClampNeg).toInt64))])) _
              refine XS.lload X0.here hx rfl (hb hby d4_48) rfl ?_
              show Steps p.tables e below (s₁.setTop (mkF m 50 #[.val (.ref r0), .val (.int p1), .val (.ref r2), .val (.int p3), .val (.int sv), .val (.ref r0), .val (.int (2 : Int32)), .val (.int (1 : Int32)), .val (.int (F 1)), .val (.long ee1), .second] [(.long ee1), (.long ((G (sv).toNatClampNeg).toInt64))])) _
              refine XS.lcmp X0.here hx rfl (hb hby d4_50) rfl ?_
              show Steps p.tables e below (s₁.setTop (mkF m 51 #[.val (.ref r0), .val (.int p1), .val (.ref r2), .val (.int p3), .val (.int sv), .val (.ref r0), .val (.int (2 : Int32)), .val (.int (1 : Int32)), .val (.int (F 1)), .val (.long ee1), .second] [(.int (lcmpW ((G (sv).toNatClampNeg).toInt64) ee1))])) _
              refine XS.ifYes X0.here hx rfl (pc0 := 51) (pc' := 60) rfl (hb hby d4_51) rfl ((if0 _ _).trans (flt hc45).2.1) (by decide) (by decide) ?_
              exact k
        obtain ⟨s_1, j11, j12, j13, j14, j15⟩ := lp1 (ns.toInt - s_0.toInt).toNat s_0 (by first | decide | omega) (by first | omega | (rw [show s_0.toInt = 0 from rfl]; omega))
        have pre46 : ∀ t, Steps p.tables e below (s₁.setTop (mkF m 60 #[.val (.ref r0), .val (.int p1), .val (.ref r2), .val (.int p3), .val (.int s_1), .val (.ref r0), .val (.int (2 : Int32)), .val (.int (1 : Int32)), .val (.int (F 1)), .val (.long ee1), .second] [])) t → Steps p.tables e below (s₁.setTop (mkF m 0 #[.val (.ref r0), .val (.int p1), .val (.ref r2), .val (.int p3), .unset, .unset, .unset, .unset, .unset, .unset, .unset] [])) t := fun t k => pre38 t (j15 t k)
        have jc1 := own_cl s_1 (by omega)
        have jq1 := c_lcmp ((G (s_1).toNatClampNeg).toInt64) (ee1 + (p3.toInt64))
        have jr1 := c_ladd ee1 (p3.toInt64)
        rw [c_i2l] at jq1 jr1
        have js1 := rng64 (ee1 + (p3.toInt64))
        have jt1 : (ee1 + (p3.toInt64)).toInt = ee1.toInt + p3.toInt := by have rf := rng32 (F 1); omega
        rw [jt1] at jq1
        clear jr1 js1 jt1
        have pre48 : ∀ t, Steps p.tables e below (s₁.setTop (mkF m 64 #[.val (.ref r0), .val (.int p1), .val (.ref r2), .val (.int p3), .val (.int s_1), .val (.ref r0), .val (.int (2 : Int32)), .val (.int (1 : Int32)), .val (.int (F 1)), .val (.long ee1), .second] [(.int ns), (.int s_1)])) t → Steps p.tables e below (s₁.setTop (mkF m 0 #[.val (.ref r0), .val (.int p1), .val (.ref r2), .val (.int p3), .unset, .unset, .unset, .unset, .unset, .unset, .unset] [])) t := fun t k => pre46 t (by
          show Steps p.tables e below (s₁.setTop (mkF m 60 #[.val (.ref r0), .val (.int p1), .val (.ref r2), .val (.int p3), .val (.int s_1), .val (.ref r0), .val (.int (2 : Int32)), .val (.int (1 : Int32)), .val (.int (F 1)), .val (.long ee1), .second] [])) _
          refine XS.iload X0.here hx rfl (hb hby d4_60) rfl ?_
          show Steps p.tables e below (s₁.setTop (mkF m 62 #[.val (.ref r0), .val (.int p1), .val (.ref r2), .val (.int p3), .val (.int s_1), .val (.ref r0), .val (.int (2 : Int32)), .val (.int (1 : Int32)), .val (.int (F 1)), .val (.long ee1), .second] [(.int s_1)])) _
          refine XS.aloadN X0.here hx rfl (hb hby d4_62) rfl rfl ?_
          show Steps p.tables e below (s₁.setTop (mkF m 63 #[.val (.ref r0), .val (.int p1), .val (.ref r2), .val (.int p3), .val (.int s_1), .val (.ref r0), .val (.int (2 : Int32)), .val (.int (1 : Int32)), .val (.int (F 1)), .val (.long ee1), .second] [(.ref r2), (.int s_1)])) _
          refine X0.arraylength hx (by rw [e0]; exact A2.1) (State.isArrayOf_alike hZ.alike A2.2.1) (g := (mkF m 63 #[.val (.ref r0), .val (.int p1), .val (.ref r2), .val (.int p3), .val (.int s_1), .val (.ref r0), .val (.int (2 : Int32)), .val (.int (1 : Int32)), .val (.int (F 1)), .val (.long ee1), .second] [(.ref r2), (.int s_1)])) rfl rfl (hb hby d4_63) _ ?_
          rw [len_of S2 M2]
          exact k)
        by_cases hc47 : s_1 = ns
        · skip
          have ohc47 : s_1.toInt = ns.toInt := own_eq.mp hc47
          obtain ⟨fs, hr, hrun, hended, hW, hsame⟩ := X0.leave (v := some (.int (0 : Int32))) (fun h => by rw [Bd.returns] at h; cases h)
          refine ⟨_, _, pre0 _ (pre48 _ ?_), hrun, hended, _, _, rfl, ?_, ⟨_, rfl⟩, hW, hsame.mono (by decide) (by decide)⟩
          · skip
            show Steps p.tables e below (s₁.setTop (mkF m 64 #[.val (.ref r0), .val (.int p1), .val (.ref r2), .val (.int p3), .val (.int s_1), .val (.ref r0), .val (.int (2 : Int32)), .val (.int (1 : Int32)), .val (.int (F 1)), .val (.long ee1), .second] [(.int ns), (.int s_1)])) _
            refine XS.icmpNo X0.here hx rfl (hb hby d4_64) rfl (teq hc47).2 ?_
            show Steps p.tables e below (s₁.setTop (mkF m 67 #[.val (.ref r0), .val (.int p1), .val (.ref r2), .val (.int p3), .val (.int s_1), .val (.ref r0), .val (.int (2 : Int32)), .val (.int (1 : Int32)), .val (.int (F 1)), .val (.long ee1), .second] [])) _
            refine XS.iconst X0.here hx rfl (hb hby d4_67) ?_
            show Steps p.tables e below (s₁.setTop (mkF m 68 #[.val (.ref r0), .val (.int p1), .val (.ref r2), .val (.int p3), .val (.int s_1), .val (.ref r0), .val (.int (2 : Int32)), .val (.int (1 : Int32)), .val (.int (F 1)), .val (.long ee1), .second] [(.int (0 : Int32))])) _
            exact retN X0 hx (t := .boolean) Bd.returns (by simp) (hb hby d4_68) hr
          · show Q4 Z r0 p1 r2 p3 c1 c2 (2 : Int32) ns F G h0 n0 _ s₁.heap _
            rw [e0]
            refine ⟨0, rfl, N0, rfl, Or.inr ⟨rfl, fun i j hi hj hh => ?_⟩⟩
            have hi' : i < 2 := hi
            have hnc := own_cl ns (by omega)
            have a0 := j03 j
            have b0 := HS (s_0).toNatClampNeg j
            have a1 := j13 j
            have b1 := HS (s_1).toNatClampNeg j
            rcases (show i = 0 ∨ i = 1 by omega) with rfl | rfl
            · omega
            · omega
        · skip
          have ohc47 : ¬ (s_1.toInt = ns.toInt) := own_neq.mp hc47
          have hin49 : ¬ (s_1 < 0 ∨ c2.slots.size ≤ (s_1).toNatClampNeg) := inb_of S2 ⟨own_nlt.mpr (show 0 ≤ s_1.toInt by omega), own_lt.mpr (show s_1.toInt < ns.toInt by omega)⟩
          have hat49 : c2.slots[(s_1).toNatClampNeg]? = some (.int (G (s_1).toNatClampNeg)) := HG _ (own_cl2 (by omega) (by omega))
          have pre51 : ∀ t, Steps p.tables e below (s₁.setTop (mkF m 80 #[.val (.ref r0), .val (.int p1), .val (.ref r2), .val (.int p3), .val (.int s_1), .val (.ref r0), .val (.int (2 : Int32)), .val (.int (1 : Int32)), .val (.int (F 1)), .val (.long ee1), .second] [(.int (lcmpW ((G (s_1).toNatClampNeg).toInt64) (ee1 + (p3.toInt64))))])) t → Steps p.tables e below (s₁.setTop (mkF m 0 #[.val (.ref r0), .val (.int p1), .val (.ref r2), .val (.int p3), .unset, .unset, .unset, .unset, .unset, .unset, .unset] [])) t := fun t k => pre48 t (by
            show Steps p.tables e below (s₁.setTop (mkF m 64 #[.val (.ref r0), .val (.int p1), .val (.ref r2), .val (.int p3), .val (.int s_1), .val (.ref r0), .val (.int (2 : Int32)), .val (.int (1 : Int32)), .val (.int (F 1)), .val (.long ee1), .second] [(.int ns), (.int s_1)])) _
            refine XS.icmpYes X0.here hx rfl (pc0 := 64) (pc' := 69) rfl (hb hby d4_64) rfl (feq hc47).2 (by decide) (by decide) ?_
            show Steps p.tables e below (s₁.setTop (mkF m 69 #[.val (.ref r0), .val (.int p1), .val (.ref r2), .val (.int p3), .val (.int s_1), .val (.ref r0), .val (.int (2 : Int32)), .val (.int (1 : Int32)), .val (.int (F 1)), .val (.long ee1), .second] [])) _
            refine XS.aloadN X0.here hx rfl (hb hby d4_69) rfl rfl ?_
            show Steps p.tables e below (s₁.setTop (mkF m 70 #[.val (.ref r0), .val (.int p1), .val (.ref r2), .val (.int p3), .val (.int s_1), .val (.ref r0), .val (.int (2 : Int32)), .val (.int (1 : Int32)), .val (.int (F 1)), .val (.long ee1), .second] [(.ref r2)])) _
            refine XS.iload X0.here hx rfl (hb hby d4_70) rfl ?_
            show Steps p.tables e below (s₁.setTop (mkF m 72 #[.val (.ref r0), .val (.int p1), .val (.ref r2), .val (.int p3), .val (.int s_1), .val (.ref r0), .val (.int (2 : Int32)), .val (.int (1 : Int32)), .val (.int (F 1)), .val (.long ee1), .second] [(.int s_1), (.ref r2)])) _
            refine X0.iaload hx (j := s_1) (v := (.int (G (s_1).toNatClampNeg))) (by rw [e0]; exact A2.1) (State.isArrayOf_alike hZ.alike A2.2.1) A2.2.2 hin49 hat49 (g := (mkF m 72 #[.val (.ref r0), .val (.int p1), .val (.ref r2), .val (.int p3), .val (.int s_1), .val (.ref r0), .val (.int (2 : Int32)), .val (.int (1 : Int32)), .val (.int (F 1)), .val (.long ee1), .second] [(.int s_1), (.ref r2)])) rfl rfl (hb hby d4_72) _ ?_
            show Steps p.tables e below (s₁.setTop (mkF m 73 #[.val (.ref r0), .val (.int p1), .val (.ref r2), .val (.int p3), .val (.int s_1), .val (.ref r0), .val (.int (2 : Int32)), .val (.int (1 : Int32)), .val (.int (F 1)), .val (.long ee1), .second] [(.int (G (s_1).toNatClampNeg))])) _
            refine XS.i2l X0.here hx rfl (hb hby d4_73) rfl ?_
            show Steps p.tables e below (s₁.setTop (mkF m 74 #[.val (.ref r0), .val (.int p1), .val (.ref r2), .val (.int p3), .val (.int s_1), .val (.ref r0), .val (.int (2 : Int32)), .val (.int (1 : Int32)), .val (.int (F 1)), .val (.long ee1), .second] [(.long ((G (s_1).toNatClampNeg).toInt64))])) _
            refine XS.lload X0.here hx rfl (hb hby d4_74) rfl ?_
            show Steps p.tables e below (s₁.setTop (mkF m 76 #[.val (.ref r0), .val (.int p1), .val (.ref r2), .val (.int p3), .val (.int s_1), .val (.ref r0), .val (.int (2 : Int32)), .val (.int (1 : Int32)), .val (.int (F 1)), .val (.long ee1), .second] [(.long ee1), (.long ((G (s_1).toNatClampNeg).toInt64))])) _
            refine XS.iloadN X0.here hx rfl (hb hby d4_76) rfl ?_
            show Steps p.tables e below (s₁.setTop (mkF m 77 #[.val (.ref r0), .val (.int p1), .val (.ref r2), .val (.int p3), .val (.int s_1), .val (.ref r0), .val (.int (2 : Int32)), .val (.int (1 : Int32)), .val (.int (F 1)), .val (.long ee1), .second] [(.int p3), (.long ee1), (.long ((G (s_1).toNatClampNeg).toInt64))])) _
            refine XS.i2l X0.here hx rfl (hb hby d4_77) rfl ?_
            show Steps p.tables e below (s₁.setTop (mkF m 78 #[.val (.ref r0), .val (.int p1), .val (.ref r2), .val (.int p3), .val (.int s_1), .val (.ref r0), .val (.int (2 : Int32)), .val (.int (1 : Int32)), .val (.int (F 1)), .val (.long ee1), .second] [(.long (p3.toInt64)), (.long ee1), (.long ((G (s_1).toNatClampNeg).toInt64))])) _
            refine XS.ladd X0.here hx rfl (hb hby d4_78) rfl ?_
            show Steps p.tables e below (s₁.setTop (mkF m 79 #[.val (.ref r0), .val (.int p1), .val (.ref r2), .val (.int p3), .val (.int s_1), .val (.ref r0), .val (.int (2 : Int32)), .val (.int (1 : Int32)), .val (.int (F 1)), .val (.long ee1), .second] [(.long (ee1 + (p3.toInt64))), (.long ((G (s_1).toNatClampNeg).toInt64))])) _
            refine XS.lcmp X0.here hx rfl (hb hby d4_79) rfl ?_
            exact k)
          by_cases hc50 : (0 : Int32) < (lcmpW ((G (s_1).toNatClampNeg).toInt64) (ee1 + (p3.toInt64)))
          · skip
            have ohc50 : 0 < (lcmpW ((G (s_1).toNatClampNeg).toInt64) (ee1 + (p3.toInt64))).toInt := own_lt.mp hc50
            have hc52 : ¬ ((2 : Int32) < (2 : Int32)) := by decide
            obtain ⟨fs, hr, hrun, hended, hW, hsame⟩ := X0.leave (v := some (.int (0 : Int32))) (fun h => by rw [Bd.returns] at h; cases h)
            refine ⟨_, _, pre0 _ (pre51 _ ?_), hrun, hended, _, _, rfl, ?_, ⟨_, rfl⟩, hW, hsame.mono (by decide) (by decide)⟩
            · skip
              show Steps p.tables e below (s₁.setTop (mkF m 80 #[.val (.ref r0), .val (.int p1), .val (.ref r2), .val (.int p3), .val (.int s_1), .val (.ref r0), .val (.int (2 : Int32)), .val (.int (1 : Int32)), .val (.int (F 1)), .val (.long ee1), .second] [(.int (lcmpW ((G (s_1).toNatClampNeg).toInt64) (ee1 + (p3.toInt64))))])) _
              refine XS.ifYes X0.here hx rfl (pc0 := 80) (pc' := 85) rfl (hb hby d4_80) rfl ((if0 _ _).trans (tlt hc50).2.2.1) (by decide) (by decide) ?_
              show Steps p.tables e below (s₁.setTop (mkF m 85 #[.val (.ref r0), .val (.int p1), .val (.ref r2), .val (.int p3), .val (.int s_1), .val (.ref r0), .val (.int (2 : Int32)), .val (.int (1 : Int32)), .val (.int (F 1)), .val (.long ee1), .second] [])) _
              refine XS.iinc X0.here hx rfl (hb hby d4_85) rfl (l' := #[.val (.ref r0), .val (.int p1), .val (.ref r2), .val (.int p3), .val (.int s_1), .val (.ref r0), .val (.int (2 : Int32)), .val (.int (2 : Int32)), .val (.int (F 1)), .val (.long ee1), .second]) rfl ?_
              show Steps p.tables e below (s₁.setTop (mkF m 88 #[.val (.ref r0), .val (.int p1), .val (.ref r2), .val (.int p3), .val (.int s_1), .val (.ref r0), .val (.int (2 : Int32)), .val (.int (2 : Int32)), .val (.int (F 1)), .val (.long ee1), .second] [])) _
              refine XS.goto X0.here hx rfl (pc0 := 88) (pc' := 14) rfl (hb hby d4_88) (by decide) (by decide) ?_
              show Steps p.tables e below (s₁.setTop (mkF m 14 #[.val (.ref r0), .val (.int p1), .val (.ref r2), .val (.int p3), .val (.int s_1), .val (.ref r0), .val (.int (2 : Int32)), .val (.int (2 : Int32)), .val (.int (F 1)), .val (.long ee1), .second] [])) _
              refine XS.iload X0.here hx rfl (hb hby d4_14) rfl ?_
              show Steps p.tables e below (s₁.setTop (mkF m 16 #[.val (.ref r0), .val (.int p1), .val (.ref r2), .val (.int p3), .val (.int s_1), .val (.ref r0), .val (.int (2 : Int32)), .val (.int (2 : Int32)), .val (.int (F 1)), .val (.long ee1), .second] [(.int (2 : Int32))])) _
              refine XS.iload X0.here hx rfl (hb hby d4_16) rfl ?_
              show Steps p.tables e below (s₁.setTop (mkF m 18 #[.val (.ref r0), .val (.int p1), .val (.ref r2), .val (.int p3), .val (.int s_1), .val (.ref r0), .val (.int (2 : Int32)), .val (.int (2 : Int32)), .val (.int (F 1)), .val (.long ee1), .second] [(.int (2 : Int32)), (.int (2 : Int32))])) _
              refine XS.icmpYes X0.here hx rfl (pc0 := 18) (pc' := 91) rfl (hb hby d4_18) rfl (flt hc52).2.1 (by decide) (by decide) ?_
              show Steps p.tables e below (s₁.setTop (mkF m 91 #[.val (.ref r0), .val (.int p1), .val (.ref r2), .val (.int p3), .val (.int s_1), .val (.ref r0), .val (.int (2 : Int32)), .val (.int (2 : Int32)), .val (.int (F 1)), .val (.long ee1), .second] [])) _
              refine XS.iconst X0.here hx rfl (hb hby d4_91) ?_
              show Steps p.tables e below (s₁.setTop (mkF m 92 #[.val (.ref r0), .val (.int p1), .val (.ref r2), .val (.int p3), .val (.int s_1), .val (.ref r0), .val (.int (2 : Int32)), .val (.int (2 : Int32)), .val (.int (F 1)), .val (.long ee1), .second] [(.int (0 : Int32))])) _
              exact retN X0 hx (t := .boolean) Bd.returns (by simp) (hb hby d4_92) hr
            · show Q4 Z r0 p1 r2 p3 c1 c2 (2 : Int32) ns F G h0 n0 _ s₁.heap _
              rw [e0]
              refine ⟨0, rfl, N0, rfl, Or.inr ⟨rfl, fun i j hi hj hh => ?_⟩⟩
              have hi' : i < 2 := hi
              have hnc := own_cl ns (by omega)
              have a0 := j03 j
              have b0 := HS (s_0).toNatClampNeg j
              have a1 := j13 j
              have b1 := HS (s_1).toNatClampNeg j
              rcases (show i = 0 ∨ i = 1 by omega) with rfl | rfl
              · omega
              · omega
          · skip
            have ohc50 : (lcmpW ((G (s_1).toNatClampNeg).toInt64) (ee1 + (p3.toInt64))).toInt ≤ 0 := own_nlt.mp hc50
            obtain ⟨fs, hr, hrun, hended, hW, hsame⟩ := X0.leave (v := some (.int (1 : Int32))) (fun h => by rw [Bd.returns] at h; cases h)
            refine ⟨_, _, pre0 _ (pre51 _ ?_), hrun, hended, _, _, rfl, ?_, ⟨_, rfl⟩, hW, hsame.mono (by decide) (by decide)⟩
            · skip
              show Steps p.tables e below (s₁.setTop (mkF m 80 #[.val (.ref r0), .val (.int p1), .val (.ref r2), .val (.int p3), .val (.int s_1), .val (.ref r0), .val (.int (2 : Int32)), .val (.int (1 : Int32)), .val (.int (F 1)), .val (.long ee1), .second] [(.int (lcmpW ((G (s_1).toNatClampNeg).toInt64) (ee1 + (p3.toInt64))))])) _
              refine XS.ifNo X0.here hx rfl (hb hby d4_80) rfl ((if0 _ _).trans (flt hc50).2.2.1) ?_
              show Steps p.tables e below (s₁.setTop (mkF m 83 #[.val (.ref r0), .val (.int p1), .val (.ref r2), .val (.int p3), .val (.int s_1), .val (.ref r0), .val (.int (2 : Int32)), .val (.int (1 : Int32)), .val (.int (F 1)), .val (.long ee1), .second] [])) _
              refine XS.iconst X0.here hx rfl (hb hby d4_83) ?_
              show Steps p.tables e below (s₁.setTop (mkF m 84 #[.val (.ref r0), .val (.int p1), .val (.ref r2), .val (.int p3), .val (.int s_1), .val (.ref r0), .val (.int (2 : Int32)), .val (.int (1 : Int32)), .val (.int (F 1)), .val (.long ee1), .second] [(.int (1 : Int32))])) _
              exact retN X0 hx (t := .boolean) Bd.returns (by simp) (hb hby d4_84) hr
            · show Q4 Z r0 p1 r2 p3 c1 c2 (2 : Int32) ns F G h0 n0 _ s₁.heap _
              rw [e0]
              exact ⟨1, rfl, N0, rfl, Or.inl ⟨rfl, 1, (s_1).toNatClampNeg, by decide, own_cl2 (by omega) (by omega), by omega⟩⟩
      · skip
        have ohc34 : (lcmpW ((G (s_0).toNatClampNeg).toInt64) (ee0 + (p3.toInt64))).toInt ≤ 0 := own_nlt.mp hc34
        obtain ⟨fs, hr, hrun, hended, hW, hsame⟩ := X0.leave (v := some (.int (1 : Int32))) (fun h => by rw [Bd.returns] at h; cases h)
        refine ⟨_, _, pre0 _ (pre35 _ ?_), hrun, hended, _, _, rfl, ?_, ⟨_, rfl⟩, hW, hsame.mono (by decide) (by decide)⟩
        · skip
          show Steps p.tables e below (s₁.setTop (mkF m 80 #[.val (.ref r0), .val (.int p1), .val (.ref r2), .val (.int p3), .val (.int s_0), .val (.ref r0), .val (.int (2 : Int32)), .val (.int (0 : Int32)), .val (.int (F 0)), .val (.long ee0), .second] [(.int (lcmpW ((G (s_0).toNatClampNeg).toInt64) (ee0 + (p3.toInt64))))])) _
          refine XS.ifNo X0.here hx rfl (hb hby d4_80) rfl ((if0 _ _).trans (flt hc34).2.2.1) ?_
          show Steps p.tables e below (s₁.setTop (mkF m 83 #[.val (.ref r0), .val (.int p1), .val (.ref r2), .val (.int p3), .val (.int s_0), .val (.ref r0), .val (.int (2 : Int32)), .val (.int (0 : Int32)), .val (.int (F 0)), .val (.long ee0), .second] [])) _
          refine XS.iconst X0.here hx rfl (hb hby d4_83) ?_
          show Steps p.tables e below (s₁.setTop (mkF m 84 #[.val (.ref r0), .val (.int p1), .val (.ref r2), .val (.int p3), .val (.int s_0), .val (.ref r0), .val (.int (2 : Int32)), .val (.int (0 : Int32)), .val (.int (F 0)), .val (.long ee0), .second] [(.int (1 : Int32))])) _
          exact retN X0 hx (t := .boolean) Bd.returns (by simp) (hb hby d4_84) hr
        · show Q4 Z r0 p1 r2 p3 c1 c2 (2 : Int32) ns F G h0 n0 _ s₁.heap _
          rw [e0]
          exact ⟨1, rfl, N0, rfl, Or.inl ⟨rfl, 0, (s_0).toNatClampNeg, by decide, own_cl2 (by omega) (by omega), by omega⟩⟩
def Q0 (Z : State) (q0 : Int64) (q1 : Int64) (p2 : Int32) (p3 : Int32) (p4 : Int32) (p5 : Int32) (h0 : Heap) (n0 : Nat) (v : Option Value) (h : Heap) (L : List Loc) : Prop := v = some (.int 1) ∧ Fr n0 L
set_option maxRecDepth 65536 in
set_option maxHeartbeats 40000000 in
theorem rm0 (l : Launch) (Z : State) (a0 : Array Value) (hw : ∀ d ∈ tables_1, d.before a0 Z = true) (ws : List Jvm.Cond) (q0 : Int64) (q1 : Int64) (p2 : Int32) (p3 : Int32) (p4 : Int32) (p5 : Int32) (h0 : Heap) (n0 : Nat) (Z0 : n0 ≤ h0.size) :
    MetFree l x (head1 (Jvm.Cond.code x code maxLocals ret :: ws) room_1) (fun a U => a = #[(.long q0), (.long q1), (.int p2), (.int p3), (.int p4), (.int p5)] ∧ Z.Warmed39 U.vm ∧ U.heap = h0) (fun _ _ _ _ _ => True) (fun _ U o U' => ∃ v L, o = .returned v ∧ Q0 Z q0 q1 p2 p3 p4 p5 h0 n0 v U'.heap L ∧ FrameEnd U o U' L room_1.cells room_1.slots) := by
  refine MetFree.of_bodySF (plainFor_of_name pn_com_example_cranfield_cranfield_search_OccurrencesFollowedWithinPinLaw) hisR ?_
  intro p e s m args below meth c s₁ Bd hml0 hP hK
  obtain ⟨rfl, hZ, hh⟩ := hP
  have hx := Bd.exec
  have hby := Bd.bytes
  have hml : c.maxLocals = 26 := hml0
  have hown : s.vm.findClass "com/example/cranfield/cranfield/search/OccurrencesFollowedWithinPinLaw" = some m.cls := findClass_of_methodNamed Bd.named
  have hnm := (name_of_methodNamed Bd.named Bd.method).1
  have X0 : Stand p l e room_1 s m #[(.long q0), (.long q1), (.int p2), (.int p3), (.int p4), (.int p5)] below meth c s₁ [] 0 0 := Stand.of_body Bd
  have e0 : s₁.heap = h0 := by rw [← hh, Bd.state]; rfl
  have N0 := Fr.nil n0
  have pre0 : ∀ t, Steps p.tables e below (s₁.setTop (mkF m 0 #[.val (.long q0), .second, .val (.long q1), .second, .val (.int p2), .val (.int p3), .val (.int p4), .val (.int p5), .unset, .unset, .unset, .unset, .unset, .unset, .unset, .unset, .unset, .unset, .unset, .unset, .unset, .unset, .unset, .unset, .unset, .unset] [])) t → Steps p.tables e below (s₁.setTop (entryFrame m #[(.long q0), (.long q1), (.int p2), (.int p3), (.int p4), (.int p5)] maxLocals)) t := fun t k => castTop (ef_0 m q0 q1 p2 p3 p4 p5) k
  have preS : ∀ t, Steps p.tables e below (s₁.setTop (mkF m 0 #[.val (.long q0), .second, .val (.long q1), .second, .val (.int p2), .val (.int p3), .val (.int p4), .val (.int p5), .unset, .unset, .unset, .unset, .unset, .unset, .unset, .unset, .unset, .unset, .unset, .unset, .unset, .unset, .unset, .unset, .unset, .unset] [])) t → Steps p.tables e below (s₁.setTop (mkF m 0 #[.val (.long q0), .second, .val (.long q1), .second, .val (.int p2), .val (.int p3), .val (.int p4), .val (.int p5), .unset, .unset, .unset, .unset, .unset, .unset, .unset, .unset, .unset, .unset, .unset, .unset, .unset, .unset, .unset, .unset, .unset, .unset] [])) t := fun t k => k
  have KR : Keep h0 h0 [] := Keep.refl _ _
  obtain ⟨_, _, ⟨T1, L1, k1, n1⟩, -, X1, ⟨Lc1, hQ1, l1, y1, z1⟩, st1⟩ := Jvm.LawKit.callS X0 hx (y := (⟨"java/lang/Math", "min", "(II)I"⟩ : MethodName)) hown (mvT hZ (hw _ (List.mem_of_getElem? (i := 1) rfl))) (mvT hZ (hw _ (List.mem_of_getElem? (i := 2) rfl))) (mvT hZ (hw _ (List.mem_of_getElem? (i := 3) rfl))) (mvT hZ (hw _ (List.mem_of_getElem? (i := 4) rfl))) (by decide) (backOf (W := 0) (rm1 l Z a0 hw [] (q0.toInt32) (((q0.toUInt64 >>> ((32 : Int32) &&& 0x3f).toInt64.toUInt64).toInt64).toInt32)  h0 n0 Z0 ) hZ (hw _ (List.mem_of_getElem? (i := 4) rfl)) (hw _ (List.mem_of_getElem? (i := 3) rfl)) (by decide) (by decide)) (g := (mkF m 32 #[.val (.long q0), .second, .val (.long q1), .second, .val (.int p2), .val (.int p3), .val (.int p4), .val (.int p5), .val (.int ((p5 &&& (2147483647 : Int32)) % (3 : Int32))), .val (.int (((p5.toUInt32 >>> ((2 : Int32) &&& 31).toUInt32).toInt32) &&& (3 : Int32))), .val (.int (q0.toInt32)), .val (.int (((q0.toUInt64 >>> ((32 : Int32) &&& 0x3f).toInt64.toUInt64).toInt64).toInt32)), .unset, .unset, .unset, .unset, .unset, .unset, .unset, .unset, .unset, .unset, .unset, .unset, .unset, .unset] [(.int (((q0.toUInt64 >>> ((32 : Int32) &&& 0x3f).toInt64.toUInt64).toInt64).toInt32)), (.int (q0.toInt32))])) rfl (by rw [hml]; rfl) (argsL := [(.int (q0.toInt32)), (.int (((q0.toUInt64 >>> ((32 : Int32) &&& 0x3f).toInt64.toUInt64).toInt64).toInt32))]) (rest := []) (lenOf pd_1 rfl) rfl (by show 2 * 0 + _ ≤ _; exact Nat.le_of_eq rfl) (hb hby at_32) (fun _ _ => ⟨rfl, e0, (by decide : 0 + 0 ≤ _), (by decide : 0 + 0 ≤ _)⟩)
  dsimp only [Pt.U, Pt.locs, Pt.cells, Pt.slots] at X1 l1 y1 z1 st1 hQ1
  subst l1 y1 z1
  obtain ⟨rfl, Nq1, e1⟩ := hQ1
  have N1 := Fr.app N0 Nq1
  obtain ⟨_, _, ⟨T2, L2, k2, n2⟩, -, X2, ⟨Lc2, hQ2, l2, y2, z2⟩, st2⟩ := Jvm.LawKit.callS X1 hx (y := (⟨"java/lang/Math", "max", "(II)I"⟩ : MethodName)) hown (mvT hZ (hw _ (List.mem_of_getElem? (i := 5) rfl))) (mvT hZ (hw _ (List.mem_of_getElem? (i := 6) rfl))) (mvT hZ (hw _ (List.mem_of_getElem? (i := 3) rfl))) (mvT hZ (hw _ (List.mem_of_getElem? (i := 7) rfl))) (by decide) (backOf (W := 0) (rm2 l Z a0 hw [] (q0.toInt32) (((q0.toUInt64 >>> ((32 : Int32) &&& 0x3f).toInt64.toUInt64).toInt64).toInt32)  h0 n0 Z0 ) hZ (hw _ (List.mem_of_getElem? (i := 7) rfl)) (hw _ (List.mem_of_getElem? (i := 3) rfl)) (by decide) (by decide)) (g := (mkF m 41 #[.val (.long q0), .second, .val (.long q1), .second, .val (.int p2), .val (.int p3), .val (.int p4), .val (.int p5), .val (.int ((p5 &&& (2147483647 : Int32)) % (3 : Int32))), .val (.int (((p5.toUInt32 >>> ((2 : Int32) &&& 31).toUInt32).toInt32) &&& (3 : Int32))), .val (.int (q0.toInt32)), .val (.int (((q0.toUInt64 >>> ((32 : Int32) &&& 0x3f).toInt64.toUInt64).toInt64).toInt32)), .val (.int (own_min (q0.toInt32) (((q0.toUInt64 >>> ((32 : Int32) &&& 0x3f).toInt64.toUInt64).toInt64).toInt32))), .unset, .unset, .unset, .unset, .unset, .unset, .unset, .unset, .unset, .unset, .unset, .unset, .unset] [(.int (((q0.toUInt64 >>> ((32 : Int32) &&& 0x3f).toInt64.toUInt64).toInt64).toInt32)), (.int (q0.toInt32))])) rfl (by rw [hml]; rfl) (argsL := [(.int (q0.toInt32)), (.int (((q0.toUInt64 >>> ((32 : Int32) &&& 0x3f).toInt64.toUInt64).toInt64).toInt32))]) (rest := []) (lenOf pd_1 rfl) rfl (by show 2 * 0 + _ ≤ _; exact Nat.le_of_eq rfl) (hb hby at_41) (fun _ _ => ⟨rfl, e1, (by decide : 0 + 0 ≤ _), (by decide : 0 + 0 ≤ _)⟩)
  dsimp only [Pt.U, Pt.locs, Pt.cells, Pt.slots] at X2 l2 y2 z2 st2 hQ2
  subst l2 y2 z2
  obtain ⟨rfl, Nq2, e2⟩ := hQ2
  have N2 := Fr.app N1 Nq2
  obtain ⟨_, _, ⟨T3, L3, k3, n3⟩, -, X3, ⟨Lc3, hQ3, l3, y3, z3⟩, st3⟩ := Jvm.LawKit.callS X2 hx (y := (⟨"java/lang/Math", "min", "(II)I"⟩ : MethodName)) hown (mvT hZ (hw _ (List.mem_of_getElem? (i := 1) rfl))) (mvT hZ (hw _ (List.mem_of_getElem? (i := 2) rfl))) (mvT hZ (hw _ (List.mem_of_getElem? (i := 3) rfl))) (mvT hZ (hw _ (List.mem_of_getElem? (i := 4) rfl))) (by decide) (backOf (W := 0) (rm1 l Z a0 hw [] (q1.toInt32) (((q1.toUInt64 >>> ((32 : Int32) &&& 0x3f).toInt64.toUInt64).toInt64).toInt32)  h0 n0 Z0 ) hZ (hw _ (List.mem_of_getElem? (i := 4) rfl)) (hw _ (List.mem_of_getElem? (i := 3) rfl)) (by decide) (by decide)) (g := (mkF m 61 #[.val (.long q0), .second, .val (.long q1), .second, .val (.int p2), .val (.int p3), .val (.int p4), .val (.int p5), .val (.int ((p5 &&& (2147483647 : Int32)) % (3 : Int32))), .val (.int (((p5.toUInt32 >>> ((2 : Int32) &&& 31).toUInt32).toInt32) &&& (3 : Int32))), .val (.int (q0.toInt32)), .val (.int (((q0.toUInt64 >>> ((32 : Int32) &&& 0x3f).toInt64.toUInt64).toInt64).toInt32)), .val (.int (own_min (q0.toInt32) (((q0.toUInt64 >>> ((32 : Int32) &&& 0x3f).toInt64.toUInt64).toInt64).toInt32))), .val (.int (own_max (q0.toInt32) (((q0.toUInt64 >>> ((32 : Int32) &&& 0x3f).toInt64.toUInt64).toInt64).toInt32))), .val (.int (q1.toInt32)), .val (.int (((q1.toUInt64 >>> ((32 : Int32) &&& 0x3f).toInt64.toUInt64).toInt64).toInt32)), .unset, .unset, .unset, .unset, .unset, .unset, .unset, .unset, .unset, .unset] [(.int (((q1.toUInt64 >>> ((32 : Int32) &&& 0x3f).toInt64.toUInt64).toInt64).toInt32)), (.int (q1.toInt32))])) rfl (by rw [hml]; rfl) (argsL := [(.int (q1.toInt32)), (.int (((q1.toUInt64 >>> ((32 : Int32) &&& 0x3f).toInt64.toUInt64).toInt64).toInt32))]) (rest := []) (lenOf pd_1 rfl) rfl (by show 2 * 0 + _ ≤ _; exact Nat.le_of_eq rfl) (hb hby at_61) (fun _ _ => ⟨rfl, e2, (by decide : 0 + 0 ≤ _), (by decide : 0 + 0 ≤ _)⟩)
  dsimp only [Pt.U, Pt.locs, Pt.cells, Pt.slots] at X3 l3 y3 z3 st3 hQ3
  subst l3 y3 z3
  obtain ⟨rfl, Nq3, e3⟩ := hQ3
  have N3 := Fr.app N2 Nq3
  obtain ⟨_, _, ⟨T4, L4, k4, n4⟩, -, X4, ⟨Lc4, hQ4, l4, y4, z4⟩, st4⟩ := Jvm.LawKit.callS X3 hx (y := (⟨"java/lang/Math", "max", "(II)I"⟩ : MethodName)) hown (mvT hZ (hw _ (List.mem_of_getElem? (i := 5) rfl))) (mvT hZ (hw _ (List.mem_of_getElem? (i := 6) rfl))) (mvT hZ (hw _ (List.mem_of_getElem? (i := 3) rfl))) (mvT hZ (hw _ (List.mem_of_getElem? (i := 7) rfl))) (by decide) (backOf (W := 0) (rm2 l Z a0 hw [] (q1.toInt32) (((q1.toUInt64 >>> ((32 : Int32) &&& 0x3f).toInt64.toUInt64).toInt64).toInt32)  h0 n0 Z0 ) hZ (hw _ (List.mem_of_getElem? (i := 7) rfl)) (hw _ (List.mem_of_getElem? (i := 3) rfl)) (by decide) (by decide)) (g := (mkF m 70 #[.val (.long q0), .second, .val (.long q1), .second, .val (.int p2), .val (.int p3), .val (.int p4), .val (.int p5), .val (.int ((p5 &&& (2147483647 : Int32)) % (3 : Int32))), .val (.int (((p5.toUInt32 >>> ((2 : Int32) &&& 31).toUInt32).toInt32) &&& (3 : Int32))), .val (.int (q0.toInt32)), .val (.int (((q0.toUInt64 >>> ((32 : Int32) &&& 0x3f).toInt64.toUInt64).toInt64).toInt32)), .val (.int (own_min (q0.toInt32) (((q0.toUInt64 >>> ((32 : Int32) &&& 0x3f).toInt64.toUInt64).toInt64).toInt32))), .val (.int (own_max (q0.toInt32) (((q0.toUInt64 >>> ((32 : Int32) &&& 0x3f).toInt64.toUInt64).toInt64).toInt32))), .val (.int (q1.toInt32)), .val (.int (((q1.toUInt64 >>> ((32 : Int32) &&& 0x3f).toInt64.toUInt64).toInt64).toInt32)), .val (.int (own_min (q1.toInt32) (((q1.toUInt64 >>> ((32 : Int32) &&& 0x3f).toInt64.toUInt64).toInt64).toInt32))), .unset, .unset, .unset, .unset, .unset, .unset, .unset, .unset, .unset] [(.int (((q1.toUInt64 >>> ((32 : Int32) &&& 0x3f).toInt64.toUInt64).toInt64).toInt32)), (.int (q1.toInt32))])) rfl (by rw [hml]; rfl) (argsL := [(.int (q1.toInt32)), (.int (((q1.toUInt64 >>> ((32 : Int32) &&& 0x3f).toInt64.toUInt64).toInt64).toInt32))]) (rest := []) (lenOf pd_1 rfl) rfl (by show 2 * 0 + _ ≤ _; exact Nat.le_of_eq rfl) (hb hby at_70) (fun _ _ => ⟨rfl, e3, (by decide : 0 + 0 ≤ _), (by decide : 0 + 0 ≤ _)⟩)
  dsimp only [Pt.U, Pt.locs, Pt.cells, Pt.slots] at X4 l4 y4 z4 st4 hQ4
  subst l4 y4 z4
  obtain ⟨rfl, Nq4, e4⟩ := hQ4
  have N4 := Fr.app N3 Nq4
  obtain ⟨_, _, ⟨T5, L5, k5, n5⟩, -, X5, ⟨Lc5, hQ5, l5, y5, z5⟩, st5⟩ := Jvm.LawKit.callS X4 hx (y := (⟨"java/lang/Math", "min", "(II)I"⟩ : MethodName)) hown (mvT hZ (hw _ (List.mem_of_getElem? (i := 1) rfl))) (mvT hZ (hw _ (List.mem_of_getElem? (i := 2) rfl))) (mvT hZ (hw _ (List.mem_of_getElem? (i := 3) rfl))) (mvT hZ (hw _ (List.mem_of_getElem? (i := 4) rfl))) (by decide) (backOf (W := 0) (rm1 l Z a0 hw [] (own_min (q1.toInt32) (((q1.toUInt64 >>> ((32 : Int32) &&& 0x3f).toInt64.toUInt64).toInt64).toInt32)) p2  h0 n0 Z0 ) hZ (hw _ (List.mem_of_getElem? (i := 4) rfl)) (hw _ (List.mem_of_getElem? (i := 3) rfl)) (by decide) (by decide)) (g := (mkF m 79 #[.val (.long q0), .second, .val (.long q1), .second, .val (.int p2), .val (.int p3), .val (.int p4), .val (.int p5), .val (.int ((p5 &&& (2147483647 : Int32)) % (3 : Int32))), .val (.int (((p5.toUInt32 >>> ((2 : Int32) &&& 31).toUInt32).toInt32) &&& (3 : Int32))), .val (.int (q0.toInt32)), .val (.int (((q0.toUInt64 >>> ((32 : Int32) &&& 0x3f).toInt64.toUInt64).toInt64).toInt32)), .val (.int (own_min (q0.toInt32) (((q0.toUInt64 >>> ((32 : Int32) &&& 0x3f).toInt64.toUInt64).toInt64).toInt32))), .val (.int (own_max (q0.toInt32) (((q0.toUInt64 >>> ((32 : Int32) &&& 0x3f).toInt64.toUInt64).toInt64).toInt32))), .val (.int (q1.toInt32)), .val (.int (((q1.toUInt64 >>> ((32 : Int32) &&& 0x3f).toInt64.toUInt64).toInt64).toInt32)), .val (.int (own_min (q1.toInt32) (((q1.toUInt64 >>> ((32 : Int32) &&& 0x3f).toInt64.toUInt64).toInt64).toInt32))), .val (.int (own_max (q1.toInt32) (((q1.toUInt64 >>> ((32 : Int32) &&& 0x3f).toInt64.toUInt64).toInt64).toInt32))), .unset, .unset, .unset, .unset, .unset, .unset, .unset, .unset] [(.int p2), (.int (own_min (q1.toInt32) (((q1.toUInt64 >>> ((32 : Int32) &&& 0x3f).toInt64.toUInt64).toInt64).toInt32)))])) rfl (by rw [hml]; rfl) (argsL := [(.int (own_min (q1.toInt32) (((q1.toUInt64 >>> ((32 : Int32) &&& 0x3f).toInt64.toUInt64).toInt64).toInt32))), (.int p2)]) (rest := []) (lenOf pd_1 rfl) rfl (by show 2 * 0 + _ ≤ _; exact Nat.le_of_eq rfl) (hb hby at_79) (fun _ _ => ⟨rfl, e4, (by decide : 0 + 0 ≤ _), (by decide : 0 + 0 ≤ _)⟩)
  dsimp only [Pt.U, Pt.locs, Pt.cells, Pt.slots] at X5 l5 y5 z5 st5 hQ5
  subst l5 y5 z5
  obtain ⟨rfl, Nq5, e5⟩ := hQ5
  have N5 := Fr.app N4 Nq5
  obtain ⟨_, _, ⟨T6, L6, k6, n6⟩, -, X6, ⟨Lc6, hQ6, l6, y6, z6⟩, st6⟩ := Jvm.LawKit.callS X5 hx (y := (⟨"java/lang/Math", "max", "(II)I"⟩ : MethodName)) hown (mvT hZ (hw _ (List.mem_of_getElem? (i := 5) rfl))) (mvT hZ (hw _ (List.mem_of_getElem? (i := 6) rfl))) (mvT hZ (hw _ (List.mem_of_getElem? (i := 3) rfl))) (mvT hZ (hw _ (List.mem_of_getElem? (i := 7) rfl))) (by decide) (backOf (W := 0) (rm2 l Z a0 hw [] (own_min (q1.toInt32) (((q1.toUInt64 >>> ((32 : Int32) &&& 0x3f).toInt64.toUInt64).toInt64).toInt32)) p2  h0 n0 Z0 ) hZ (hw _ (List.mem_of_getElem? (i := 7) rfl)) (hw _ (List.mem_of_getElem? (i := 3) rfl)) (by decide) (by decide)) (g := (mkF m 88 #[.val (.long q0), .second, .val (.long q1), .second, .val (.int p2), .val (.int p3), .val (.int p4), .val (.int p5), .val (.int ((p5 &&& (2147483647 : Int32)) % (3 : Int32))), .val (.int (((p5.toUInt32 >>> ((2 : Int32) &&& 31).toUInt32).toInt32) &&& (3 : Int32))), .val (.int (q0.toInt32)), .val (.int (((q0.toUInt64 >>> ((32 : Int32) &&& 0x3f).toInt64.toUInt64).toInt64).toInt32)), .val (.int (own_min (q0.toInt32) (((q0.toUInt64 >>> ((32 : Int32) &&& 0x3f).toInt64.toUInt64).toInt64).toInt32))), .val (.int (own_max (q0.toInt32) (((q0.toUInt64 >>> ((32 : Int32) &&& 0x3f).toInt64.toUInt64).toInt64).toInt32))), .val (.int (q1.toInt32)), .val (.int (((q1.toUInt64 >>> ((32 : Int32) &&& 0x3f).toInt64.toUInt64).toInt64).toInt32)), .val (.int (own_min (q1.toInt32) (((q1.toUInt64 >>> ((32 : Int32) &&& 0x3f).toInt64.toUInt64).toInt64).toInt32))), .val (.int (own_max (q1.toInt32) (((q1.toUInt64 >>> ((32 : Int32) &&& 0x3f).toInt64.toUInt64).toInt64).toInt32))), .val (.int (own_min (own_min (q1.toInt32) (((q1.toUInt64 >>> ((32 : Int32) &&& 0x3f).toInt64.toUInt64).toInt64).toInt32)) p2)), .unset, .unset, .unset, .unset, .unset, .unset, .unset] [(.int p2), (.int (own_min (q1.toInt32) (((q1.toUInt64 >>> ((32 : Int32) &&& 0x3f).toInt64.toUInt64).toInt64).toInt32)))])) rfl (by rw [hml]; rfl) (argsL := [(.int (own_min (q1.toInt32) (((q1.toUInt64 >>> ((32 : Int32) &&& 0x3f).toInt64.toUInt64).toInt64).toInt32))), (.int p2)]) (rest := []) (lenOf pd_1 rfl) rfl (by show 2 * 0 + _ ≤ _; exact Nat.le_of_eq rfl) (hb hby at_88) (fun _ _ => ⟨rfl, e5, (by decide : 0 + 0 ≤ _), (by decide : 0 + 0 ≤ _)⟩)
  dsimp only [Pt.U, Pt.locs, Pt.cells, Pt.slots] at X6 l6 y6 z6 st6 hQ6
  subst l6 y6 z6
  obtain ⟨rfl, Nq6, e6⟩ := hQ6
  have N6 := Fr.app N5 Nq6
  obtain ⟨_, _, ⟨T7, L7, k7, n7⟩, -, X7, ⟨Lc7, hQ7, l7, y7, z7⟩, st7⟩ := Jvm.LawKit.callS X6 hx (y := (⟨"java/lang/Math", "min", "(II)I"⟩ : MethodName)) hown (mvT hZ (hw _ (List.mem_of_getElem? (i := 1) rfl))) (mvT hZ (hw _ (List.mem_of_getElem? (i := 2) rfl))) (mvT hZ (hw _ (List.mem_of_getElem? (i := 3) rfl))) (mvT hZ (hw _ (List.mem_of_getElem? (i := 4) rfl))) (by decide) (backOf (W := 0) (rm1 l Z a0 hw [] (own_max (q1.toInt32) (((q1.toUInt64 >>> ((32 : Int32) &&& 0x3f).toInt64.toUInt64).toInt64).toInt32)) (own_max (own_min (q1.toInt32) (((q1.toUInt64 >>> ((32 : Int32) &&& 0x3f).toInt64.toUInt64).toInt64).toInt32)) p2)  h0 n0 Z0 ) hZ (hw _ (List.mem_of_getElem? (i := 4) rfl)) (hw _ (List.mem_of_getElem? (i := 3) rfl)) (by decide) (by decide)) (g := (mkF m 97 #[.val (.long q0), .second, .val (.long q1), .second, .val (.int p2), .val (.int p3), .val (.int p4), .val (.int p5), .val (.int ((p5 &&& (2147483647 : Int32)) % (3 : Int32))), .val (.int (((p5.toUInt32 >>> ((2 : Int32) &&& 31).toUInt32).toInt32) &&& (3 : Int32))), .val (.int (q0.toInt32)), .val (.int (((q0.toUInt64 >>> ((32 : Int32) &&& 0x3f).toInt64.toUInt64).toInt64).toInt32)), .val (.int (own_min (q0.toInt32) (((q0.toUInt64 >>> ((32 : Int32) &&& 0x3f).toInt64.toUInt64).toInt64).toInt32))), .val (.int (own_max (q0.toInt32) (((q0.toUInt64 >>> ((32 : Int32) &&& 0x3f).toInt64.toUInt64).toInt64).toInt32))), .val (.int (q1.toInt32)), .val (.int (((q1.toUInt64 >>> ((32 : Int32) &&& 0x3f).toInt64.toUInt64).toInt64).toInt32)), .val (.int (own_min (q1.toInt32) (((q1.toUInt64 >>> ((32 : Int32) &&& 0x3f).toInt64.toUInt64).toInt64).toInt32))), .val (.int (own_max (q1.toInt32) (((q1.toUInt64 >>> ((32 : Int32) &&& 0x3f).toInt64.toUInt64).toInt64).toInt32))), .val (.int (own_min (own_min (q1.toInt32) (((q1.toUInt64 >>> ((32 : Int32) &&& 0x3f).toInt64.toUInt64).toInt64).toInt32)) p2)), .val (.int (own_max (own_min (q1.toInt32) (((q1.toUInt64 >>> ((32 : Int32) &&& 0x3f).toInt64.toUInt64).toInt64).toInt32)) p2)), .unset, .unset, .unset, .unset, .unset, .unset] [(.int (own_max (own_min (q1.toInt32) (((q1.toUInt64 >>> ((32 : Int32) &&& 0x3f).toInt64.toUInt64).toInt64).toInt32)) p2)), (.int (own_max (q1.toInt32) (((q1.toUInt64 >>> ((32 : Int32) &&& 0x3f).toInt64.toUInt64).toInt64).toInt32)))])) rfl (by rw [hml]; rfl) (argsL := [(.int (own_max (q1.toInt32) (((q1.toUInt64 >>> ((32 : Int32) &&& 0x3f).toInt64.toUInt64).toInt64).toInt32))), (.int (own_max (own_min (q1.toInt32) (((q1.toUInt64 >>> ((32 : Int32) &&& 0x3f).toInt64.toUInt64).toInt64).toInt32)) p2))]) (rest := []) (lenOf pd_1 rfl) rfl (by show 2 * 0 + _ ≤ _; exact Nat.le_of_eq rfl) (hb hby at_97) (fun _ _ => ⟨rfl, e6, (by decide : 0 + 0 ≤ _), (by decide : 0 + 0 ≤ _)⟩)
  dsimp only [Pt.U, Pt.locs, Pt.cells, Pt.slots] at X7 l7 y7 z7 st7 hQ7
  subst l7 y7 z7
  obtain ⟨rfl, Nq7, e7⟩ := hQ7
  have N7 := Fr.app N6 Nq7
  obtain ⟨_, _, ⟨T8, L8, k8, n8⟩, -, X8, ⟨Lc8, hQ8, l8, y8, z8⟩, st8⟩ := Jvm.LawKit.callS X7 hx (y := (⟨"java/lang/Math", "max", "(II)I"⟩ : MethodName)) hown (mvT hZ (hw _ (List.mem_of_getElem? (i := 5) rfl))) (mvT hZ (hw _ (List.mem_of_getElem? (i := 6) rfl))) (mvT hZ (hw _ (List.mem_of_getElem? (i := 3) rfl))) (mvT hZ (hw _ (List.mem_of_getElem? (i := 7) rfl))) (by decide) (backOf (W := 0) (rm2 l Z a0 hw [] (own_max (q1.toInt32) (((q1.toUInt64 >>> ((32 : Int32) &&& 0x3f).toInt64.toUInt64).toInt64).toInt32)) (own_max (own_min (q1.toInt32) (((q1.toUInt64 >>> ((32 : Int32) &&& 0x3f).toInt64.toUInt64).toInt64).toInt32)) p2)  h0 n0 Z0 ) hZ (hw _ (List.mem_of_getElem? (i := 7) rfl)) (hw _ (List.mem_of_getElem? (i := 3) rfl)) (by decide) (by decide)) (g := (mkF m 106 #[.val (.long q0), .second, .val (.long q1), .second, .val (.int p2), .val (.int p3), .val (.int p4), .val (.int p5), .val (.int ((p5 &&& (2147483647 : Int32)) % (3 : Int32))), .val (.int (((p5.toUInt32 >>> ((2 : Int32) &&& 31).toUInt32).toInt32) &&& (3 : Int32))), .val (.int (q0.toInt32)), .val (.int (((q0.toUInt64 >>> ((32 : Int32) &&& 0x3f).toInt64.toUInt64).toInt64).toInt32)), .val (.int (own_min (q0.toInt32) (((q0.toUInt64 >>> ((32 : Int32) &&& 0x3f).toInt64.toUInt64).toInt64).toInt32))), .val (.int (own_max (q0.toInt32) (((q0.toUInt64 >>> ((32 : Int32) &&& 0x3f).toInt64.toUInt64).toInt64).toInt32))), .val (.int (q1.toInt32)), .val (.int (((q1.toUInt64 >>> ((32 : Int32) &&& 0x3f).toInt64.toUInt64).toInt64).toInt32)), .val (.int (own_min (q1.toInt32) (((q1.toUInt64 >>> ((32 : Int32) &&& 0x3f).toInt64.toUInt64).toInt64).toInt32))), .val (.int (own_max (q1.toInt32) (((q1.toUInt64 >>> ((32 : Int32) &&& 0x3f).toInt64.toUInt64).toInt64).toInt32))), .val (.int (own_min (own_min (q1.toInt32) (((q1.toUInt64 >>> ((32 : Int32) &&& 0x3f).toInt64.toUInt64).toInt64).toInt32)) p2)), .val (.int (own_max (own_min (q1.toInt32) (((q1.toUInt64 >>> ((32 : Int32) &&& 0x3f).toInt64.toUInt64).toInt64).toInt32)) p2)), .val (.int (own_min (own_max (q1.toInt32) (((q1.toUInt64 >>> ((32 : Int32) &&& 0x3f).toInt64.toUInt64).toInt64).toInt32)) (own_max (own_min (q1.toInt32) (((q1.toUInt64 >>> ((32 : Int32) &&& 0x3f).toInt64.toUInt64).toInt64).toInt32)) p2))), .unset, .unset, .unset, .unset, .unset] [(.int (own_max (own_min (q1.toInt32) (((q1.toUInt64 >>> ((32 : Int32) &&& 0x3f).toInt64.toUInt64).toInt64).toInt32)) p2)), (.int (own_max (q1.toInt32) (((q1.toUInt64 >>> ((32 : Int32) &&& 0x3f).toInt64.toUInt64).toInt64).toInt32)))])) rfl (by rw [hml]; rfl) (argsL := [(.int (own_max (q1.toInt32) (((q1.toUInt64 >>> ((32 : Int32) &&& 0x3f).toInt64.toUInt64).toInt64).toInt32))), (.int (own_max (own_min (q1.toInt32) (((q1.toUInt64 >>> ((32 : Int32) &&& 0x3f).toInt64.toUInt64).toInt64).toInt32)) p2))]) (rest := []) (lenOf pd_1 rfl) rfl (by show 2 * 0 + _ ≤ _; exact Nat.le_of_eq rfl) (hb hby at_106) (fun _ _ => ⟨rfl, e7, (by decide : 0 + 0 ≤ _), (by decide : 0 + 0 ≤ _)⟩)
  dsimp only [Pt.U, Pt.locs, Pt.cells, Pt.slots] at X8 l8 y8 z8 st8 hQ8
  subst l8 y8 z8
  obtain ⟨rfl, Nq8, e8⟩ := hQ8
  have N8 := Fr.app N7 Nq8
  have pre9 : ∀ t, Steps p.tables e below (T8.setTop (mkF m 111 #[.val (.long q0), .second, .val (.long q1), .second, .val (.int p2), .val (.int p3), .val (.int p4), .val (.int p5), .val (.int ((p5 &&& (2147483647 : Int32)) % (3 : Int32))), .val (.int (((p5.toUInt32 >>> ((2 : Int32) &&& 31).toUInt32).toInt32) &&& (3 : Int32))), .val (.int (q0.toInt32)), .val (.int (((q0.toUInt64 >>> ((32 : Int32) &&& 0x3f).toInt64.toUInt64).toInt64).toInt32)), .val (.int (own_min (q0.toInt32) (((q0.toUInt64 >>> ((32 : Int32) &&& 0x3f).toInt64.toUInt64).toInt64).toInt32))), .val (.int (own_max (q0.toInt32) (((q0.toUInt64 >>> ((32 : Int32) &&& 0x3f).toInt64.toUInt64).toInt64).toInt32))), .val (.int (q1.toInt32)), .val (.int (((q1.toUInt64 >>> ((32 : Int32) &&& 0x3f).toInt64.toUInt64).toInt64).toInt32)), .val (.int (own_min (q1.toInt32) (((q1.toUInt64 >>> ((32 : Int32) &&& 0x3f).toInt64.toUInt64).toInt64).toInt32))), .val (.int (own_max (q1.toInt32) (((q1.toUInt64 >>> ((32 : Int32) &&& 0x3f).toInt64.toUInt64).toInt64).toInt32))), .val (.int (own_min (own_min (q1.toInt32) (((q1.toUInt64 >>> ((32 : Int32) &&& 0x3f).toInt64.toUInt64).toInt64).toInt32)) p2)), .val (.int (own_max (own_min (q1.toInt32) (((q1.toUInt64 >>> ((32 : Int32) &&& 0x3f).toInt64.toUInt64).toInt64).toInt32)) p2)), .val (.int (own_min (own_max (q1.toInt32) (((q1.toUInt64 >>> ((32 : Int32) &&& 0x3f).toInt64.toUInt64).toInt64).toInt32)) (own_max (own_min (q1.toInt32) (((q1.toUInt64 >>> ((32 : Int32) &&& 0x3f).toInt64.toUInt64).toInt64).toInt32)) p2))), .val (.int (own_max (own_max (q1.toInt32) (((q1.toUInt64 >>> ((32 : Int32) &&& 0x3f).toInt64.toUInt64).toInt64).toInt32)) (own_max (own_min (q1.toInt32) (((q1.toUInt64 >>> ((32 : Int32) &&& 0x3f).toInt64.toUInt64).toInt64).toInt32)) p2))), .unset, .unset, .unset, .unset] [])) t → Steps p.tables e below (s₁.setTop (mkF m 0 #[.val (.long q0), .second, .val (.long q1), .second, .val (.int p2), .val (.int p3), .val (.int p4), .val (.int p5), .unset, .unset, .unset, .unset, .unset, .unset, .unset, .unset, .unset, .unset, .unset, .unset, .unset, .unset, .unset, .unset, .unset, .unset] [])) t := fun t k => preS t (by
    show Steps p.tables e below (s₁.setTop (mkF m 0 #[.val (.long q0), .second, .val (.long q1), .second, .val (.int p2), .val (.int p3), .val (.int p4), .val (.int p5), .unset, .unset, .unset, .unset, .unset, .unset, .unset, .unset, .unset, .unset, .unset, .unset, .unset, .unset, .unset, .unset, .unset, .unset] [])) _
    refine XS.iload X0.here hx rfl (hb hby at_0) rfl ?_
    show Steps p.tables e below (s₁.setTop (mkF m 2 #[.val (.long q0), .second, .val (.long q1), .second, .val (.int p2), .val (.int p3), .val (.int p4), .val (.int p5), .unset, .unset, .unset, .unset, .unset, .unset, .unset, .unset, .unset, .unset, .unset, .unset, .unset, .unset, .unset, .unset, .unset, .unset] [(.int p5)])) _
    refine X0.ldcInt hx hown (mvT hZ (hw _ (List.mem_of_getElem? (i := 0) rfl))) (g := (mkF m 2 #[.val (.long q0), .second, .val (.long q1), .second, .val (.int p2), .val (.int p3), .val (.int p4), .val (.int p5), .unset, .unset, .unset, .unset, .unset, .unset, .unset, .unset, .unset, .unset, .unset, .unset, .unset, .unset, .unset, .unset, .unset, .unset] [(.int p5)])) rfl (hb hby at_2) _ ?_
    show Steps p.tables e below (s₁.setTop (mkF m 4 #[.val (.long q0), .second, .val (.long q1), .second, .val (.int p2), .val (.int p3), .val (.int p4), .val (.int p5), .unset, .unset, .unset, .unset, .unset, .unset, .unset, .unset, .unset, .unset, .unset, .unset, .unset, .unset, .unset, .unset, .unset, .unset] [(.int (2147483647 : Int32)), (.int p5)])) _
    refine XS.iand X0.here hx rfl (hb hby at_4) rfl ?_
    show Steps p.tables e below (s₁.setTop (mkF m 5 #[.val (.long q0), .second, .val (.long q1), .second, .val (.int p2), .val (.int p3), .val (.int p4), .val (.int p5), .unset, .unset, .unset, .unset, .unset, .unset, .unset, .unset, .unset, .unset, .unset, .unset, .unset, .unset, .unset, .unset, .unset, .unset] [(.int (p5 &&& (2147483647 : Int32)))])) _
    refine XS.iconst X0.here hx rfl (hb hby at_5) ?_
    show Steps p.tables e below (s₁.setTop (mkF m 6 #[.val (.long q0), .second, .val (.long q1), .second, .val (.int p2), .val (.int p3), .val (.int p4), .val (.int p5), .unset, .unset, .unset, .unset, .unset, .unset, .unset, .unset, .unset, .unset, .unset, .unset, .unset, .unset, .unset, .unset, .unset, .unset] [(.int (3 : Int32)), (.int (p5 &&& (2147483647 : Int32)))])) _
    refine Jvm.RoadKit.iremM (g := (mkF m 6 #[.val (.long q0), .second, .val (.long q1), .second, .val (.int p2), .val (.int p3), .val (.int p4), .val (.int p5), .unset, .unset, .unset, .unset, .unset, .unset, .unset, .unset, .unset, .unset, .unset, .unset, .unset, .unset, .unset, .unset, .unset, .unset] [(.int (3 : Int32)), (.int (p5 &&& (2147483647 : Int32)))])) X0 hx rfl (hb hby at_6) rfl (by decide) ?_
    show Steps p.tables e below (s₁.setTop (mkF m 7 #[.val (.long q0), .second, .val (.long q1), .second, .val (.int p2), .val (.int p3), .val (.int p4), .val (.int p5), .unset, .unset, .unset, .unset, .unset, .unset, .unset, .unset, .unset, .unset, .unset, .unset, .unset, .unset, .unset, .unset, .unset, .unset] [(.int ((p5 &&& (2147483647 : Int32)) % (3 : Int32)))])) _
    refine XS.istore X0.here hx rfl (hb hby at_7) rfl (l' := #[.val (.long q0), .second, .val (.long q1), .second, .val (.int p2), .val (.int p3), .val (.int p4), .val (.int p5), .val (.int ((p5 &&& (2147483647 : Int32)) % (3 : Int32))), .unset, .unset, .unset, .unset, .unset, .unset, .unset, .unset, .unset, .unset, .unset, .unset, .unset, .unset, .unset, .unset, .unset]) rfl ?_
    show Steps p.tables e below (s₁.setTop (mkF m 9 #[.val (.long q0), .second, .val (.long q1), .second, .val (.int p2), .val (.int p3), .val (.int p4), .val (.int p5), .val (.int ((p5 &&& (2147483647 : Int32)) % (3 : Int32))), .unset, .unset, .unset, .unset, .unset, .unset, .unset, .unset, .unset, .unset, .unset, .unset, .unset, .unset, .unset, .unset, .unset] [])) _
    refine XS.iload X0.here hx rfl (hb hby at_9) rfl ?_
    show Steps p.tables e below (s₁.setTop (mkF m 11 #[.val (.long q0), .second, .val (.long q1), .second, .val (.int p2), .val (.int p3), .val (.int p4), .val (.int p5), .val (.int ((p5 &&& (2147483647 : Int32)) % (3 : Int32))), .unset, .unset, .unset, .unset, .unset, .unset, .unset, .unset, .unset, .unset, .unset, .unset, .unset, .unset, .unset, .unset, .unset] [(.int p5)])) _
    refine XS.iconst X0.here hx rfl (hb hby at_11) ?_
    show Steps p.tables e below (s₁.setTop (mkF m 12 #[.val (.long q0), .second, .val (.long q1), .second, .val (.int p2), .val (.int p3), .val (.int p4), .val (.int p5), .val (.int ((p5 &&& (2147483647 : Int32)) % (3 : Int32))), .unset, .unset, .unset, .unset, .unset, .unset, .unset, .unset, .unset, .unset, .unset, .unset, .unset, .unset, .unset, .unset, .unset] [(.int (2 : Int32)), (.int p5)])) _
    refine XS.iushr X0.here hx rfl (hb hby at_12) rfl ?_
    show Steps p.tables e below (s₁.setTop (mkF m 13 #[.val (.long q0), .second, .val (.long q1), .second, .val (.int p2), .val (.int p3), .val (.int p4), .val (.int p5), .val (.int ((p5 &&& (2147483647 : Int32)) % (3 : Int32))), .unset, .unset, .unset, .unset, .unset, .unset, .unset, .unset, .unset, .unset, .unset, .unset, .unset, .unset, .unset, .unset, .unset] [(.int ((p5.toUInt32 >>> ((2 : Int32) &&& 31).toUInt32).toInt32))])) _
    refine XS.iconst X0.here hx rfl (hb hby at_13) ?_
    show Steps p.tables e below (s₁.setTop (mkF m 14 #[.val (.long q0), .second, .val (.long q1), .second, .val (.int p2), .val (.int p3), .val (.int p4), .val (.int p5), .val (.int ((p5 &&& (2147483647 : Int32)) % (3 : Int32))), .unset, .unset, .unset, .unset, .unset, .unset, .unset, .unset, .unset, .unset, .unset, .unset, .unset, .unset, .unset, .unset, .unset] [(.int (3 : Int32)), (.int ((p5.toUInt32 >>> ((2 : Int32) &&& 31).toUInt32).toInt32))])) _
    refine XS.iand X0.here hx rfl (hb hby at_14) rfl ?_
    show Steps p.tables e below (s₁.setTop (mkF m 15 #[.val (.long q0), .second, .val (.long q1), .second, .val (.int p2), .val (.int p3), .val (.int p4), .val (.int p5), .val (.int ((p5 &&& (2147483647 : Int32)) % (3 : Int32))), .unset, .unset, .unset, .unset, .unset, .unset, .unset, .unset, .unset, .unset, .unset, .unset, .unset, .unset, .unset, .unset, .unset] [(.int (((p5.toUInt32 >>> ((2 : Int32) &&& 31).toUInt32).toInt32) &&& (3 : Int32)))])) _
    refine XS.istore X0.here hx rfl (hb hby at_15) rfl (l' := #[.val (.long q0), .second, .val (.long q1), .second, .val (.int p2), .val (.int p3), .val (.int p4), .val (.int p5), .val (.int ((p5 &&& (2147483647 : Int32)) % (3 : Int32))), .val (.int (((p5.toUInt32 >>> ((2 : Int32) &&& 31).toUInt32).toInt32) &&& (3 : Int32))), .unset, .unset, .unset, .unset, .unset, .unset, .unset, .unset, .unset, .unset, .unset, .unset, .unset, .unset, .unset, .unset]) rfl ?_
    show Steps p.tables e below (s₁.setTop (mkF m 17 #[.val (.long q0), .second, .val (.long q1), .second, .val (.int p2), .val (.int p3), .val (.int p4), .val (.int p5), .val (.int ((p5 &&& (2147483647 : Int32)) % (3 : Int32))), .val (.int (((p5.toUInt32 >>> ((2 : Int32) &&& 31).toUInt32).toInt32) &&& (3 : Int32))), .unset, .unset, .unset, .unset, .unset, .unset, .unset, .unset, .unset, .unset, .unset, .unset, .unset, .unset, .unset, .unset] [])) _
    refine XS.lloadN X0.here hx rfl (hb hby at_17) rfl ?_
    show Steps p.tables e below (s₁.setTop (mkF m 18 #[.val (.long q0), .second, .val (.long q1), .second, .val (.int p2), .val (.int p3), .val (.int p4), .val (.int p5), .val (.int ((p5 &&& (2147483647 : Int32)) % (3 : Int32))), .val (.int (((p5.toUInt32 >>> ((2 : Int32) &&& 31).toUInt32).toInt32) &&& (3 : Int32))), .unset, .unset, .unset, .unset, .unset, .unset, .unset, .unset, .unset, .unset, .unset, .unset, .unset, .unset, .unset, .unset] [(.long q0)])) _
    refine XS.l2i X0.here hx rfl (hb hby at_18) rfl ?_
    show Steps p.tables e below (s₁.setTop (mkF m 19 #[.val (.long q0), .second, .val (.long q1), .second, .val (.int p2), .val (.int p3), .val (.int p4), .val (.int p5), .val (.int ((p5 &&& (2147483647 : Int32)) % (3 : Int32))), .val (.int (((p5.toUInt32 >>> ((2 : Int32) &&& 31).toUInt32).toInt32) &&& (3 : Int32))), .unset, .unset, .unset, .unset, .unset, .unset, .unset, .unset, .unset, .unset, .unset, .unset, .unset, .unset, .unset, .unset] [(.int (q0.toInt32))])) _
    refine XS.istore X0.here hx rfl (hb hby at_19) rfl (l' := #[.val (.long q0), .second, .val (.long q1), .second, .val (.int p2), .val (.int p3), .val (.int p4), .val (.int p5), .val (.int ((p5 &&& (2147483647 : Int32)) % (3 : Int32))), .val (.int (((p5.toUInt32 >>> ((2 : Int32) &&& 31).toUInt32).toInt32) &&& (3 : Int32))), .val (.int (q0.toInt32)), .unset, .unset, .unset, .unset, .unset, .unset, .unset, .unset, .unset, .unset, .unset, .unset, .unset, .unset, .unset]) rfl ?_
    show Steps p.tables e below (s₁.setTop (mkF m 21 #[.val (.long q0), .second, .val (.long q1), .second, .val (.int p2), .val (.int p3), .val (.int p4), .val (.int p5), .val (.int ((p5 &&& (2147483647 : Int32)) % (3 : Int32))), .val (.int (((p5.toUInt32 >>> ((2 : Int32) &&& 31).toUInt32).toInt32) &&& (3 : Int32))), .val (.int (q0.toInt32)), .unset, .unset, .unset, .unset, .unset, .unset, .unset, .unset, .unset, .unset, .unset, .unset, .unset, .unset, .unset] [])) _
    refine XS.lloadN X0.here hx rfl (hb hby at_21) rfl ?_
    show Steps p.tables e below (s₁.setTop (mkF m 22 #[.val (.long q0), .second, .val (.long q1), .second, .val (.int p2), .val (.int p3), .val (.int p4), .val (.int p5), .val (.int ((p5 &&& (2147483647 : Int32)) % (3 : Int32))), .val (.int (((p5.toUInt32 >>> ((2 : Int32) &&& 31).toUInt32).toInt32) &&& (3 : Int32))), .val (.int (q0.toInt32)), .unset, .unset, .unset, .unset, .unset, .unset, .unset, .unset, .unset, .unset, .unset, .unset, .unset, .unset, .unset] [(.long q0)])) _
    refine XS.bipush X0.here hx rfl (hb hby at_22) ?_
    show Steps p.tables e below (s₁.setTop (mkF m 24 #[.val (.long q0), .second, .val (.long q1), .second, .val (.int p2), .val (.int p3), .val (.int p4), .val (.int p5), .val (.int ((p5 &&& (2147483647 : Int32)) % (3 : Int32))), .val (.int (((p5.toUInt32 >>> ((2 : Int32) &&& 31).toUInt32).toInt32) &&& (3 : Int32))), .val (.int (q0.toInt32)), .unset, .unset, .unset, .unset, .unset, .unset, .unset, .unset, .unset, .unset, .unset, .unset, .unset, .unset, .unset] [(.int (32 : Int32)), (.long q0)])) _
    refine XS.lushr X0.here hx rfl (hb hby at_24) rfl ?_
    show Steps p.tables e below (s₁.setTop (mkF m 25 #[.val (.long q0), .second, .val (.long q1), .second, .val (.int p2), .val (.int p3), .val (.int p4), .val (.int p5), .val (.int ((p5 &&& (2147483647 : Int32)) % (3 : Int32))), .val (.int (((p5.toUInt32 >>> ((2 : Int32) &&& 31).toUInt32).toInt32) &&& (3 : Int32))), .val (.int (q0.toInt32)), .unset, .unset, .unset, .unset, .unset, .unset, .unset, .unset, .unset, .unset, .unset, .unset, .unset, .unset, .unset] [(.long ((q0.toUInt64 >>> ((32 : Int32) &&& 0x3f).toInt64.toUInt64).toInt64))])) _
    refine XS.l2i X0.here hx rfl (hb hby at_25) rfl ?_
    show Steps p.tables e below (s₁.setTop (mkF m 26 #[.val (.long q0), .second, .val (.long q1), .second, .val (.int p2), .val (.int p3), .val (.int p4), .val (.int p5), .val (.int ((p5 &&& (2147483647 : Int32)) % (3 : Int32))), .val (.int (((p5.toUInt32 >>> ((2 : Int32) &&& 31).toUInt32).toInt32) &&& (3 : Int32))), .val (.int (q0.toInt32)), .unset, .unset, .unset, .unset, .unset, .unset, .unset, .unset, .unset, .unset, .unset, .unset, .unset, .unset, .unset] [(.int (((q0.toUInt64 >>> ((32 : Int32) &&& 0x3f).toInt64.toUInt64).toInt64).toInt32))])) _
    refine XS.istore X0.here hx rfl (hb hby at_26) rfl (l' := #[.val (.long q0), .second, .val (.long q1), .second, .val (.int p2), .val (.int p3), .val (.int p4), .val (.int p5), .val (.int ((p5 &&& (2147483647 : Int32)) % (3 : Int32))), .val (.int (((p5.toUInt32 >>> ((2 : Int32) &&& 31).toUInt32).toInt32) &&& (3 : Int32))), .val (.int (q0.toInt32)), .val (.int (((q0.toUInt64 >>> ((32 : Int32) &&& 0x3f).toInt64.toUInt64).toInt64).toInt32)), .unset, .unset, .unset, .unset, .unset, .unset, .unset, .unset, .unset, .unset, .unset, .unset, .unset, .unset]) rfl ?_
    show Steps p.tables e below (s₁.setTop (mkF m 28 #[.val (.long q0), .second, .val (.long q1), .second, .val (.int p2), .val (.int p3), .val (.int p4), .val (.int p5), .val (.int ((p5 &&& (2147483647 : Int32)) % (3 : Int32))), .val (.int (((p5.toUInt32 >>> ((2 : Int32) &&& 31).toUInt32).toInt32) &&& (3 : Int32))), .val (.int (q0.toInt32)), .val (.int (((q0.toUInt64 >>> ((32 : Int32) &&& 0x3f).toInt64.toUInt64).toInt64).toInt32)), .unset, .unset, .unset, .unset, .unset, .unset, .unset, .unset, .unset, .unset, .unset, .unset, .unset, .unset] [])) _
    refine XS.iload X0.here hx rfl (hb hby at_28) rfl ?_
    show Steps p.tables e below (s₁.setTop (mkF m 30 #[.val (.long q0), .second, .val (.long q1), .second, .val (.int p2), .val (.int p3), .val (.int p4), .val (.int p5), .val (.int ((p5 &&& (2147483647 : Int32)) % (3 : Int32))), .val (.int (((p5.toUInt32 >>> ((2 : Int32) &&& 31).toUInt32).toInt32) &&& (3 : Int32))), .val (.int (q0.toInt32)), .val (.int (((q0.toUInt64 >>> ((32 : Int32) &&& 0x3f).toInt64.toUInt64).toInt64).toInt32)), .unset, .unset, .unset, .unset, .unset, .unset, .unset, .unset, .unset, .unset, .unset, .unset, .unset, .unset] [(.int (q0.toInt32))])) _
    refine XS.iload X0.here hx rfl (hb hby at_30) rfl ?_
    show Steps p.tables e below (s₁.setTop (mkF m 32 #[.val (.long q0), .second, .val (.long q1), .second, .val (.int p2), .val (.int p3), .val (.int p4), .val (.int p5), .val (.int ((p5 &&& (2147483647 : Int32)) % (3 : Int32))), .val (.int (((p5.toUInt32 >>> ((2 : Int32) &&& 31).toUInt32).toInt32) &&& (3 : Int32))), .val (.int (q0.toInt32)), .val (.int (((q0.toUInt64 >>> ((32 : Int32) &&& 0x3f).toInt64.toUInt64).toInt64).toInt32)), .unset, .unset, .unset, .unset, .unset, .unset, .unset, .unset, .unset, .unset, .unset, .unset, .unset, .unset] [(.int (((q0.toUInt64 >>> ((32 : Int32) &&& 0x3f).toInt64.toUInt64).toInt64).toInt32)), (.int (q0.toInt32))])) _
    refine st1 _ ?_
    show Steps p.tables e below (T1.setTop (mkF m 35 #[.val (.long q0), .second, .val (.long q1), .second, .val (.int p2), .val (.int p3), .val (.int p4), .val (.int p5), .val (.int ((p5 &&& (2147483647 : Int32)) % (3 : Int32))), .val (.int (((p5.toUInt32 >>> ((2 : Int32) &&& 31).toUInt32).toInt32) &&& (3 : Int32))), .val (.int (q0.toInt32)), .val (.int (((q0.toUInt64 >>> ((32 : Int32) &&& 0x3f).toInt64.toUInt64).toInt64).toInt32)), .unset, .unset, .unset, .unset, .unset, .unset, .unset, .unset, .unset, .unset, .unset, .unset, .unset, .unset] [(.int (own_min (q0.toInt32) (((q0.toUInt64 >>> ((32 : Int32) &&& 0x3f).toInt64.toUInt64).toInt64).toInt32)))])) _
    refine XS.istore X1.here hx rfl (hb hby at_35) rfl (l' := #[.val (.long q0), .second, .val (.long q1), .second, .val (.int p2), .val (.int p3), .val (.int p4), .val (.int p5), .val (.int ((p5 &&& (2147483647 : Int32)) % (3 : Int32))), .val (.int (((p5.toUInt32 >>> ((2 : Int32) &&& 31).toUInt32).toInt32) &&& (3 : Int32))), .val (.int (q0.toInt32)), .val (.int (((q0.toUInt64 >>> ((32 : Int32) &&& 0x3f).toInt64.toUInt64).toInt64).toInt32)), .val (.int (own_min (q0.toInt32) (((q0.toUInt64 >>> ((32 : Int32) &&& 0x3f).toInt64.toUInt64).toInt64).toInt32))), .unset, .unset, .unset, .unset, .unset, .unset, .unset, .unset, .unset, .unset, .unset, .unset, .unset]) rfl ?_
    show Steps p.tables e below (T1.setTop (mkF m 37 #[.val (.long q0), .second, .val (.long q1), .second, .val (.int p2), .val (.int p3), .val (.int p4), .val (.int p5), .val (.int ((p5 &&& (2147483647 : Int32)) % (3 : Int32))), .val (.int (((p5.toUInt32 >>> ((2 : Int32) &&& 31).toUInt32).toInt32) &&& (3 : Int32))), .val (.int (q0.toInt32)), .val (.int (((q0.toUInt64 >>> ((32 : Int32) &&& 0x3f).toInt64.toUInt64).toInt64).toInt32)), .val (.int (own_min (q0.toInt32) (((q0.toUInt64 >>> ((32 : Int32) &&& 0x3f).toInt64.toUInt64).toInt64).toInt32))), .unset, .unset, .unset, .unset, .unset, .unset, .unset, .unset, .unset, .unset, .unset, .unset, .unset] [])) _
    refine XS.iload X1.here hx rfl (hb hby at_37) rfl ?_
    show Steps p.tables e below (T1.setTop (mkF m 39 #[.val (.long q0), .second, .val (.long q1), .second, .val (.int p2), .val (.int p3), .val (.int p4), .val (.int p5), .val (.int ((p5 &&& (2147483647 : Int32)) % (3 : Int32))), .val (.int (((p5.toUInt32 >>> ((2 : Int32) &&& 31).toUInt32).toInt32) &&& (3 : Int32))), .val (.int (q0.toInt32)), .val (.int (((q0.toUInt64 >>> ((32 : Int32) &&& 0x3f).toInt64.toUInt64).toInt64).toInt32)), .val (.int (own_min (q0.toInt32) (((q0.toUInt64 >>> ((32 : Int32) &&& 0x3f).toInt64.toUInt64).toInt64).toInt32))), .unset, .unset, .unset, .unset, .unset, .unset, .unset, .unset, .unset, .unset, .unset, .unset, .unset] [(.int (q0.toInt32))])) _
    refine XS.iload X1.here hx rfl (hb hby at_39) rfl ?_
    show Steps p.tables e below (T1.setTop (mkF m 41 #[.val (.long q0), .second, .val (.long q1), .second, .val (.int p2), .val (.int p3), .val (.int p4), .val (.int p5), .val (.int ((p5 &&& (2147483647 : Int32)) % (3 : Int32))), .val (.int (((p5.toUInt32 >>> ((2 : Int32) &&& 31).toUInt32).toInt32) &&& (3 : Int32))), .val (.int (q0.toInt32)), .val (.int (((q0.toUInt64 >>> ((32 : Int32) &&& 0x3f).toInt64.toUInt64).toInt64).toInt32)), .val (.int (own_min (q0.toInt32) (((q0.toUInt64 >>> ((32 : Int32) &&& 0x3f).toInt64.toUInt64).toInt64).toInt32))), .unset, .unset, .unset, .unset, .unset, .unset, .unset, .unset, .unset, .unset, .unset, .unset, .unset] [(.int (((q0.toUInt64 >>> ((32 : Int32) &&& 0x3f).toInt64.toUInt64).toInt64).toInt32)), (.int (q0.toInt32))])) _
    refine st2 _ ?_
    show Steps p.tables e below (T2.setTop (mkF m 44 #[.val (.long q0), .second, .val (.long q1), .second, .val (.int p2), .val (.int p3), .val (.int p4), .val (.int p5), .val (.int ((p5 &&& (2147483647 : Int32)) % (3 : Int32))), .val (.int (((p5.toUInt32 >>> ((2 : Int32) &&& 31).toUInt32).toInt32) &&& (3 : Int32))), .val (.int (q0.toInt32)), .val (.int (((q0.toUInt64 >>> ((32 : Int32) &&& 0x3f).toInt64.toUInt64).toInt64).toInt32)), .val (.int (own_min (q0.toInt32) (((q0.toUInt64 >>> ((32 : Int32) &&& 0x3f).toInt64.toUInt64).toInt64).toInt32))), .unset, .unset, .unset, .unset, .unset, .unset, .unset, .unset, .unset, .unset, .unset, .unset, .unset] [(.int (own_max (q0.toInt32) (((q0.toUInt64 >>> ((32 : Int32) &&& 0x3f).toInt64.toUInt64).toInt64).toInt32)))])) _
    refine XS.istore X2.here hx rfl (hb hby at_44) rfl (l' := #[.val (.long q0), .second, .val (.long q1), .second, .val (.int p2), .val (.int p3), .val (.int p4), .val (.int p5), .val (.int ((p5 &&& (2147483647 : Int32)) % (3 : Int32))), .val (.int (((p5.toUInt32 >>> ((2 : Int32) &&& 31).toUInt32).toInt32) &&& (3 : Int32))), .val (.int (q0.toInt32)), .val (.int (((q0.toUInt64 >>> ((32 : Int32) &&& 0x3f).toInt64.toUInt64).toInt64).toInt32)), .val (.int (own_min (q0.toInt32) (((q0.toUInt64 >>> ((32 : Int32) &&& 0x3f).toInt64.toUInt64).toInt64).toInt32))), .val (.int (own_max (q0.toInt32) (((q0.toUInt64 >>> ((32 : Int32) &&& 0x3f).toInt64.toUInt64).toInt64).toInt32))), .unset, .unset, .unset, .unset, .unset, .unset, .unset, .unset, .unset, .unset, .unset, .unset]) rfl ?_
    show Steps p.tables e below (T2.setTop (mkF m 46 #[.val (.long q0), .second, .val (.long q1), .second, .val (.int p2), .val (.int p3), .val (.int p4), .val (.int p5), .val (.int ((p5 &&& (2147483647 : Int32)) % (3 : Int32))), .val (.int (((p5.toUInt32 >>> ((2 : Int32) &&& 31).toUInt32).toInt32) &&& (3 : Int32))), .val (.int (q0.toInt32)), .val (.int (((q0.toUInt64 >>> ((32 : Int32) &&& 0x3f).toInt64.toUInt64).toInt64).toInt32)), .val (.int (own_min (q0.toInt32) (((q0.toUInt64 >>> ((32 : Int32) &&& 0x3f).toInt64.toUInt64).toInt64).toInt32))), .val (.int (own_max (q0.toInt32) (((q0.toUInt64 >>> ((32 : Int32) &&& 0x3f).toInt64.toUInt64).toInt64).toInt32))), .unset, .unset, .unset, .unset, .unset, .unset, .unset, .unset, .unset, .unset, .unset, .unset] [])) _
    refine XS.lloadN X2.here hx rfl (hb hby at_46) rfl ?_
    show Steps p.tables e below (T2.setTop (mkF m 47 #[.val (.long q0), .second, .val (.long q1), .second, .val (.int p2), .val (.int p3), .val (.int p4), .val (.int p5), .val (.int ((p5 &&& (2147483647 : Int32)) % (3 : Int32))), .val (.int (((p5.toUInt32 >>> ((2 : Int32) &&& 31).toUInt32).toInt32) &&& (3 : Int32))), .val (.int (q0.toInt32)), .val (.int (((q0.toUInt64 >>> ((32 : Int32) &&& 0x3f).toInt64.toUInt64).toInt64).toInt32)), .val (.int (own_min (q0.toInt32) (((q0.toUInt64 >>> ((32 : Int32) &&& 0x3f).toInt64.toUInt64).toInt64).toInt32))), .val (.int (own_max (q0.toInt32) (((q0.toUInt64 >>> ((32 : Int32) &&& 0x3f).toInt64.toUInt64).toInt64).toInt32))), .unset, .unset, .unset, .unset, .unset, .unset, .unset, .unset, .unset, .unset, .unset, .unset] [(.long q1)])) _
    refine XS.l2i X2.here hx rfl (hb hby at_47) rfl ?_
    show Steps p.tables e below (T2.setTop (mkF m 48 #[.val (.long q0), .second, .val (.long q1), .second, .val (.int p2), .val (.int p3), .val (.int p4), .val (.int p5), .val (.int ((p5 &&& (2147483647 : Int32)) % (3 : Int32))), .val (.int (((p5.toUInt32 >>> ((2 : Int32) &&& 31).toUInt32).toInt32) &&& (3 : Int32))), .val (.int (q0.toInt32)), .val (.int (((q0.toUInt64 >>> ((32 : Int32) &&& 0x3f).toInt64.toUInt64).toInt64).toInt32)), .val (.int (own_min (q0.toInt32) (((q0.toUInt64 >>> ((32 : Int32) &&& 0x3f).toInt64.toUInt64).toInt64).toInt32))), .val (.int (own_max (q0.toInt32) (((q0.toUInt64 >>> ((32 : Int32) &&& 0x3f).toInt64.toUInt64).toInt64).toInt32))), .unset, .unset, .unset, .unset, .unset, .unset, .unset, .unset, .unset, .unset, .unset, .unset] [(.int (q1.toInt32))])) _
    refine XS.istore X2.here hx rfl (hb hby at_48) rfl (l' := #[.val (.long q0), .second, .val (.long q1), .second, .val (.int p2), .val (.int p3), .val (.int p4), .val (.int p5), .val (.int ((p5 &&& (2147483647 : Int32)) % (3 : Int32))), .val (.int (((p5.toUInt32 >>> ((2 : Int32) &&& 31).toUInt32).toInt32) &&& (3 : Int32))), .val (.int (q0.toInt32)), .val (.int (((q0.toUInt64 >>> ((32 : Int32) &&& 0x3f).toInt64.toUInt64).toInt64).toInt32)), .val (.int (own_min (q0.toInt32) (((q0.toUInt64 >>> ((32 : Int32) &&& 0x3f).toInt64.toUInt64).toInt64).toInt32))), .val (.int (own_max (q0.toInt32) (((q0.toUInt64 >>> ((32 : Int32) &&& 0x3f).toInt64.toUInt64).toInt64).toInt32))), .val (.int (q1.toInt32)), .unset, .unset, .unset, .unset, .unset, .unset, .unset, .unset, .unset, .unset, .unset]) rfl ?_
    show Steps p.tables e below (T2.setTop (mkF m 50 #[.val (.long q0), .second, .val (.long q1), .second, .val (.int p2), .val (.int p3), .val (.int p4), .val (.int p5), .val (.int ((p5 &&& (2147483647 : Int32)) % (3 : Int32))), .val (.int (((p5.toUInt32 >>> ((2 : Int32) &&& 31).toUInt32).toInt32) &&& (3 : Int32))), .val (.int (q0.toInt32)), .val (.int (((q0.toUInt64 >>> ((32 : Int32) &&& 0x3f).toInt64.toUInt64).toInt64).toInt32)), .val (.int (own_min (q0.toInt32) (((q0.toUInt64 >>> ((32 : Int32) &&& 0x3f).toInt64.toUInt64).toInt64).toInt32))), .val (.int (own_max (q0.toInt32) (((q0.toUInt64 >>> ((32 : Int32) &&& 0x3f).toInt64.toUInt64).toInt64).toInt32))), .val (.int (q1.toInt32)), .unset, .unset, .unset, .unset, .unset, .unset, .unset, .unset, .unset, .unset, .unset] [])) _
    refine XS.lloadN X2.here hx rfl (hb hby at_50) rfl ?_
    show Steps p.tables e below (T2.setTop (mkF m 51 #[.val (.long q0), .second, .val (.long q1), .second, .val (.int p2), .val (.int p3), .val (.int p4), .val (.int p5), .val (.int ((p5 &&& (2147483647 : Int32)) % (3 : Int32))), .val (.int (((p5.toUInt32 >>> ((2 : Int32) &&& 31).toUInt32).toInt32) &&& (3 : Int32))), .val (.int (q0.toInt32)), .val (.int (((q0.toUInt64 >>> ((32 : Int32) &&& 0x3f).toInt64.toUInt64).toInt64).toInt32)), .val (.int (own_min (q0.toInt32) (((q0.toUInt64 >>> ((32 : Int32) &&& 0x3f).toInt64.toUInt64).toInt64).toInt32))), .val (.int (own_max (q0.toInt32) (((q0.toUInt64 >>> ((32 : Int32) &&& 0x3f).toInt64.toUInt64).toInt64).toInt32))), .val (.int (q1.toInt32)), .unset, .unset, .unset, .unset, .unset, .unset, .unset, .unset, .unset, .unset, .unset] [(.long q1)])) _
    refine XS.bipush X2.here hx rfl (hb hby at_51) ?_
    show Steps p.tables e below (T2.setTop (mkF m 53 #[.val (.long q0), .second, .val (.long q1), .second, .val (.int p2), .val (.int p3), .val (.int p4), .val (.int p5), .val (.int ((p5 &&& (2147483647 : Int32)) % (3 : Int32))), .val (.int (((p5.toUInt32 >>> ((2 : Int32) &&& 31).toUInt32).toInt32) &&& (3 : Int32))), .val (.int (q0.toInt32)), .val (.int (((q0.toUInt64 >>> ((32 : Int32) &&& 0x3f).toInt64.toUInt64).toInt64).toInt32)), .val (.int (own_min (q0.toInt32) (((q0.toUInt64 >>> ((32 : Int32) &&& 0x3f).toInt64.toUInt64).toInt64).toInt32))), .val (.int (own_max (q0.toInt32) (((q0.toUInt64 >>> ((32 : Int32) &&& 0x3f).toInt64.toUInt64).toInt64).toInt32))), .val (.int (q1.toInt32)), .unset, .unset, .unset, .unset, .unset, .unset, .unset, .unset, .unset, .unset, .unset] [(.int (32 : Int32)), (.long q1)])) _
    refine XS.lushr X2.here hx rfl (hb hby at_53) rfl ?_
    show Steps p.tables e below (T2.setTop (mkF m 54 #[.val (.long q0), .second, .val (.long q1), .second, .val (.int p2), .val (.int p3), .val (.int p4), .val (.int p5), .val (.int ((p5 &&& (2147483647 : Int32)) % (3 : Int32))), .val (.int (((p5.toUInt32 >>> ((2 : Int32) &&& 31).toUInt32).toInt32) &&& (3 : Int32))), .val (.int (q0.toInt32)), .val (.int (((q0.toUInt64 >>> ((32 : Int32) &&& 0x3f).toInt64.toUInt64).toInt64).toInt32)), .val (.int (own_min (q0.toInt32) (((q0.toUInt64 >>> ((32 : Int32) &&& 0x3f).toInt64.toUInt64).toInt64).toInt32))), .val (.int (own_max (q0.toInt32) (((q0.toUInt64 >>> ((32 : Int32) &&& 0x3f).toInt64.toUInt64).toInt64).toInt32))), .val (.int (q1.toInt32)), .unset, .unset, .unset, .unset, .unset, .unset, .unset, .unset, .unset, .unset, .unset] [(.long ((q1.toUInt64 >>> ((32 : Int32) &&& 0x3f).toInt64.toUInt64).toInt64))])) _
    refine XS.l2i X2.here hx rfl (hb hby at_54) rfl ?_
    show Steps p.tables e below (T2.setTop (mkF m 55 #[.val (.long q0), .second, .val (.long q1), .second, .val (.int p2), .val (.int p3), .val (.int p4), .val (.int p5), .val (.int ((p5 &&& (2147483647 : Int32)) % (3 : Int32))), .val (.int (((p5.toUInt32 >>> ((2 : Int32) &&& 31).toUInt32).toInt32) &&& (3 : Int32))), .val (.int (q0.toInt32)), .val (.int (((q0.toUInt64 >>> ((32 : Int32) &&& 0x3f).toInt64.toUInt64).toInt64).toInt32)), .val (.int (own_min (q0.toInt32) (((q0.toUInt64 >>> ((32 : Int32) &&& 0x3f).toInt64.toUInt64).toInt64).toInt32))), .val (.int (own_max (q0.toInt32) (((q0.toUInt64 >>> ((32 : Int32) &&& 0x3f).toInt64.toUInt64).toInt64).toInt32))), .val (.int (q1.toInt32)), .unset, .unset, .unset, .unset, .unset, .unset, .unset, .unset, .unset, .unset, .unset] [(.int (((q1.toUInt64 >>> ((32 : Int32) &&& 0x3f).toInt64.toUInt64).toInt64).toInt32))])) _
    refine XS.istore X2.here hx rfl (hb hby at_55) rfl (l' := #[.val (.long q0), .second, .val (.long q1), .second, .val (.int p2), .val (.int p3), .val (.int p4), .val (.int p5), .val (.int ((p5 &&& (2147483647 : Int32)) % (3 : Int32))), .val (.int (((p5.toUInt32 >>> ((2 : Int32) &&& 31).toUInt32).toInt32) &&& (3 : Int32))), .val (.int (q0.toInt32)), .val (.int (((q0.toUInt64 >>> ((32 : Int32) &&& 0x3f).toInt64.toUInt64).toInt64).toInt32)), .val (.int (own_min (q0.toInt32) (((q0.toUInt64 >>> ((32 : Int32) &&& 0x3f).toInt64.toUInt64).toInt64).toInt32))), .val (.int (own_max (q0.toInt32) (((q0.toUInt64 >>> ((32 : Int32) &&& 0x3f).toInt64.toUInt64).toInt64).toInt32))), .val (.int (q1.toInt32)), .val (.int (((q1.toUInt64 >>> ((32 : Int32) &&& 0x3f).toInt64.toUInt64).toInt64).toInt32)), .unset, .unset, .unset, .unset, .unset, .unset, .unset, .unset, .unset, .unset]) rfl ?_
    show Steps p.tables e below (T2.setTop (mkF m 57 #[.val (.long q0), .second, .val (.long q1), .second, .val (.int p2), .val (.int p3), .val (.int p4), .val (.int p5), .val (.int ((p5 &&& (2147483647 : Int32)) % (3 : Int32))), .val (.int (((p5.toUInt32 >>> ((2 : Int32) &&& 31).toUInt32).toInt32) &&& (3 : Int32))), .val (.int (q0.toInt32)), .val (.int (((q0.toUInt64 >>> ((32 : Int32) &&& 0x3f).toInt64.toUInt64).toInt64).toInt32)), .val (.int (own_min (q0.toInt32) (((q0.toUInt64 >>> ((32 : Int32) &&& 0x3f).toInt64.toUInt64).toInt64).toInt32))), .val (.int (own_max (q0.toInt32) (((q0.toUInt64 >>> ((32 : Int32) &&& 0x3f).toInt64.toUInt64).toInt64).toInt32))), .val (.int (q1.toInt32)), .val (.int (((q1.toUInt64 >>> ((32 : Int32) &&& 0x3f).toInt64.toUInt64).toInt64).toInt32)), .unset, .unset, .unset, .unset, .unset, .unset, .unset, .unset, .unset, .unset] [])) _
    refine XS.iload X2.here hx rfl (hb hby at_57) rfl ?_
    show Steps p.tables e below (T2.setTop (mkF m 59 #[.val (.long q0), .second, .val (.long q1), .second, .val (.int p2), .val (.int p3), .val (.int p4), .val (.int p5), .val (.int ((p5 &&& (2147483647 : Int32)) % (3 : Int32))), .val (.int (((p5.toUInt32 >>> ((2 : Int32) &&& 31).toUInt32).toInt32) &&& (3 : Int32))), .val (.int (q0.toInt32)), .val (.int (((q0.toUInt64 >>> ((32 : Int32) &&& 0x3f).toInt64.toUInt64).toInt64).toInt32)), .val (.int (own_min (q0.toInt32) (((q0.toUInt64 >>> ((32 : Int32) &&& 0x3f).toInt64.toUInt64).toInt64).toInt32))), .val (.int (own_max (q0.toInt32) (((q0.toUInt64 >>> ((32 : Int32) &&& 0x3f).toInt64.toUInt64).toInt64).toInt32))), .val (.int (q1.toInt32)), .val (.int (((q1.toUInt64 >>> ((32 : Int32) &&& 0x3f).toInt64.toUInt64).toInt64).toInt32)), .unset, .unset, .unset, .unset, .unset, .unset, .unset, .unset, .unset, .unset] [(.int (q1.toInt32))])) _
    refine XS.iload X2.here hx rfl (hb hby at_59) rfl ?_
    show Steps p.tables e below (T2.setTop (mkF m 61 #[.val (.long q0), .second, .val (.long q1), .second, .val (.int p2), .val (.int p3), .val (.int p4), .val (.int p5), .val (.int ((p5 &&& (2147483647 : Int32)) % (3 : Int32))), .val (.int (((p5.toUInt32 >>> ((2 : Int32) &&& 31).toUInt32).toInt32) &&& (3 : Int32))), .val (.int (q0.toInt32)), .val (.int (((q0.toUInt64 >>> ((32 : Int32) &&& 0x3f).toInt64.toUInt64).toInt64).toInt32)), .val (.int (own_min (q0.toInt32) (((q0.toUInt64 >>> ((32 : Int32) &&& 0x3f).toInt64.toUInt64).toInt64).toInt32))), .val (.int (own_max (q0.toInt32) (((q0.toUInt64 >>> ((32 : Int32) &&& 0x3f).toInt64.toUInt64).toInt64).toInt32))), .val (.int (q1.toInt32)), .val (.int (((q1.toUInt64 >>> ((32 : Int32) &&& 0x3f).toInt64.toUInt64).toInt64).toInt32)), .unset, .unset, .unset, .unset, .unset, .unset, .unset, .unset, .unset, .unset] [(.int (((q1.toUInt64 >>> ((32 : Int32) &&& 0x3f).toInt64.toUInt64).toInt64).toInt32)), (.int (q1.toInt32))])) _
    refine st3 _ ?_
    show Steps p.tables e below (T3.setTop (mkF m 64 #[.val (.long q0), .second, .val (.long q1), .second, .val (.int p2), .val (.int p3), .val (.int p4), .val (.int p5), .val (.int ((p5 &&& (2147483647 : Int32)) % (3 : Int32))), .val (.int (((p5.toUInt32 >>> ((2 : Int32) &&& 31).toUInt32).toInt32) &&& (3 : Int32))), .val (.int (q0.toInt32)), .val (.int (((q0.toUInt64 >>> ((32 : Int32) &&& 0x3f).toInt64.toUInt64).toInt64).toInt32)), .val (.int (own_min (q0.toInt32) (((q0.toUInt64 >>> ((32 : Int32) &&& 0x3f).toInt64.toUInt64).toInt64).toInt32))), .val (.int (own_max (q0.toInt32) (((q0.toUInt64 >>> ((32 : Int32) &&& 0x3f).toInt64.toUInt64).toInt64).toInt32))), .val (.int (q1.toInt32)), .val (.int (((q1.toUInt64 >>> ((32 : Int32) &&& 0x3f).toInt64.toUInt64).toInt64).toInt32)), .unset, .unset, .unset, .unset, .unset, .unset, .unset, .unset, .unset, .unset] [(.int (own_min (q1.toInt32) (((q1.toUInt64 >>> ((32 : Int32) &&& 0x3f).toInt64.toUInt64).toInt64).toInt32)))])) _
    refine XS.istore X3.here hx rfl (hb hby at_64) rfl (l' := #[.val (.long q0), .second, .val (.long q1), .second, .val (.int p2), .val (.int p3), .val (.int p4), .val (.int p5), .val (.int ((p5 &&& (2147483647 : Int32)) % (3 : Int32))), .val (.int (((p5.toUInt32 >>> ((2 : Int32) &&& 31).toUInt32).toInt32) &&& (3 : Int32))), .val (.int (q0.toInt32)), .val (.int (((q0.toUInt64 >>> ((32 : Int32) &&& 0x3f).toInt64.toUInt64).toInt64).toInt32)), .val (.int (own_min (q0.toInt32) (((q0.toUInt64 >>> ((32 : Int32) &&& 0x3f).toInt64.toUInt64).toInt64).toInt32))), .val (.int (own_max (q0.toInt32) (((q0.toUInt64 >>> ((32 : Int32) &&& 0x3f).toInt64.toUInt64).toInt64).toInt32))), .val (.int (q1.toInt32)), .val (.int (((q1.toUInt64 >>> ((32 : Int32) &&& 0x3f).toInt64.toUInt64).toInt64).toInt32)), .val (.int (own_min (q1.toInt32) (((q1.toUInt64 >>> ((32 : Int32) &&& 0x3f).toInt64.toUInt64).toInt64).toInt32))), .unset, .unset, .unset, .unset, .unset, .unset, .unset, .unset, .unset]) rfl ?_
    show Steps p.tables e below (T3.setTop (mkF m 66 #[.val (.long q0), .second, .val (.long q1), .second, .val (.int p2), .val (.int p3), .val (.int p4), .val (.int p5), .val (.int ((p5 &&& (2147483647 : Int32)) % (3 : Int32))), .val (.int (((p5.toUInt32 >>> ((2 : Int32) &&& 31).toUInt32).toInt32) &&& (3 : Int32))), .val (.int (q0.toInt32)), .val (.int (((q0.toUInt64 >>> ((32 : Int32) &&& 0x3f).toInt64.toUInt64).toInt64).toInt32)), .val (.int (own_min (q0.toInt32) (((q0.toUInt64 >>> ((32 : Int32) &&& 0x3f).toInt64.toUInt64).toInt64).toInt32))), .val (.int (own_max (q0.toInt32) (((q0.toUInt64 >>> ((32 : Int32) &&& 0x3f).toInt64.toUInt64).toInt64).toInt32))), .val (.int (q1.toInt32)), .val (.int (((q1.toUInt64 >>> ((32 : Int32) &&& 0x3f).toInt64.toUInt64).toInt64).toInt32)), .val (.int (own_min (q1.toInt32) (((q1.toUInt64 >>> ((32 : Int32) &&& 0x3f).toInt64.toUInt64).toInt64).toInt32))), .unset, .unset, .unset, .unset, .unset, .unset, .unset, .unset, .unset] [])) _
    refine XS.iload X3.here hx rfl (hb hby at_66) rfl ?_
    show Steps p.tables e below (T3.setTop (mkF m 68 #[.val (.long q0), .second, .val (.long q1), .second, .val (.int p2), .val (.int p3), .val (.int p4), .val (.int p5), .val (.int ((p5 &&& (2147483647 : Int32)) % (3 : Int32))), .val (.int (((p5.toUInt32 >>> ((2 : Int32) &&& 31).toUInt32).toInt32) &&& (3 : Int32))), .val (.int (q0.toInt32)), .val (.int (((q0.toUInt64 >>> ((32 : Int32) &&& 0x3f).toInt64.toUInt64).toInt64).toInt32)), .val (.int (own_min (q0.toInt32) (((q0.toUInt64 >>> ((32 : Int32) &&& 0x3f).toInt64.toUInt64).toInt64).toInt32))), .val (.int (own_max (q0.toInt32) (((q0.toUInt64 >>> ((32 : Int32) &&& 0x3f).toInt64.toUInt64).toInt64).toInt32))), .val (.int (q1.toInt32)), .val (.int (((q1.toUInt64 >>> ((32 : Int32) &&& 0x3f).toInt64.toUInt64).toInt64).toInt32)), .val (.int (own_min (q1.toInt32) (((q1.toUInt64 >>> ((32 : Int32) &&& 0x3f).toInt64.toUInt64).toInt64).toInt32))), .unset, .unset, .unset, .unset, .unset, .unset, .unset, .unset, .unset] [(.int (q1.toInt32))])) _
    refine XS.iload X3.here hx rfl (hb hby at_68) rfl ?_
    show Steps p.tables e below (T3.setTop (mkF m 70 #[.val (.long q0), .second, .val (.long q1), .second, .val (.int p2), .val (.int p3), .val (.int p4), .val (.int p5), .val (.int ((p5 &&& (2147483647 : Int32)) % (3 : Int32))), .val (.int (((p5.toUInt32 >>> ((2 : Int32) &&& 31).toUInt32).toInt32) &&& (3 : Int32))), .val (.int (q0.toInt32)), .val (.int (((q0.toUInt64 >>> ((32 : Int32) &&& 0x3f).toInt64.toUInt64).toInt64).toInt32)), .val (.int (own_min (q0.toInt32) (((q0.toUInt64 >>> ((32 : Int32) &&& 0x3f).toInt64.toUInt64).toInt64).toInt32))), .val (.int (own_max (q0.toInt32) (((q0.toUInt64 >>> ((32 : Int32) &&& 0x3f).toInt64.toUInt64).toInt64).toInt32))), .val (.int (q1.toInt32)), .val (.int (((q1.toUInt64 >>> ((32 : Int32) &&& 0x3f).toInt64.toUInt64).toInt64).toInt32)), .val (.int (own_min (q1.toInt32) (((q1.toUInt64 >>> ((32 : Int32) &&& 0x3f).toInt64.toUInt64).toInt64).toInt32))), .unset, .unset, .unset, .unset, .unset, .unset, .unset, .unset, .unset] [(.int (((q1.toUInt64 >>> ((32 : Int32) &&& 0x3f).toInt64.toUInt64).toInt64).toInt32)), (.int (q1.toInt32))])) _
    refine st4 _ ?_
    show Steps p.tables e below (T4.setTop (mkF m 73 #[.val (.long q0), .second, .val (.long q1), .second, .val (.int p2), .val (.int p3), .val (.int p4), .val (.int p5), .val (.int ((p5 &&& (2147483647 : Int32)) % (3 : Int32))), .val (.int (((p5.toUInt32 >>> ((2 : Int32) &&& 31).toUInt32).toInt32) &&& (3 : Int32))), .val (.int (q0.toInt32)), .val (.int (((q0.toUInt64 >>> ((32 : Int32) &&& 0x3f).toInt64.toUInt64).toInt64).toInt32)), .val (.int (own_min (q0.toInt32) (((q0.toUInt64 >>> ((32 : Int32) &&& 0x3f).toInt64.toUInt64).toInt64).toInt32))), .val (.int (own_max (q0.toInt32) (((q0.toUInt64 >>> ((32 : Int32) &&& 0x3f).toInt64.toUInt64).toInt64).toInt32))), .val (.int (q1.toInt32)), .val (.int (((q1.toUInt64 >>> ((32 : Int32) &&& 0x3f).toInt64.toUInt64).toInt64).toInt32)), .val (.int (own_min (q1.toInt32) (((q1.toUInt64 >>> ((32 : Int32) &&& 0x3f).toInt64.toUInt64).toInt64).toInt32))), .unset, .unset, .unset, .unset, .unset, .unset, .unset, .unset, .unset] [(.int (own_max (q1.toInt32) (((q1.toUInt64 >>> ((32 : Int32) &&& 0x3f).toInt64.toUInt64).toInt64).toInt32)))])) _
    refine XS.istore X4.here hx rfl (hb hby at_73) rfl (l' := #[.val (.long q0), .second, .val (.long q1), .second, .val (.int p2), .val (.int p3), .val (.int p4), .val (.int p5), .val (.int ((p5 &&& (2147483647 : Int32)) % (3 : Int32))), .val (.int (((p5.toUInt32 >>> ((2 : Int32) &&& 31).toUInt32).toInt32) &&& (3 : Int32))), .val (.int (q0.toInt32)), .val (.int (((q0.toUInt64 >>> ((32 : Int32) &&& 0x3f).toInt64.toUInt64).toInt64).toInt32)), .val (.int (own_min (q0.toInt32) (((q0.toUInt64 >>> ((32 : Int32) &&& 0x3f).toInt64.toUInt64).toInt64).toInt32))), .val (.int (own_max (q0.toInt32) (((q0.toUInt64 >>> ((32 : Int32) &&& 0x3f).toInt64.toUInt64).toInt64).toInt32))), .val (.int (q1.toInt32)), .val (.int (((q1.toUInt64 >>> ((32 : Int32) &&& 0x3f).toInt64.toUInt64).toInt64).toInt32)), .val (.int (own_min (q1.toInt32) (((q1.toUInt64 >>> ((32 : Int32) &&& 0x3f).toInt64.toUInt64).toInt64).toInt32))), .val (.int (own_max (q1.toInt32) (((q1.toUInt64 >>> ((32 : Int32) &&& 0x3f).toInt64.toUInt64).toInt64).toInt32))), .unset, .unset, .unset, .unset, .unset, .unset, .unset, .unset]) rfl ?_
    show Steps p.tables e below (T4.setTop (mkF m 75 #[.val (.long q0), .second, .val (.long q1), .second, .val (.int p2), .val (.int p3), .val (.int p4), .val (.int p5), .val (.int ((p5 &&& (2147483647 : Int32)) % (3 : Int32))), .val (.int (((p5.toUInt32 >>> ((2 : Int32) &&& 31).toUInt32).toInt32) &&& (3 : Int32))), .val (.int (q0.toInt32)), .val (.int (((q0.toUInt64 >>> ((32 : Int32) &&& 0x3f).toInt64.toUInt64).toInt64).toInt32)), .val (.int (own_min (q0.toInt32) (((q0.toUInt64 >>> ((32 : Int32) &&& 0x3f).toInt64.toUInt64).toInt64).toInt32))), .val (.int (own_max (q0.toInt32) (((q0.toUInt64 >>> ((32 : Int32) &&& 0x3f).toInt64.toUInt64).toInt64).toInt32))), .val (.int (q1.toInt32)), .val (.int (((q1.toUInt64 >>> ((32 : Int32) &&& 0x3f).toInt64.toUInt64).toInt64).toInt32)), .val (.int (own_min (q1.toInt32) (((q1.toUInt64 >>> ((32 : Int32) &&& 0x3f).toInt64.toUInt64).toInt64).toInt32))), .val (.int (own_max (q1.toInt32) (((q1.toUInt64 >>> ((32 : Int32) &&& 0x3f).toInt64.toUInt64).toInt64).toInt32))), .unset, .unset, .unset, .unset, .unset, .unset, .unset, .unset] [])) _
    refine XS.iload X4.here hx rfl (hb hby at_75) rfl ?_
    show Steps p.tables e below (T4.setTop (mkF m 77 #[.val (.long q0), .second, .val (.long q1), .second, .val (.int p2), .val (.int p3), .val (.int p4), .val (.int p5), .val (.int ((p5 &&& (2147483647 : Int32)) % (3 : Int32))), .val (.int (((p5.toUInt32 >>> ((2 : Int32) &&& 31).toUInt32).toInt32) &&& (3 : Int32))), .val (.int (q0.toInt32)), .val (.int (((q0.toUInt64 >>> ((32 : Int32) &&& 0x3f).toInt64.toUInt64).toInt64).toInt32)), .val (.int (own_min (q0.toInt32) (((q0.toUInt64 >>> ((32 : Int32) &&& 0x3f).toInt64.toUInt64).toInt64).toInt32))), .val (.int (own_max (q0.toInt32) (((q0.toUInt64 >>> ((32 : Int32) &&& 0x3f).toInt64.toUInt64).toInt64).toInt32))), .val (.int (q1.toInt32)), .val (.int (((q1.toUInt64 >>> ((32 : Int32) &&& 0x3f).toInt64.toUInt64).toInt64).toInt32)), .val (.int (own_min (q1.toInt32) (((q1.toUInt64 >>> ((32 : Int32) &&& 0x3f).toInt64.toUInt64).toInt64).toInt32))), .val (.int (own_max (q1.toInt32) (((q1.toUInt64 >>> ((32 : Int32) &&& 0x3f).toInt64.toUInt64).toInt64).toInt32))), .unset, .unset, .unset, .unset, .unset, .unset, .unset, .unset] [(.int (own_min (q1.toInt32) (((q1.toUInt64 >>> ((32 : Int32) &&& 0x3f).toInt64.toUInt64).toInt64).toInt32)))])) _
    refine XS.iload X4.here hx rfl (hb hby at_77) rfl ?_
    show Steps p.tables e below (T4.setTop (mkF m 79 #[.val (.long q0), .second, .val (.long q1), .second, .val (.int p2), .val (.int p3), .val (.int p4), .val (.int p5), .val (.int ((p5 &&& (2147483647 : Int32)) % (3 : Int32))), .val (.int (((p5.toUInt32 >>> ((2 : Int32) &&& 31).toUInt32).toInt32) &&& (3 : Int32))), .val (.int (q0.toInt32)), .val (.int (((q0.toUInt64 >>> ((32 : Int32) &&& 0x3f).toInt64.toUInt64).toInt64).toInt32)), .val (.int (own_min (q0.toInt32) (((q0.toUInt64 >>> ((32 : Int32) &&& 0x3f).toInt64.toUInt64).toInt64).toInt32))), .val (.int (own_max (q0.toInt32) (((q0.toUInt64 >>> ((32 : Int32) &&& 0x3f).toInt64.toUInt64).toInt64).toInt32))), .val (.int (q1.toInt32)), .val (.int (((q1.toUInt64 >>> ((32 : Int32) &&& 0x3f).toInt64.toUInt64).toInt64).toInt32)), .val (.int (own_min (q1.toInt32) (((q1.toUInt64 >>> ((32 : Int32) &&& 0x3f).toInt64.toUInt64).toInt64).toInt32))), .val (.int (own_max (q1.toInt32) (((q1.toUInt64 >>> ((32 : Int32) &&& 0x3f).toInt64.toUInt64).toInt64).toInt32))), .unset, .unset, .unset, .unset, .unset, .unset, .unset, .unset] [(.int p2), (.int (own_min (q1.toInt32) (((q1.toUInt64 >>> ((32 : Int32) &&& 0x3f).toInt64.toUInt64).toInt64).toInt32)))])) _
    refine st5 _ ?_
    show Steps p.tables e below (T5.setTop (mkF m 82 #[.val (.long q0), .second, .val (.long q1), .second, .val (.int p2), .val (.int p3), .val (.int p4), .val (.int p5), .val (.int ((p5 &&& (2147483647 : Int32)) % (3 : Int32))), .val (.int (((p5.toUInt32 >>> ((2 : Int32) &&& 31).toUInt32).toInt32) &&& (3 : Int32))), .val (.int (q0.toInt32)), .val (.int (((q0.toUInt64 >>> ((32 : Int32) &&& 0x3f).toInt64.toUInt64).toInt64).toInt32)), .val (.int (own_min (q0.toInt32) (((q0.toUInt64 >>> ((32 : Int32) &&& 0x3f).toInt64.toUInt64).toInt64).toInt32))), .val (.int (own_max (q0.toInt32) (((q0.toUInt64 >>> ((32 : Int32) &&& 0x3f).toInt64.toUInt64).toInt64).toInt32))), .val (.int (q1.toInt32)), .val (.int (((q1.toUInt64 >>> ((32 : Int32) &&& 0x3f).toInt64.toUInt64).toInt64).toInt32)), .val (.int (own_min (q1.toInt32) (((q1.toUInt64 >>> ((32 : Int32) &&& 0x3f).toInt64.toUInt64).toInt64).toInt32))), .val (.int (own_max (q1.toInt32) (((q1.toUInt64 >>> ((32 : Int32) &&& 0x3f).toInt64.toUInt64).toInt64).toInt32))), .unset, .unset, .unset, .unset, .unset, .unset, .unset, .unset] [(.int (own_min (own_min (q1.toInt32) (((q1.toUInt64 >>> ((32 : Int32) &&& 0x3f).toInt64.toUInt64).toInt64).toInt32)) p2))])) _
    refine XS.istore X5.here hx rfl (hb hby at_82) rfl (l' := #[.val (.long q0), .second, .val (.long q1), .second, .val (.int p2), .val (.int p3), .val (.int p4), .val (.int p5), .val (.int ((p5 &&& (2147483647 : Int32)) % (3 : Int32))), .val (.int (((p5.toUInt32 >>> ((2 : Int32) &&& 31).toUInt32).toInt32) &&& (3 : Int32))), .val (.int (q0.toInt32)), .val (.int (((q0.toUInt64 >>> ((32 : Int32) &&& 0x3f).toInt64.toUInt64).toInt64).toInt32)), .val (.int (own_min (q0.toInt32) (((q0.toUInt64 >>> ((32 : Int32) &&& 0x3f).toInt64.toUInt64).toInt64).toInt32))), .val (.int (own_max (q0.toInt32) (((q0.toUInt64 >>> ((32 : Int32) &&& 0x3f).toInt64.toUInt64).toInt64).toInt32))), .val (.int (q1.toInt32)), .val (.int (((q1.toUInt64 >>> ((32 : Int32) &&& 0x3f).toInt64.toUInt64).toInt64).toInt32)), .val (.int (own_min (q1.toInt32) (((q1.toUInt64 >>> ((32 : Int32) &&& 0x3f).toInt64.toUInt64).toInt64).toInt32))), .val (.int (own_max (q1.toInt32) (((q1.toUInt64 >>> ((32 : Int32) &&& 0x3f).toInt64.toUInt64).toInt64).toInt32))), .val (.int (own_min (own_min (q1.toInt32) (((q1.toUInt64 >>> ((32 : Int32) &&& 0x3f).toInt64.toUInt64).toInt64).toInt32)) p2)), .unset, .unset, .unset, .unset, .unset, .unset, .unset]) rfl ?_
    show Steps p.tables e below (T5.setTop (mkF m 84 #[.val (.long q0), .second, .val (.long q1), .second, .val (.int p2), .val (.int p3), .val (.int p4), .val (.int p5), .val (.int ((p5 &&& (2147483647 : Int32)) % (3 : Int32))), .val (.int (((p5.toUInt32 >>> ((2 : Int32) &&& 31).toUInt32).toInt32) &&& (3 : Int32))), .val (.int (q0.toInt32)), .val (.int (((q0.toUInt64 >>> ((32 : Int32) &&& 0x3f).toInt64.toUInt64).toInt64).toInt32)), .val (.int (own_min (q0.toInt32) (((q0.toUInt64 >>> ((32 : Int32) &&& 0x3f).toInt64.toUInt64).toInt64).toInt32))), .val (.int (own_max (q0.toInt32) (((q0.toUInt64 >>> ((32 : Int32) &&& 0x3f).toInt64.toUInt64).toInt64).toInt32))), .val (.int (q1.toInt32)), .val (.int (((q1.toUInt64 >>> ((32 : Int32) &&& 0x3f).toInt64.toUInt64).toInt64).toInt32)), .val (.int (own_min (q1.toInt32) (((q1.toUInt64 >>> ((32 : Int32) &&& 0x3f).toInt64.toUInt64).toInt64).toInt32))), .val (.int (own_max (q1.toInt32) (((q1.toUInt64 >>> ((32 : Int32) &&& 0x3f).toInt64.toUInt64).toInt64).toInt32))), .val (.int (own_min (own_min (q1.toInt32) (((q1.toUInt64 >>> ((32 : Int32) &&& 0x3f).toInt64.toUInt64).toInt64).toInt32)) p2)), .unset, .unset, .unset, .unset, .unset, .unset, .unset] [])) _
    refine XS.iload X5.here hx rfl (hb hby at_84) rfl ?_
    show Steps p.tables e below (T5.setTop (mkF m 86 #[.val (.long q0), .second, .val (.long q1), .second, .val (.int p2), .val (.int p3), .val (.int p4), .val (.int p5), .val (.int ((p5 &&& (2147483647 : Int32)) % (3 : Int32))), .val (.int (((p5.toUInt32 >>> ((2 : Int32) &&& 31).toUInt32).toInt32) &&& (3 : Int32))), .val (.int (q0.toInt32)), .val (.int (((q0.toUInt64 >>> ((32 : Int32) &&& 0x3f).toInt64.toUInt64).toInt64).toInt32)), .val (.int (own_min (q0.toInt32) (((q0.toUInt64 >>> ((32 : Int32) &&& 0x3f).toInt64.toUInt64).toInt64).toInt32))), .val (.int (own_max (q0.toInt32) (((q0.toUInt64 >>> ((32 : Int32) &&& 0x3f).toInt64.toUInt64).toInt64).toInt32))), .val (.int (q1.toInt32)), .val (.int (((q1.toUInt64 >>> ((32 : Int32) &&& 0x3f).toInt64.toUInt64).toInt64).toInt32)), .val (.int (own_min (q1.toInt32) (((q1.toUInt64 >>> ((32 : Int32) &&& 0x3f).toInt64.toUInt64).toInt64).toInt32))), .val (.int (own_max (q1.toInt32) (((q1.toUInt64 >>> ((32 : Int32) &&& 0x3f).toInt64.toUInt64).toInt64).toInt32))), .val (.int (own_min (own_min (q1.toInt32) (((q1.toUInt64 >>> ((32 : Int32) &&& 0x3f).toInt64.toUInt64).toInt64).toInt32)) p2)), .unset, .unset, .unset, .unset, .unset, .unset, .unset] [(.int (own_min (q1.toInt32) (((q1.toUInt64 >>> ((32 : Int32) &&& 0x3f).toInt64.toUInt64).toInt64).toInt32)))])) _
    refine XS.iload X5.here hx rfl (hb hby at_86) rfl ?_
    show Steps p.tables e below (T5.setTop (mkF m 88 #[.val (.long q0), .second, .val (.long q1), .second, .val (.int p2), .val (.int p3), .val (.int p4), .val (.int p5), .val (.int ((p5 &&& (2147483647 : Int32)) % (3 : Int32))), .val (.int (((p5.toUInt32 >>> ((2 : Int32) &&& 31).toUInt32).toInt32) &&& (3 : Int32))), .val (.int (q0.toInt32)), .val (.int (((q0.toUInt64 >>> ((32 : Int32) &&& 0x3f).toInt64.toUInt64).toInt64).toInt32)), .val (.int (own_min (q0.toInt32) (((q0.toUInt64 >>> ((32 : Int32) &&& 0x3f).toInt64.toUInt64).toInt64).toInt32))), .val (.int (own_max (q0.toInt32) (((q0.toUInt64 >>> ((32 : Int32) &&& 0x3f).toInt64.toUInt64).toInt64).toInt32))), .val (.int (q1.toInt32)), .val (.int (((q1.toUInt64 >>> ((32 : Int32) &&& 0x3f).toInt64.toUInt64).toInt64).toInt32)), .val (.int (own_min (q1.toInt32) (((q1.toUInt64 >>> ((32 : Int32) &&& 0x3f).toInt64.toUInt64).toInt64).toInt32))), .val (.int (own_max (q1.toInt32) (((q1.toUInt64 >>> ((32 : Int32) &&& 0x3f).toInt64.toUInt64).toInt64).toInt32))), .val (.int (own_min (own_min (q1.toInt32) (((q1.toUInt64 >>> ((32 : Int32) &&& 0x3f).toInt64.toUInt64).toInt64).toInt32)) p2)), .unset, .unset, .unset, .unset, .unset, .unset, .unset] [(.int p2), (.int (own_min (q1.toInt32) (((q1.toUInt64 >>> ((32 : Int32) &&& 0x3f).toInt64.toUInt64).toInt64).toInt32)))])) _
    refine st6 _ ?_
    show Steps p.tables e below (T6.setTop (mkF m 91 #[.val (.long q0), .second, .val (.long q1), .second, .val (.int p2), .val (.int p3), .val (.int p4), .val (.int p5), .val (.int ((p5 &&& (2147483647 : Int32)) % (3 : Int32))), .val (.int (((p5.toUInt32 >>> ((2 : Int32) &&& 31).toUInt32).toInt32) &&& (3 : Int32))), .val (.int (q0.toInt32)), .val (.int (((q0.toUInt64 >>> ((32 : Int32) &&& 0x3f).toInt64.toUInt64).toInt64).toInt32)), .val (.int (own_min (q0.toInt32) (((q0.toUInt64 >>> ((32 : Int32) &&& 0x3f).toInt64.toUInt64).toInt64).toInt32))), .val (.int (own_max (q0.toInt32) (((q0.toUInt64 >>> ((32 : Int32) &&& 0x3f).toInt64.toUInt64).toInt64).toInt32))), .val (.int (q1.toInt32)), .val (.int (((q1.toUInt64 >>> ((32 : Int32) &&& 0x3f).toInt64.toUInt64).toInt64).toInt32)), .val (.int (own_min (q1.toInt32) (((q1.toUInt64 >>> ((32 : Int32) &&& 0x3f).toInt64.toUInt64).toInt64).toInt32))), .val (.int (own_max (q1.toInt32) (((q1.toUInt64 >>> ((32 : Int32) &&& 0x3f).toInt64.toUInt64).toInt64).toInt32))), .val (.int (own_min (own_min (q1.toInt32) (((q1.toUInt64 >>> ((32 : Int32) &&& 0x3f).toInt64.toUInt64).toInt64).toInt32)) p2)), .unset, .unset, .unset, .unset, .unset, .unset, .unset] [(.int (own_max (own_min (q1.toInt32) (((q1.toUInt64 >>> ((32 : Int32) &&& 0x3f).toInt64.toUInt64).toInt64).toInt32)) p2))])) _
    refine XS.istore X6.here hx rfl (hb hby at_91) rfl (l' := #[.val (.long q0), .second, .val (.long q1), .second, .val (.int p2), .val (.int p3), .val (.int p4), .val (.int p5), .val (.int ((p5 &&& (2147483647 : Int32)) % (3 : Int32))), .val (.int (((p5.toUInt32 >>> ((2 : Int32) &&& 31).toUInt32).toInt32) &&& (3 : Int32))), .val (.int (q0.toInt32)), .val (.int (((q0.toUInt64 >>> ((32 : Int32) &&& 0x3f).toInt64.toUInt64).toInt64).toInt32)), .val (.int (own_min (q0.toInt32) (((q0.toUInt64 >>> ((32 : Int32) &&& 0x3f).toInt64.toUInt64).toInt64).toInt32))), .val (.int (own_max (q0.toInt32) (((q0.toUInt64 >>> ((32 : Int32) &&& 0x3f).toInt64.toUInt64).toInt64).toInt32))), .val (.int (q1.toInt32)), .val (.int (((q1.toUInt64 >>> ((32 : Int32) &&& 0x3f).toInt64.toUInt64).toInt64).toInt32)), .val (.int (own_min (q1.toInt32) (((q1.toUInt64 >>> ((32 : Int32) &&& 0x3f).toInt64.toUInt64).toInt64).toInt32))), .val (.int (own_max (q1.toInt32) (((q1.toUInt64 >>> ((32 : Int32) &&& 0x3f).toInt64.toUInt64).toInt64).toInt32))), .val (.int (own_min (own_min (q1.toInt32) (((q1.toUInt64 >>> ((32 : Int32) &&& 0x3f).toInt64.toUInt64).toInt64).toInt32)) p2)), .val (.int (own_max (own_min (q1.toInt32) (((q1.toUInt64 >>> ((32 : Int32) &&& 0x3f).toInt64.toUInt64).toInt64).toInt32)) p2)), .unset, .unset, .unset, .unset, .unset, .unset]) rfl ?_
    show Steps p.tables e below (T6.setTop (mkF m 93 #[.val (.long q0), .second, .val (.long q1), .second, .val (.int p2), .val (.int p3), .val (.int p4), .val (.int p5), .val (.int ((p5 &&& (2147483647 : Int32)) % (3 : Int32))), .val (.int (((p5.toUInt32 >>> ((2 : Int32) &&& 31).toUInt32).toInt32) &&& (3 : Int32))), .val (.int (q0.toInt32)), .val (.int (((q0.toUInt64 >>> ((32 : Int32) &&& 0x3f).toInt64.toUInt64).toInt64).toInt32)), .val (.int (own_min (q0.toInt32) (((q0.toUInt64 >>> ((32 : Int32) &&& 0x3f).toInt64.toUInt64).toInt64).toInt32))), .val (.int (own_max (q0.toInt32) (((q0.toUInt64 >>> ((32 : Int32) &&& 0x3f).toInt64.toUInt64).toInt64).toInt32))), .val (.int (q1.toInt32)), .val (.int (((q1.toUInt64 >>> ((32 : Int32) &&& 0x3f).toInt64.toUInt64).toInt64).toInt32)), .val (.int (own_min (q1.toInt32) (((q1.toUInt64 >>> ((32 : Int32) &&& 0x3f).toInt64.toUInt64).toInt64).toInt32))), .val (.int (own_max (q1.toInt32) (((q1.toUInt64 >>> ((32 : Int32) &&& 0x3f).toInt64.toUInt64).toInt64).toInt32))), .val (.int (own_min (own_min (q1.toInt32) (((q1.toUInt64 >>> ((32 : Int32) &&& 0x3f).toInt64.toUInt64).toInt64).toInt32)) p2)), .val (.int (own_max (own_min (q1.toInt32) (((q1.toUInt64 >>> ((32 : Int32) &&& 0x3f).toInt64.toUInt64).toInt64).toInt32)) p2)), .unset, .unset, .unset, .unset, .unset, .unset] [])) _
    refine XS.iload X6.here hx rfl (hb hby at_93) rfl ?_
    show Steps p.tables e below (T6.setTop (mkF m 95 #[.val (.long q0), .second, .val (.long q1), .second, .val (.int p2), .val (.int p3), .val (.int p4), .val (.int p5), .val (.int ((p5 &&& (2147483647 : Int32)) % (3 : Int32))), .val (.int (((p5.toUInt32 >>> ((2 : Int32) &&& 31).toUInt32).toInt32) &&& (3 : Int32))), .val (.int (q0.toInt32)), .val (.int (((q0.toUInt64 >>> ((32 : Int32) &&& 0x3f).toInt64.toUInt64).toInt64).toInt32)), .val (.int (own_min (q0.toInt32) (((q0.toUInt64 >>> ((32 : Int32) &&& 0x3f).toInt64.toUInt64).toInt64).toInt32))), .val (.int (own_max (q0.toInt32) (((q0.toUInt64 >>> ((32 : Int32) &&& 0x3f).toInt64.toUInt64).toInt64).toInt32))), .val (.int (q1.toInt32)), .val (.int (((q1.toUInt64 >>> ((32 : Int32) &&& 0x3f).toInt64.toUInt64).toInt64).toInt32)), .val (.int (own_min (q1.toInt32) (((q1.toUInt64 >>> ((32 : Int32) &&& 0x3f).toInt64.toUInt64).toInt64).toInt32))), .val (.int (own_max (q1.toInt32) (((q1.toUInt64 >>> ((32 : Int32) &&& 0x3f).toInt64.toUInt64).toInt64).toInt32))), .val (.int (own_min (own_min (q1.toInt32) (((q1.toUInt64 >>> ((32 : Int32) &&& 0x3f).toInt64.toUInt64).toInt64).toInt32)) p2)), .val (.int (own_max (own_min (q1.toInt32) (((q1.toUInt64 >>> ((32 : Int32) &&& 0x3f).toInt64.toUInt64).toInt64).toInt32)) p2)), .unset, .unset, .unset, .unset, .unset, .unset] [(.int (own_max (q1.toInt32) (((q1.toUInt64 >>> ((32 : Int32) &&& 0x3f).toInt64.toUInt64).toInt64).toInt32)))])) _
    refine XS.iload X6.here hx rfl (hb hby at_95) rfl ?_
    show Steps p.tables e below (T6.setTop (mkF m 97 #[.val (.long q0), .second, .val (.long q1), .second, .val (.int p2), .val (.int p3), .val (.int p4), .val (.int p5), .val (.int ((p5 &&& (2147483647 : Int32)) % (3 : Int32))), .val (.int (((p5.toUInt32 >>> ((2 : Int32) &&& 31).toUInt32).toInt32) &&& (3 : Int32))), .val (.int (q0.toInt32)), .val (.int (((q0.toUInt64 >>> ((32 : Int32) &&& 0x3f).toInt64.toUInt64).toInt64).toInt32)), .val (.int (own_min (q0.toInt32) (((q0.toUInt64 >>> ((32 : Int32) &&& 0x3f).toInt64.toUInt64).toInt64).toInt32))), .val (.int (own_max (q0.toInt32) (((q0.toUInt64 >>> ((32 : Int32) &&& 0x3f).toInt64.toUInt64).toInt64).toInt32))), .val (.int (q1.toInt32)), .val (.int (((q1.toUInt64 >>> ((32 : Int32) &&& 0x3f).toInt64.toUInt64).toInt64).toInt32)), .val (.int (own_min (q1.toInt32) (((q1.toUInt64 >>> ((32 : Int32) &&& 0x3f).toInt64.toUInt64).toInt64).toInt32))), .val (.int (own_max (q1.toInt32) (((q1.toUInt64 >>> ((32 : Int32) &&& 0x3f).toInt64.toUInt64).toInt64).toInt32))), .val (.int (own_min (own_min (q1.toInt32) (((q1.toUInt64 >>> ((32 : Int32) &&& 0x3f).toInt64.toUInt64).toInt64).toInt32)) p2)), .val (.int (own_max (own_min (q1.toInt32) (((q1.toUInt64 >>> ((32 : Int32) &&& 0x3f).toInt64.toUInt64).toInt64).toInt32)) p2)), .unset, .unset, .unset, .unset, .unset, .unset] [(.int (own_max (own_min (q1.toInt32) (((q1.toUInt64 >>> ((32 : Int32) &&& 0x3f).toInt64.toUInt64).toInt64).toInt32)) p2)), (.int (own_max (q1.toInt32) (((q1.toUInt64 >>> ((32 : Int32) &&& 0x3f).toInt64.toUInt64).toInt64).toInt32)))])) _
    refine st7 _ ?_
    show Steps p.tables e below (T7.setTop (mkF m 100 #[.val (.long q0), .second, .val (.long q1), .second, .val (.int p2), .val (.int p3), .val (.int p4), .val (.int p5), .val (.int ((p5 &&& (2147483647 : Int32)) % (3 : Int32))), .val (.int (((p5.toUInt32 >>> ((2 : Int32) &&& 31).toUInt32).toInt32) &&& (3 : Int32))), .val (.int (q0.toInt32)), .val (.int (((q0.toUInt64 >>> ((32 : Int32) &&& 0x3f).toInt64.toUInt64).toInt64).toInt32)), .val (.int (own_min (q0.toInt32) (((q0.toUInt64 >>> ((32 : Int32) &&& 0x3f).toInt64.toUInt64).toInt64).toInt32))), .val (.int (own_max (q0.toInt32) (((q0.toUInt64 >>> ((32 : Int32) &&& 0x3f).toInt64.toUInt64).toInt64).toInt32))), .val (.int (q1.toInt32)), .val (.int (((q1.toUInt64 >>> ((32 : Int32) &&& 0x3f).toInt64.toUInt64).toInt64).toInt32)), .val (.int (own_min (q1.toInt32) (((q1.toUInt64 >>> ((32 : Int32) &&& 0x3f).toInt64.toUInt64).toInt64).toInt32))), .val (.int (own_max (q1.toInt32) (((q1.toUInt64 >>> ((32 : Int32) &&& 0x3f).toInt64.toUInt64).toInt64).toInt32))), .val (.int (own_min (own_min (q1.toInt32) (((q1.toUInt64 >>> ((32 : Int32) &&& 0x3f).toInt64.toUInt64).toInt64).toInt32)) p2)), .val (.int (own_max (own_min (q1.toInt32) (((q1.toUInt64 >>> ((32 : Int32) &&& 0x3f).toInt64.toUInt64).toInt64).toInt32)) p2)), .unset, .unset, .unset, .unset, .unset, .unset] [(.int (own_min (own_max (q1.toInt32) (((q1.toUInt64 >>> ((32 : Int32) &&& 0x3f).toInt64.toUInt64).toInt64).toInt32)) (own_max (own_min (q1.toInt32) (((q1.toUInt64 >>> ((32 : Int32) &&& 0x3f).toInt64.toUInt64).toInt64).toInt32)) p2)))])) _
    refine XS.istore X7.here hx rfl (hb hby at_100) rfl (l' := #[.val (.long q0), .second, .val (.long q1), .second, .val (.int p2), .val (.int p3), .val (.int p4), .val (.int p5), .val (.int ((p5 &&& (2147483647 : Int32)) % (3 : Int32))), .val (.int (((p5.toUInt32 >>> ((2 : Int32) &&& 31).toUInt32).toInt32) &&& (3 : Int32))), .val (.int (q0.toInt32)), .val (.int (((q0.toUInt64 >>> ((32 : Int32) &&& 0x3f).toInt64.toUInt64).toInt64).toInt32)), .val (.int (own_min (q0.toInt32) (((q0.toUInt64 >>> ((32 : Int32) &&& 0x3f).toInt64.toUInt64).toInt64).toInt32))), .val (.int (own_max (q0.toInt32) (((q0.toUInt64 >>> ((32 : Int32) &&& 0x3f).toInt64.toUInt64).toInt64).toInt32))), .val (.int (q1.toInt32)), .val (.int (((q1.toUInt64 >>> ((32 : Int32) &&& 0x3f).toInt64.toUInt64).toInt64).toInt32)), .val (.int (own_min (q1.toInt32) (((q1.toUInt64 >>> ((32 : Int32) &&& 0x3f).toInt64.toUInt64).toInt64).toInt32))), .val (.int (own_max (q1.toInt32) (((q1.toUInt64 >>> ((32 : Int32) &&& 0x3f).toInt64.toUInt64).toInt64).toInt32))), .val (.int (own_min (own_min (q1.toInt32) (((q1.toUInt64 >>> ((32 : Int32) &&& 0x3f).toInt64.toUInt64).toInt64).toInt32)) p2)), .val (.int (own_max (own_min (q1.toInt32) (((q1.toUInt64 >>> ((32 : Int32) &&& 0x3f).toInt64.toUInt64).toInt64).toInt32)) p2)), .val (.int (own_min (own_max (q1.toInt32) (((q1.toUInt64 >>> ((32 : Int32) &&& 0x3f).toInt64.toUInt64).toInt64).toInt32)) (own_max (own_min (q1.toInt32) (((q1.toUInt64 >>> ((32 : Int32) &&& 0x3f).toInt64.toUInt64).toInt64).toInt32)) p2))), .unset, .unset, .unset, .unset, .unset]) rfl ?_
    show Steps p.tables e below (T7.setTop (mkF m 102 #[.val (.long q0), .second, .val (.long q1), .second, .val (.int p2), .val (.int p3), .val (.int p4), .val (.int p5), .val (.int ((p5 &&& (2147483647 : Int32)) % (3 : Int32))), .val (.int (((p5.toUInt32 >>> ((2 : Int32) &&& 31).toUInt32).toInt32) &&& (3 : Int32))), .val (.int (q0.toInt32)), .val (.int (((q0.toUInt64 >>> ((32 : Int32) &&& 0x3f).toInt64.toUInt64).toInt64).toInt32)), .val (.int (own_min (q0.toInt32) (((q0.toUInt64 >>> ((32 : Int32) &&& 0x3f).toInt64.toUInt64).toInt64).toInt32))), .val (.int (own_max (q0.toInt32) (((q0.toUInt64 >>> ((32 : Int32) &&& 0x3f).toInt64.toUInt64).toInt64).toInt32))), .val (.int (q1.toInt32)), .val (.int (((q1.toUInt64 >>> ((32 : Int32) &&& 0x3f).toInt64.toUInt64).toInt64).toInt32)), .val (.int (own_min (q1.toInt32) (((q1.toUInt64 >>> ((32 : Int32) &&& 0x3f).toInt64.toUInt64).toInt64).toInt32))), .val (.int (own_max (q1.toInt32) (((q1.toUInt64 >>> ((32 : Int32) &&& 0x3f).toInt64.toUInt64).toInt64).toInt32))), .val (.int (own_min (own_min (q1.toInt32) (((q1.toUInt64 >>> ((32 : Int32) &&& 0x3f).toInt64.toUInt64).toInt64).toInt32)) p2)), .val (.int (own_max (own_min (q1.toInt32) (((q1.toUInt64 >>> ((32 : Int32) &&& 0x3f).toInt64.toUInt64).toInt64).toInt32)) p2)), .val (.int (own_min (own_max (q1.toInt32) (((q1.toUInt64 >>> ((32 : Int32) &&& 0x3f).toInt64.toUInt64).toInt64).toInt32)) (own_max (own_min (q1.toInt32) (((q1.toUInt64 >>> ((32 : Int32) &&& 0x3f).toInt64.toUInt64).toInt64).toInt32)) p2))), .unset, .unset, .unset, .unset, .unset] [])) _
    refine XS.iload X7.here hx rfl (hb hby at_102) rfl ?_
    show Steps p.tables e below (T7.setTop (mkF m 104 #[.val (.long q0), .second, .val (.long q1), .second, .val (.int p2), .val (.int p3), .val (.int p4), .val (.int p5), .val (.int ((p5 &&& (2147483647 : Int32)) % (3 : Int32))), .val (.int (((p5.toUInt32 >>> ((2 : Int32) &&& 31).toUInt32).toInt32) &&& (3 : Int32))), .val (.int (q0.toInt32)), .val (.int (((q0.toUInt64 >>> ((32 : Int32) &&& 0x3f).toInt64.toUInt64).toInt64).toInt32)), .val (.int (own_min (q0.toInt32) (((q0.toUInt64 >>> ((32 : Int32) &&& 0x3f).toInt64.toUInt64).toInt64).toInt32))), .val (.int (own_max (q0.toInt32) (((q0.toUInt64 >>> ((32 : Int32) &&& 0x3f).toInt64.toUInt64).toInt64).toInt32))), .val (.int (q1.toInt32)), .val (.int (((q1.toUInt64 >>> ((32 : Int32) &&& 0x3f).toInt64.toUInt64).toInt64).toInt32)), .val (.int (own_min (q1.toInt32) (((q1.toUInt64 >>> ((32 : Int32) &&& 0x3f).toInt64.toUInt64).toInt64).toInt32))), .val (.int (own_max (q1.toInt32) (((q1.toUInt64 >>> ((32 : Int32) &&& 0x3f).toInt64.toUInt64).toInt64).toInt32))), .val (.int (own_min (own_min (q1.toInt32) (((q1.toUInt64 >>> ((32 : Int32) &&& 0x3f).toInt64.toUInt64).toInt64).toInt32)) p2)), .val (.int (own_max (own_min (q1.toInt32) (((q1.toUInt64 >>> ((32 : Int32) &&& 0x3f).toInt64.toUInt64).toInt64).toInt32)) p2)), .val (.int (own_min (own_max (q1.toInt32) (((q1.toUInt64 >>> ((32 : Int32) &&& 0x3f).toInt64.toUInt64).toInt64).toInt32)) (own_max (own_min (q1.toInt32) (((q1.toUInt64 >>> ((32 : Int32) &&& 0x3f).toInt64.toUInt64).toInt64).toInt32)) p2))), .unset, .unset, .unset, .unset, .unset] [(.int (own_max (q1.toInt32) (((q1.toUInt64 >>> ((32 : Int32) &&& 0x3f).toInt64.toUInt64).toInt64).toInt32)))])) _
    refine XS.iload X7.here hx rfl (hb hby at_104) rfl ?_
    show Steps p.tables e below (T7.setTop (mkF m 106 #[.val (.long q0), .second, .val (.long q1), .second, .val (.int p2), .val (.int p3), .val (.int p4), .val (.int p5), .val (.int ((p5 &&& (2147483647 : Int32)) % (3 : Int32))), .val (.int (((p5.toUInt32 >>> ((2 : Int32) &&& 31).toUInt32).toInt32) &&& (3 : Int32))), .val (.int (q0.toInt32)), .val (.int (((q0.toUInt64 >>> ((32 : Int32) &&& 0x3f).toInt64.toUInt64).toInt64).toInt32)), .val (.int (own_min (q0.toInt32) (((q0.toUInt64 >>> ((32 : Int32) &&& 0x3f).toInt64.toUInt64).toInt64).toInt32))), .val (.int (own_max (q0.toInt32) (((q0.toUInt64 >>> ((32 : Int32) &&& 0x3f).toInt64.toUInt64).toInt64).toInt32))), .val (.int (q1.toInt32)), .val (.int (((q1.toUInt64 >>> ((32 : Int32) &&& 0x3f).toInt64.toUInt64).toInt64).toInt32)), .val (.int (own_min (q1.toInt32) (((q1.toUInt64 >>> ((32 : Int32) &&& 0x3f).toInt64.toUInt64).toInt64).toInt32))), .val (.int (own_max (q1.toInt32) (((q1.toUInt64 >>> ((32 : Int32) &&& 0x3f).toInt64.toUInt64).toInt64).toInt32))), .val (.int (own_min (own_min (q1.toInt32) (((q1.toUInt64 >>> ((32 : Int32) &&& 0x3f).toInt64.toUInt64).toInt64).toInt32)) p2)), .val (.int (own_max (own_min (q1.toInt32) (((q1.toUInt64 >>> ((32 : Int32) &&& 0x3f).toInt64.toUInt64).toInt64).toInt32)) p2)), .val (.int (own_min (own_max (q1.toInt32) (((q1.toUInt64 >>> ((32 : Int32) &&& 0x3f).toInt64.toUInt64).toInt64).toInt32)) (own_max (own_min (q1.toInt32) (((q1.toUInt64 >>> ((32 : Int32) &&& 0x3f).toInt64.toUInt64).toInt64).toInt32)) p2))), .unset, .unset, .unset, .unset, .unset] [(.int (own_max (own_min (q1.toInt32) (((q1.toUInt64 >>> ((32 : Int32) &&& 0x3f).toInt64.toUInt64).toInt64).toInt32)) p2)), (.int (own_max (q1.toInt32) (((q1.toUInt64 >>> ((32 : Int32) &&& 0x3f).toInt64.toUInt64).toInt64).toInt32)))])) _
    refine st8 _ ?_
    show Steps p.tables e below (T8.setTop (mkF m 109 #[.val (.long q0), .second, .val (.long q1), .second, .val (.int p2), .val (.int p3), .val (.int p4), .val (.int p5), .val (.int ((p5 &&& (2147483647 : Int32)) % (3 : Int32))), .val (.int (((p5.toUInt32 >>> ((2 : Int32) &&& 31).toUInt32).toInt32) &&& (3 : Int32))), .val (.int (q0.toInt32)), .val (.int (((q0.toUInt64 >>> ((32 : Int32) &&& 0x3f).toInt64.toUInt64).toInt64).toInt32)), .val (.int (own_min (q0.toInt32) (((q0.toUInt64 >>> ((32 : Int32) &&& 0x3f).toInt64.toUInt64).toInt64).toInt32))), .val (.int (own_max (q0.toInt32) (((q0.toUInt64 >>> ((32 : Int32) &&& 0x3f).toInt64.toUInt64).toInt64).toInt32))), .val (.int (q1.toInt32)), .val (.int (((q1.toUInt64 >>> ((32 : Int32) &&& 0x3f).toInt64.toUInt64).toInt64).toInt32)), .val (.int (own_min (q1.toInt32) (((q1.toUInt64 >>> ((32 : Int32) &&& 0x3f).toInt64.toUInt64).toInt64).toInt32))), .val (.int (own_max (q1.toInt32) (((q1.toUInt64 >>> ((32 : Int32) &&& 0x3f).toInt64.toUInt64).toInt64).toInt32))), .val (.int (own_min (own_min (q1.toInt32) (((q1.toUInt64 >>> ((32 : Int32) &&& 0x3f).toInt64.toUInt64).toInt64).toInt32)) p2)), .val (.int (own_max (own_min (q1.toInt32) (((q1.toUInt64 >>> ((32 : Int32) &&& 0x3f).toInt64.toUInt64).toInt64).toInt32)) p2)), .val (.int (own_min (own_max (q1.toInt32) (((q1.toUInt64 >>> ((32 : Int32) &&& 0x3f).toInt64.toUInt64).toInt64).toInt32)) (own_max (own_min (q1.toInt32) (((q1.toUInt64 >>> ((32 : Int32) &&& 0x3f).toInt64.toUInt64).toInt64).toInt32)) p2))), .unset, .unset, .unset, .unset, .unset] [(.int (own_max (own_max (q1.toInt32) (((q1.toUInt64 >>> ((32 : Int32) &&& 0x3f).toInt64.toUInt64).toInt64).toInt32)) (own_max (own_min (q1.toInt32) (((q1.toUInt64 >>> ((32 : Int32) &&& 0x3f).toInt64.toUInt64).toInt64).toInt32)) p2)))])) _
    refine XS.istore X8.here hx rfl (hb hby at_109) rfl (l' := #[.val (.long q0), .second, .val (.long q1), .second, .val (.int p2), .val (.int p3), .val (.int p4), .val (.int p5), .val (.int ((p5 &&& (2147483647 : Int32)) % (3 : Int32))), .val (.int (((p5.toUInt32 >>> ((2 : Int32) &&& 31).toUInt32).toInt32) &&& (3 : Int32))), .val (.int (q0.toInt32)), .val (.int (((q0.toUInt64 >>> ((32 : Int32) &&& 0x3f).toInt64.toUInt64).toInt64).toInt32)), .val (.int (own_min (q0.toInt32) (((q0.toUInt64 >>> ((32 : Int32) &&& 0x3f).toInt64.toUInt64).toInt64).toInt32))), .val (.int (own_max (q0.toInt32) (((q0.toUInt64 >>> ((32 : Int32) &&& 0x3f).toInt64.toUInt64).toInt64).toInt32))), .val (.int (q1.toInt32)), .val (.int (((q1.toUInt64 >>> ((32 : Int32) &&& 0x3f).toInt64.toUInt64).toInt64).toInt32)), .val (.int (own_min (q1.toInt32) (((q1.toUInt64 >>> ((32 : Int32) &&& 0x3f).toInt64.toUInt64).toInt64).toInt32))), .val (.int (own_max (q1.toInt32) (((q1.toUInt64 >>> ((32 : Int32) &&& 0x3f).toInt64.toUInt64).toInt64).toInt32))), .val (.int (own_min (own_min (q1.toInt32) (((q1.toUInt64 >>> ((32 : Int32) &&& 0x3f).toInt64.toUInt64).toInt64).toInt32)) p2)), .val (.int (own_max (own_min (q1.toInt32) (((q1.toUInt64 >>> ((32 : Int32) &&& 0x3f).toInt64.toUInt64).toInt64).toInt32)) p2)), .val (.int (own_min (own_max (q1.toInt32) (((q1.toUInt64 >>> ((32 : Int32) &&& 0x3f).toInt64.toUInt64).toInt64).toInt32)) (own_max (own_min (q1.toInt32) (((q1.toUInt64 >>> ((32 : Int32) &&& 0x3f).toInt64.toUInt64).toInt64).toInt32)) p2))), .val (.int (own_max (own_max (q1.toInt32) (((q1.toUInt64 >>> ((32 : Int32) &&& 0x3f).toInt64.toUInt64).toInt64).toInt32)) (own_max (own_min (q1.toInt32) (((q1.toUInt64 >>> ((32 : Int32) &&& 0x3f).toInt64.toUInt64).toInt64).toInt32)) p2))), .unset, .unset, .unset, .unset]) rfl ?_
    exact k)
  obtain ⟨nf, h_nf⟩ : ∃ z, z = ((p5 &&& (2147483647 : Int32)) % (3 : Int32)) := ⟨_, rfl⟩
  rw [← h_nf] at pre9
  obtain ⟨ns, h_ns⟩ : ∃ z, z = (((p5.toUInt32 >>> ((2 : Int32) &&& 31).toUInt32).toInt32) &&& (3 : Int32)) := ⟨_, rfl⟩
  rw [← h_ns] at pre9
  obtain ⟨f0, h_f0⟩ : ∃ z, z = (own_min (q0.toInt32) (((q0.toUInt64 >>> ((32 : Int32) &&& 0x3f).toInt64.toUInt64).toInt64).toInt32)) := ⟨_, rfl⟩
  rw [← h_f0] at pre9
  obtain ⟨f1, h_f1⟩ : ∃ z, z = (own_max (q0.toInt32) (((q0.toUInt64 >>> ((32 : Int32) &&& 0x3f).toInt64.toUInt64).toInt64).toInt32)) := ⟨_, rfl⟩
  rw [← h_f1] at pre9
  obtain ⟨vlo, h_vlo⟩ : ∃ z, z = (own_min (q1.toInt32) (((q1.toUInt64 >>> ((32 : Int32) &&& 0x3f).toInt64.toUInt64).toInt64).toInt32)) := ⟨_, rfl⟩
  rw [← h_vlo] at pre9
  obtain ⟨vhi, h_vhi⟩ : ∃ z, z = (own_max (q1.toInt32) (((q1.toUInt64 >>> ((32 : Int32) &&& 0x3f).toInt64.toUInt64).toInt64).toInt32)) := ⟨_, rfl⟩
  rw [← h_vhi] at pre9
  obtain ⟨s0, h_s0⟩ : ∃ z, z = (own_min vlo p2) := ⟨_, rfl⟩
  rw [← h_s0] at pre9
  obtain ⟨vt, h_vt⟩ : ∃ z, z = (own_max vlo p2) := ⟨_, rfl⟩
  rw [← h_vt] at pre9
  obtain ⟨s1, h_s1⟩ : ∃ z, z = (own_min vhi vt) := ⟨_, rfl⟩
  rw [← h_s1] at pre9
  obtain ⟨s2, h_s2⟩ : ∃ z, z = (own_max vhi vt) := ⟨_, rfl⟩
  rw [← h_s2] at pre9
  have mnf := own_mrem p5 (3 : Int32) 3 rfl
  rw [← h_nf] at mnf
  have mns := c_mask ((p5.toUInt32 >>> ((2 : Int32) &&& 31).toUInt32).toInt32) (3 : Int32) 2 (by decide) (by decide)
  rw [← h_ns] at mns
  have u1 := own_mn (q0.toInt32) (((q0.toUInt64 >>> ((32 : Int32) &&& 0x3f).toInt64.toUInt64).toInt64).toInt32)
  have u2 := own_mx (q0.toInt32) (((q0.toUInt64 >>> ((32 : Int32) &&& 0x3f).toInt64.toUInt64).toInt64).toInt32)
  rw [← h_f0] at u1
  rw [← h_f1] at u2
  have u3 := own_mn (q1.toInt32) (((q1.toUInt64 >>> ((32 : Int32) &&& 0x3f).toInt64.toUInt64).toInt64).toInt32)
  have u4 := own_mx (q1.toInt32) (((q1.toUInt64 >>> ((32 : Int32) &&& 0x3f).toInt64.toUInt64).toInt64).toInt32)
  rw [← h_vlo] at u3
  rw [← h_vhi] at u4
  have u5 := own_mn vlo p2
  have u6 := own_mx vlo p2
  rw [← h_s0] at u5
  rw [← h_vt] at u6
  have u7 := own_mn vhi vt
  have u8 := own_mx vhi vt
  rw [← h_s1] at u7
  rw [← h_s2] at u8
  have of : f0.toInt ≤ f1.toInt := by clear u3 u4 u5 u6 u7 u8; omega
  have olh : vlo.toInt ≤ vhi.toInt := by clear u1 u2 u5 u6 u7 u8; omega
  have os1 : s0.toInt ≤ s1.toInt := by clear u1 u2 u3 u4 u8; omega
  have os2 : s1.toInt ≤ s2.toInt := by clear u1 u2 u3 u4 u5 u6; omega
  clear u1 u2 u3 u4 u5 u6 u7 u8
  obtain ⟨bf, cf, T10, L10, hh10, X10, e10, N10, Z10, K10, ⟨Af, Sf, Hf⟩, pre10⟩ : ∃ (bf : Addr) (cf : Cell) (T10 : State) (L10 : List Loc) (hh10 : Heap), Stand p l e room_1 s m #[(.long q0), (.long q1), (.int p2), (.int p3), (.int p4), (.int p5)] below meth c T10 L10 1 2 ∧ T10.heap = hh10 ∧ Fr n0 L10 ∧ n0 ≤ hh10.size ∧ Keep h0 hh10 [] ∧ (Arr Z hh10 bf cf .int ∧ cf.slots.size = nf.toNatClampNeg ∧ (∀ j : Nat, j < nf.toNatClampNeg → cf.slots[j]? = some (.int (own_G f0 f1 f1 j)))) ∧ ∀ t, Steps p.tables e below (T10.setTop (mkF m 141 #[.val (.long q0), .second, .val (.long q1), .second, .val (.int p2), .val (.int p3), .val (.int p4), .val (.int p5), .val (.int nf), .val (.int ns), .val (.int (q0.toInt32)), .val (.int (((q0.toUInt64 >>> ((32 : Int32) &&& 0x3f).toInt64.toUInt64).toInt64).toInt32)), .val (.int f0), .val (.int f1), .val (.int (q1.toInt32)), .val (.int (((q1.toUInt64 >>> ((32 : Int32) &&& 0x3f).toInt64.toUInt64).toInt64).toInt32)), .val (.int vlo), .val (.int vhi), .val (.int s0), .val (.int vt), .val (.int s1), .val (.int s2), .val (.ref bf), .unset, .unset, .unset] [])) t → Steps p.tables e below (s₁.setTop (mkF m 0 #[.val (.long q0), .second, .val (.long q1), .second, .val (.int p2), .val (.int p3), .val (.int p4), .val (.int p5), .unset, .unset, .unset, .unset, .unset, .unset, .unset, .unset, .unset, .unset, .unset, .unset, .unset, .unset, .unset, .unset, .unset, .unset] [])) t := by
    rcases (show nf.toInt = 0 ∨ nf.toInt = 1 ∨ nf.toInt = 2 by omega) with hk | hk | hk
    · skip
      obtain rfl : nf = (0 : Int32) := own_eq.mpr hk
      obtain ⟨T11, h11, k11, X11, e11, E11, A11, st11⟩ := newP X8 hx hZ (hw _ (List.mem_of_getElem? (i := 8) rfl)) e8 (g := (mkF m 113 #[.val (.long q0), .second, .val (.long q1), .second, .val (.int p2), .val (.int p3), .val (.int p4), .val (.int p5), .val (.int (0 : Int32)), .val (.int ns), .val (.int (q0.toInt32)), .val (.int (((q0.toUInt64 >>> ((32 : Int32) &&& 0x3f).toInt64.toUInt64).toInt64).toInt32)), .val (.int f0), .val (.int f1), .val (.int (q1.toInt32)), .val (.int (((q1.toUInt64 >>> ((32 : Int32) &&& 0x3f).toInt64.toUInt64).toInt64).toInt32)), .val (.int vlo), .val (.int vhi), .val (.int s0), .val (.int vt), .val (.int s1), .val (.int s2), .unset, .unset, .unset, .unset] [(.int (0 : Int32))])) rfl (hb hby at_113) rfl (by decide) (cap := 0) (by decide) (by decide) (by decide) (by decide)
      obtain ⟨b11, g11⟩ : ∃ z, z = h0.size := ⟨_, rfl⟩
      rw [← g11] at A11 st11
      have g_b11 : n0 ≤ b11 := Nat.le_trans Z0 (Nat.le_of_eq g11.symm)
      skip
      have Z11 : n0 ≤ h11.size := Nat.le_trans Z0 E11.1
      have K11 : Keep h0 h11 [] := KR.ext E11
      have sz_b11 : h0.size ≤ b11 := Nat.le_trans KR.1 (Nat.le_of_eq g11.symm)
      have V11 : Arv Z h11 b11 k11 .int (0 : Int32) [] (.int (0 : Int32)) := (Arv.new A11 (by decide))
      have hc12 : (0 : Int32) < (1 : Int32) := by decide
      have hc13 : (0 : Int32) < (2 : Int32) := by decide
      obtain ⟨cl14, Ar14, -, Sz14, -, Hh14, -⟩ := V11
      refine ⟨b11, cl14, T11, _, h11, X11.more (by decide) (by decide), e11, N8, Z11, K11, ⟨Ar14, Sz14, fun j hj => by
        have q := Hh14 j (by rw [Sz14]; exact hj)
        have hj' : j < 0 := hj
        omega⟩, fun t k => pre9 t ?_⟩
      show Steps p.tables e below (T8.setTop (mkF m 111 #[.val (.long q0), .second, .val (.long q1), .second, .val (.int p2), .val (.int p3), .val (.int p4), .val (.int p5), .val (.int (0 : Int32)), .val (.int ns), .val (.int (q0.toInt32)), .val (.int (((q0.toUInt64 >>> ((32 : Int32) &&& 0x3f).toInt64.toUInt64).toInt64).toInt32)), .val (.int f0), .val (.int f1), .val (.int (q1.toInt32)), .val (.int (((q1.toUInt64 >>> ((32 : Int32) &&& 0x3f).toInt64.toUInt64).toInt64).toInt32)), .val (.int vlo), .val (.int vhi), .val (.int s0), .val (.int vt), .val (.int s1), .val (.int s2), .unset, .unset, .unset, .unset] [])) _
      refine XS.iload X8.here hx rfl (hb hby at_111) rfl ?_
      show Steps p.tables e below (T8.setTop (mkF m 113 #[.val (.long q0), .second, .val (.long q1), .second, .val (.int p2), .val (.int p3), .val (.int p4), .val (.int p5), .val (.int (0 : Int32)), .val (.int ns), .val (.int (q0.toInt32)), .val (.int (((q0.toUInt64 >>> ((32 : Int32) &&& 0x3f).toInt64.toUInt64).toInt64).toInt32)), .val (.int f0), .val (.int f1), .val (.int (q1.toInt32)), .val (.int (((q1.toUInt64 >>> ((32 : Int32) &&& 0x3f).toInt64.toUInt64).toInt64).toInt32)), .val (.int vlo), .val (.int vhi), .val (.int s0), .val (.int vt), .val (.int s1), .val (.int s2), .unset, .unset, .unset, .unset] [(.int (0 : Int32))])) _
      refine st11 _ ?_
      show Steps p.tables e below (T11.setTop (mkF m 115 #[.val (.long q0), .second, .val (.long q1), .second, .val (.int p2), .val (.int p3), .val (.int p4), .val (.int p5), .val (.int (0 : Int32)), .val (.int ns), .val (.int (q0.toInt32)), .val (.int (((q0.toUInt64 >>> ((32 : Int32) &&& 0x3f).toInt64.toUInt64).toInt64).toInt32)), .val (.int f0), .val (.int f1), .val (.int (q1.toInt32)), .val (.int (((q1.toUInt64 >>> ((32 : Int32) &&& 0x3f).toInt64.toUInt64).toInt64).toInt32)), .val (.int vlo), .val (.int vhi), .val (.int s0), .val (.int vt), .val (.int s1), .val (.int s2), .unset, .unset, .unset, .unset] [(.ref b11)])) _
      refine XS.astore X11.here hx rfl (hb hby at_115) rfl rfl (l' := #[.val (.long q0), .second, .val (.long q1), .second, .val (.int p2), .val (.int p3), .val (.int p4), .val (.int p5), .val (.int (0 : Int32)), .val (.int ns), .val (.int (q0.toInt32)), .val (.int (((q0.toUInt64 >>> ((32 : Int32) &&& 0x3f).toInt64.toUInt64).toInt64).toInt32)), .val (.int f0), .val (.int f1), .val (.int (q1.toInt32)), .val (.int (((q1.toUInt64 >>> ((32 : Int32) &&& 0x3f).toInt64.toUInt64).toInt64).toInt32)), .val (.int vlo), .val (.int vhi), .val (.int s0), .val (.int vt), .val (.int s1), .val (.int s2), .val (.ref b11), .unset, .unset, .unset]) rfl ?_
      show Steps p.tables e below (T11.setTop (mkF m 117 #[.val (.long q0), .second, .val (.long q1), .second, .val (.int p2), .val (.int p3), .val (.int p4), .val (.int p5), .val (.int (0 : Int32)), .val (.int ns), .val (.int (q0.toInt32)), .val (.int (((q0.toUInt64 >>> ((32 : Int32) &&& 0x3f).toInt64.toUInt64).toInt64).toInt32)), .val (.int f0), .val (.int f1), .val (.int (q1.toInt32)), .val (.int (((q1.toUInt64 >>> ((32 : Int32) &&& 0x3f).toInt64.toUInt64).toInt64).toInt32)), .val (.int vlo), .val (.int vhi), .val (.int s0), .val (.int vt), .val (.int s1), .val (.int s2), .val (.ref b11), .unset, .unset, .unset] [])) _
      refine XS.iload X11.here hx rfl (hb hby at_117) rfl ?_
      show Steps p.tables e below (T11.setTop (mkF m 119 #[.val (.long q0), .second, .val (.long q1), .second, .val (.int p2), .val (.int p3), .val (.int p4), .val (.int p5), .val (.int (0 : Int32)), .val (.int ns), .val (.int (q0.toInt32)), .val (.int (((q0.toUInt64 >>> ((32 : Int32) &&& 0x3f).toInt64.toUInt64).toInt64).toInt32)), .val (.int f0), .val (.int f1), .val (.int (q1.toInt32)), .val (.int (((q1.toUInt64 >>> ((32 : Int32) &&& 0x3f).toInt64.toUInt64).toInt64).toInt32)), .val (.int vlo), .val (.int vhi), .val (.int s0), .val (.int vt), .val (.int s1), .val (.int s2), .val (.ref b11), .unset, .unset, .unset] [(.int (0 : Int32))])) _
      refine XS.iconst X11.here hx rfl (hb hby at_119) ?_
      show Steps p.tables e below (T11.setTop (mkF m 120 #[.val (.long q0), .second, .val (.long q1), .second, .val (.int p2), .val (.int p3), .val (.int p4), .val (.int p5), .val (.int (0 : Int32)), .val (.int ns), .val (.int (q0.toInt32)), .val (.int (((q0.toUInt64 >>> ((32 : Int32) &&& 0x3f).toInt64.toUInt64).toInt64).toInt32)), .val (.int f0), .val (.int f1), .val (.int (q1.toInt32)), .val (.int (((q1.toUInt64 >>> ((32 : Int32) &&& 0x3f).toInt64.toUInt64).toInt64).toInt32)), .val (.int vlo), .val (.int vhi), .val (.int s0), .val (.int vt), .val (.int s1), .val (.int s2), .val (.ref b11), .unset, .unset, .unset] [(.int (1 : Int32)), (.int (0 : Int32))])) _
      refine XS.icmpYes X11.here hx rfl (pc0 := 120) (pc' := 129) rfl (hb hby at_120) rfl (tlt hc12).1 (by decide) (by decide) ?_
      show Steps p.tables e below (T11.setTop (mkF m 129 #[.val (.long q0), .second, .val (.long q1), .second, .val (.int p2), .val (.int p3), .val (.int p4), .val (.int p5), .val (.int (0 : Int32)), .val (.int ns), .val (.int (q0.toInt32)), .val (.int (((q0.toUInt64 >>> ((32 : Int32) &&& 0x3f).toInt64.toUInt64).toInt64).toInt32)), .val (.int f0), .val (.int f1), .val (.int (q1.toInt32)), .val (.int (((q1.toUInt64 >>> ((32 : Int32) &&& 0x3f).toInt64.toUInt64).toInt64).toInt32)), .val (.int vlo), .val (.int vhi), .val (.int s0), .val (.int vt), .val (.int s1), .val (.int s2), .val (.ref b11), .unset, .unset, .unset] [])) _
      refine XS.iload X11.here hx rfl (hb hby at_129) rfl ?_
      show Steps p.tables e below (T11.setTop (mkF m 131 #[.val (.long q0), .second, .val (.long q1), .second, .val (.int p2), .val (.int p3), .val (.int p4), .val (.int p5), .val (.int (0 : Int32)), .val (.int ns), .val (.int (q0.toInt32)), .val (.int (((q0.toUInt64 >>> ((32 : Int32) &&& 0x3f).toInt64.toUInt64).toInt64).toInt32)), .val (.int f0), .val (.int f1), .val (.int (q1.toInt32)), .val (.int (((q1.toUInt64 >>> ((32 : Int32) &&& 0x3f).toInt64.toUInt64).toInt64).toInt32)), .val (.int vlo), .val (.int vhi), .val (.int s0), .val (.int vt), .val (.int s1), .val (.int s2), .val (.ref b11), .unset, .unset, .unset] [(.int (0 : Int32))])) _
      refine XS.iconst X11.here hx rfl (hb hby at_131) ?_
      show Steps p.tables e below (T11.setTop (mkF m 132 #[.val (.long q0), .second, .val (.long q1), .second, .val (.int p2), .val (.int p3), .val (.int p4), .val (.int p5), .val (.int (0 : Int32)), .val (.int ns), .val (.int (q0.toInt32)), .val (.int (((q0.toUInt64 >>> ((32 : Int32) &&& 0x3f).toInt64.toUInt64).toInt64).toInt32)), .val (.int f0), .val (.int f1), .val (.int (q1.toInt32)), .val (.int (((q1.toUInt64 >>> ((32 : Int32) &&& 0x3f).toInt64.toUInt64).toInt64).toInt32)), .val (.int vlo), .val (.int vhi), .val (.int s0), .val (.int vt), .val (.int s1), .val (.int s2), .val (.ref b11), .unset, .unset, .unset] [(.int (2 : Int32)), (.int (0 : Int32))])) _
      refine XS.icmpYes X11.here hx rfl (pc0 := 132) (pc' := 141) rfl (hb hby at_132) rfl (tlt hc13).1 (by decide) (by decide) ?_
      exact k
    · skip
      obtain rfl : nf = (1 : Int32) := own_eq.mpr hk
      obtain ⟨T15, h15, k15, X15, e15, E15, A15, st15⟩ := newP X8 hx hZ (hw _ (List.mem_of_getElem? (i := 8) rfl)) e8 (g := (mkF m 113 #[.val (.long q0), .second, .val (.long q1), .second, .val (.int p2), .val (.int p3), .val (.int p4), .val (.int p5), .val (.int (1 : Int32)), .val (.int ns), .val (.int (q0.toInt32)), .val (.int (((q0.toUInt64 >>> ((32 : Int32) &&& 0x3f).toInt64.toUInt64).toInt64).toInt32)), .val (.int f0), .val (.int f1), .val (.int (q1.toInt32)), .val (.int (((q1.toUInt64 >>> ((32 : Int32) &&& 0x3f).toInt64.toUInt64).toInt64).toInt32)), .val (.int vlo), .val (.int vhi), .val (.int s0), .val (.int vt), .val (.int s1), .val (.int s2), .unset, .unset, .unset, .unset] [(.int (1 : Int32))])) rfl (hb hby at_113) rfl (by decide) (cap := 1) (by decide) (by decide) (by decide) (by decide)
      obtain ⟨b15, g15⟩ : ∃ z, z = h0.size := ⟨_, rfl⟩
      rw [← g15] at A15 st15
      have g_b15 : n0 ≤ b15 := Nat.le_trans Z0 (Nat.le_of_eq g15.symm)
      skip
      have Z15 : n0 ≤ h15.size := Nat.le_trans Z0 E15.1
      have K15 : Keep h0 h15 [] := KR.ext E15
      have sz_b15 : h0.size ≤ b15 := Nat.le_trans KR.1 (Nat.le_of_eq g15.symm)
      have V15 : Arv Z h15 b15 k15 .int (1 : Int32) [(.int (0 : Int32))] (.int (0 : Int32)) := (Arv.new A15 (by decide)).pad (pad_rep [] (.int (0 : Int32)) 1)
      have hc16 : ¬ ((1 : Int32) < (1 : Int32)) := by decide
      obtain ⟨cl17, Ar17, q17, Sz17, Nn17, Hh17, Gg17⟩ := id V15
      have hin17 : ¬ ((0 : Int32) < 0 ∨ cl17.slots.size ≤ ((0 : Int32)).toNatClampNeg) := inb_of Sz17 ⟨by decide, by decide⟩
      obtain ⟨T18, h18, X18, e18, W18, st18⟩ := stI X15 hx hZ e15 Ar17 (j := (0 : Int32)) hin17 (g := (mkF m 128 #[.val (.long q0), .second, .val (.long q1), .second, .val (.int p2), .val (.int p3), .val (.int p4), .val (.int p5), .val (.int (1 : Int32)), .val (.int ns), .val (.int (q0.toInt32)), .val (.int (((q0.toUInt64 >>> ((32 : Int32) &&& 0x3f).toInt64.toUInt64).toInt64).toInt32)), .val (.int f0), .val (.int f1), .val (.int (q1.toInt32)), .val (.int (((q1.toUInt64 >>> ((32 : Int32) &&& 0x3f).toInt64.toUInt64).toInt64).toInt32)), .val (.int vlo), .val (.int vhi), .val (.int s0), .val (.int vt), .val (.int s1), .val (.int s2), .val (.ref b15), .unset, .unset, .unset] [(.int f0), (.int (0 : Int32)), (.ref b15)])) rfl rfl (hb hby at_128)
      have V18 : Arv Z h18 b15 k15 .int (1 : Int32) [(.int f0)] (.int (0 : Int32)) := Arv.set Ar17 q17 Sz17 Nn17 Hh17 Gg17 rfl W18 0 rfl (Nat.le_of_ble_eq_true rfl)
      have N18 := Fr.snoc X18 N8 g_b15
      have Z18 : n0 ≤ h18.size := Nat.le_trans Z15 (Keep.of_wr W18).1
      have K18 : Keep h0 h18 [] := K15.wr W18 (Or.inr sz_b15)
      have hc19 : (1 : Int32) < (2 : Int32) := by decide
      obtain ⟨cl20, Ar20, -, Sz20, -, Hh20, -⟩ := V18
      refine ⟨b15, cl20, T18, _, h18, X18.more (by decide) (by decide), e18, N18, Z18, K18, ⟨Ar20, Sz20, fun j hj => by
        have q := Hh20 j (by rw [Sz20]; exact hj)
        have hj' : j < 1 := hj
        obtain rfl : j = 0 := by omega
        exact q⟩, fun t k => pre9 t ?_⟩
      show Steps p.tables e below (T8.setTop (mkF m 111 #[.val (.long q0), .second, .val (.long q1), .second, .val (.int p2), .val (.int p3), .val (.int p4), .val (.int p5), .val (.int (1 : Int32)), .val (.int ns), .val (.int (q0.toInt32)), .val (.int (((q0.toUInt64 >>> ((32 : Int32) &&& 0x3f).toInt64.toUInt64).toInt64).toInt32)), .val (.int f0), .val (.int f1), .val (.int (q1.toInt32)), .val (.int (((q1.toUInt64 >>> ((32 : Int32) &&& 0x3f).toInt64.toUInt64).toInt64).toInt32)), .val (.int vlo), .val (.int vhi), .val (.int s0), .val (.int vt), .val (.int s1), .val (.int s2), .unset, .unset, .unset, .unset] [])) _
      refine XS.iload X8.here hx rfl (hb hby at_111) rfl ?_
      show Steps p.tables e below (T8.setTop (mkF m 113 #[.val (.long q0), .second, .val (.long q1), .second, .val (.int p2), .val (.int p3), .val (.int p4), .val (.int p5), .val (.int (1 : Int32)), .val (.int ns), .val (.int (q0.toInt32)), .val (.int (((q0.toUInt64 >>> ((32 : Int32) &&& 0x3f).toInt64.toUInt64).toInt64).toInt32)), .val (.int f0), .val (.int f1), .val (.int (q1.toInt32)), .val (.int (((q1.toUInt64 >>> ((32 : Int32) &&& 0x3f).toInt64.toUInt64).toInt64).toInt32)), .val (.int vlo), .val (.int vhi), .val (.int s0), .val (.int vt), .val (.int s1), .val (.int s2), .unset, .unset, .unset, .unset] [(.int (1 : Int32))])) _
      refine st15 _ ?_
      show Steps p.tables e below (T15.setTop (mkF m 115 #[.val (.long q0), .second, .val (.long q1), .second, .val (.int p2), .val (.int p3), .val (.int p4), .val (.int p5), .val (.int (1 : Int32)), .val (.int ns), .val (.int (q0.toInt32)), .val (.int (((q0.toUInt64 >>> ((32 : Int32) &&& 0x3f).toInt64.toUInt64).toInt64).toInt32)), .val (.int f0), .val (.int f1), .val (.int (q1.toInt32)), .val (.int (((q1.toUInt64 >>> ((32 : Int32) &&& 0x3f).toInt64.toUInt64).toInt64).toInt32)), .val (.int vlo), .val (.int vhi), .val (.int s0), .val (.int vt), .val (.int s1), .val (.int s2), .unset, .unset, .unset, .unset] [(.ref b15)])) _
      refine XS.astore X15.here hx rfl (hb hby at_115) rfl rfl (l' := #[.val (.long q0), .second, .val (.long q1), .second, .val (.int p2), .val (.int p3), .val (.int p4), .val (.int p5), .val (.int (1 : Int32)), .val (.int ns), .val (.int (q0.toInt32)), .val (.int (((q0.toUInt64 >>> ((32 : Int32) &&& 0x3f).toInt64.toUInt64).toInt64).toInt32)), .val (.int f0), .val (.int f1), .val (.int (q1.toInt32)), .val (.int (((q1.toUInt64 >>> ((32 : Int32) &&& 0x3f).toInt64.toUInt64).toInt64).toInt32)), .val (.int vlo), .val (.int vhi), .val (.int s0), .val (.int vt), .val (.int s1), .val (.int s2), .val (.ref b15), .unset, .unset, .unset]) rfl ?_
      show Steps p.tables e below (T15.setTop (mkF m 117 #[.val (.long q0), .second, .val (.long q1), .second, .val (.int p2), .val (.int p3), .val (.int p4), .val (.int p5), .val (.int (1 : Int32)), .val (.int ns), .val (.int (q0.toInt32)), .val (.int (((q0.toUInt64 >>> ((32 : Int32) &&& 0x3f).toInt64.toUInt64).toInt64).toInt32)), .val (.int f0), .val (.int f1), .val (.int (q1.toInt32)), .val (.int (((q1.toUInt64 >>> ((32 : Int32) &&& 0x3f).toInt64.toUInt64).toInt64).toInt32)), .val (.int vlo), .val (.int vhi), .val (.int s0), .val (.int vt), .val (.int s1), .val (.int s2), .val (.ref b15), .unset, .unset, .unset] [])) _
      refine XS.iload X15.here hx rfl (hb hby at_117) rfl ?_
      show Steps p.tables e below (T15.setTop (mkF m 119 #[.val (.long q0), .second, .val (.long q1), .second, .val (.int p2), .val (.int p3), .val (.int p4), .val (.int p5), .val (.int (1 : Int32)), .val (.int ns), .val (.int (q0.toInt32)), .val (.int (((q0.toUInt64 >>> ((32 : Int32) &&& 0x3f).toInt64.toUInt64).toInt64).toInt32)), .val (.int f0), .val (.int f1), .val (.int (q1.toInt32)), .val (.int (((q1.toUInt64 >>> ((32 : Int32) &&& 0x3f).toInt64.toUInt64).toInt64).toInt32)), .val (.int vlo), .val (.int vhi), .val (.int s0), .val (.int vt), .val (.int s1), .val (.int s2), .val (.ref b15), .unset, .unset, .unset] [(.int (1 : Int32))])) _
      refine XS.iconst X15.here hx rfl (hb hby at_119) ?_
      show Steps p.tables e below (T15.setTop (mkF m 120 #[.val (.long q0), .second, .val (.long q1), .second, .val (.int p2), .val (.int p3), .val (.int p4), .val (.int p5), .val (.int (1 : Int32)), .val (.int ns), .val (.int (q0.toInt32)), .val (.int (((q0.toUInt64 >>> ((32 : Int32) &&& 0x3f).toInt64.toUInt64).toInt64).toInt32)), .val (.int f0), .val (.int f1), .val (.int (q1.toInt32)), .val (.int (((q1.toUInt64 >>> ((32 : Int32) &&& 0x3f).toInt64.toUInt64).toInt64).toInt32)), .val (.int vlo), .val (.int vhi), .val (.int s0), .val (.int vt), .val (.int s1), .val (.int s2), .val (.ref b15), .unset, .unset, .unset] [(.int (1 : Int32)), (.int (1 : Int32))])) _
      refine XS.icmpNo X15.here hx rfl (hb hby at_120) rfl (flt hc16).1 ?_
      show Steps p.tables e below (T15.setTop (mkF m 123 #[.val (.long q0), .second, .val (.long q1), .second, .val (.int p2), .val (.int p3), .val (.int p4), .val (.int p5), .val (.int (1 : Int32)), .val (.int ns), .val (.int (q0.toInt32)), .val (.int (((q0.toUInt64 >>> ((32 : Int32) &&& 0x3f).toInt64.toUInt64).toInt64).toInt32)), .val (.int f0), .val (.int f1), .val (.int (q1.toInt32)), .val (.int (((q1.toUInt64 >>> ((32 : Int32) &&& 0x3f).toInt64.toUInt64).toInt64).toInt32)), .val (.int vlo), .val (.int vhi), .val (.int s0), .val (.int vt), .val (.int s1), .val (.int s2), .val (.ref b15), .unset, .unset, .unset] [])) _
      refine XS.aload X15.here hx rfl (hb hby at_123) rfl rfl ?_
      show Steps p.tables e below (T15.setTop (mkF m 125 #[.val (.long q0), .second, .val (.long q1), .second, .val (.int p2), .val (.int p3), .val (.int p4), .val (.int p5), .val (.int (1 : Int32)), .val (.int ns), .val (.int (q0.toInt32)), .val (.int (((q0.toUInt64 >>> ((32 : Int32) &&& 0x3f).toInt64.toUInt64).toInt64).toInt32)), .val (.int f0), .val (.int f1), .val (.int (q1.toInt32)), .val (.int (((q1.toUInt64 >>> ((32 : Int32) &&& 0x3f).toInt64.toUInt64).toInt64).toInt32)), .val (.int vlo), .val (.int vhi), .val (.int s0), .val (.int vt), .val (.int s1), .val (.int s2), .val (.ref b15), .unset, .unset, .unset] [(.ref b15)])) _
      refine XS.iconst X15.here hx rfl (hb hby at_125) ?_
      show Steps p.tables e below (T15.setTop (mkF m 126 #[.val (.long q0), .second, .val (.long q1), .second, .val (.int p2), .val (.int p3), .val (.int p4), .val (.int p5), .val (.int (1 : Int32)), .val (.int ns), .val (.int (q0.toInt32)), .val (.int (((q0.toUInt64 >>> ((32 : Int32) &&& 0x3f).toInt64.toUInt64).toInt64).toInt32)), .val (.int f0), .val (.int f1), .val (.int (q1.toInt32)), .val (.int (((q1.toUInt64 >>> ((32 : Int32) &&& 0x3f).toInt64.toUInt64).toInt64).toInt32)), .val (.int vlo), .val (.int vhi), .val (.int s0), .val (.int vt), .val (.int s1), .val (.int s2), .val (.ref b15), .unset, .unset, .unset] [(.int (0 : Int32)), (.ref b15)])) _
      refine XS.iload X15.here hx rfl (hb hby at_126) rfl ?_
      show Steps p.tables e below (T15.setTop (mkF m 128 #[.val (.long q0), .second, .val (.long q1), .second, .val (.int p2), .val (.int p3), .val (.int p4), .val (.int p5), .val (.int (1 : Int32)), .val (.int ns), .val (.int (q0.toInt32)), .val (.int (((q0.toUInt64 >>> ((32 : Int32) &&& 0x3f).toInt64.toUInt64).toInt64).toInt32)), .val (.int f0), .val (.int f1), .val (.int (q1.toInt32)), .val (.int (((q1.toUInt64 >>> ((32 : Int32) &&& 0x3f).toInt64.toUInt64).toInt64).toInt32)), .val (.int vlo), .val (.int vhi), .val (.int s0), .val (.int vt), .val (.int s1), .val (.int s2), .val (.ref b15), .unset, .unset, .unset] [(.int f0), (.int (0 : Int32)), (.ref b15)])) _
      refine st18 _ ?_
      show Steps p.tables e below (T18.setTop (mkF m 129 #[.val (.long q0), .second, .val (.long q1), .second, .val (.int p2), .val (.int p3), .val (.int p4), .val (.int p5), .val (.int (1 : Int32)), .val (.int ns), .val (.int (q0.toInt32)), .val (.int (((q0.toUInt64 >>> ((32 : Int32) &&& 0x3f).toInt64.toUInt64).toInt64).toInt32)), .val (.int f0), .val (.int f1), .val (.int (q1.toInt32)), .val (.int (((q1.toUInt64 >>> ((32 : Int32) &&& 0x3f).toInt64.toUInt64).toInt64).toInt32)), .val (.int vlo), .val (.int vhi), .val (.int s0), .val (.int vt), .val (.int s1), .val (.int s2), .val (.ref b15), .unset, .unset, .unset] [])) _
      refine XS.iload X18.here hx rfl (hb hby at_129) rfl ?_
      show Steps p.tables e below (T18.setTop (mkF m 131 #[.val (.long q0), .second, .val (.long q1), .second, .val (.int p2), .val (.int p3), .val (.int p4), .val (.int p5), .val (.int (1 : Int32)), .val (.int ns), .val (.int (q0.toInt32)), .val (.int (((q0.toUInt64 >>> ((32 : Int32) &&& 0x3f).toInt64.toUInt64).toInt64).toInt32)), .val (.int f0), .val (.int f1), .val (.int (q1.toInt32)), .val (.int (((q1.toUInt64 >>> ((32 : Int32) &&& 0x3f).toInt64.toUInt64).toInt64).toInt32)), .val (.int vlo), .val (.int vhi), .val (.int s0), .val (.int vt), .val (.int s1), .val (.int s2), .val (.ref b15), .unset, .unset, .unset] [(.int (1 : Int32))])) _
      refine XS.iconst X18.here hx rfl (hb hby at_131) ?_
      show Steps p.tables e below (T18.setTop (mkF m 132 #[.val (.long q0), .second, .val (.long q1), .second, .val (.int p2), .val (.int p3), .val (.int p4), .val (.int p5), .val (.int (1 : Int32)), .val (.int ns), .val (.int (q0.toInt32)), .val (.int (((q0.toUInt64 >>> ((32 : Int32) &&& 0x3f).toInt64.toUInt64).toInt64).toInt32)), .val (.int f0), .val (.int f1), .val (.int (q1.toInt32)), .val (.int (((q1.toUInt64 >>> ((32 : Int32) &&& 0x3f).toInt64.toUInt64).toInt64).toInt32)), .val (.int vlo), .val (.int vhi), .val (.int s0), .val (.int vt), .val (.int s1), .val (.int s2), .val (.ref b15), .unset, .unset, .unset] [(.int (2 : Int32)), (.int (1 : Int32))])) _
      refine XS.icmpYes X18.here hx rfl (pc0 := 132) (pc' := 141) rfl (hb hby at_132) rfl (tlt hc19).1 (by decide) (by decide) ?_
      exact k
    · skip
      obtain rfl : nf = (2 : Int32) := own_eq.mpr hk
      obtain ⟨T21, h21, k21, X21, e21, E21, A21, st21⟩ := newP X8 hx hZ (hw _ (List.mem_of_getElem? (i := 8) rfl)) e8 (g := (mkF m 113 #[.val (.long q0), .second, .val (.long q1), .second, .val (.int p2), .val (.int p3), .val (.int p4), .val (.int p5), .val (.int (2 : Int32)), .val (.int ns), .val (.int (q0.toInt32)), .val (.int (((q0.toUInt64 >>> ((32 : Int32) &&& 0x3f).toInt64.toUInt64).toInt64).toInt32)), .val (.int f0), .val (.int f1), .val (.int (q1.toInt32)), .val (.int (((q1.toUInt64 >>> ((32 : Int32) &&& 0x3f).toInt64.toUInt64).toInt64).toInt32)), .val (.int vlo), .val (.int vhi), .val (.int s0), .val (.int vt), .val (.int s1), .val (.int s2), .unset, .unset, .unset, .unset] [(.int (2 : Int32))])) rfl (hb hby at_113) rfl (by decide) (cap := 2) (by decide) (by decide) (by decide) (by decide)
      obtain ⟨b21, g21⟩ : ∃ z, z = h0.size := ⟨_, rfl⟩
      rw [← g21] at A21 st21
      have g_b21 : n0 ≤ b21 := Nat.le_trans Z0 (Nat.le_of_eq g21.symm)
      skip
      have Z21 : n0 ≤ h21.size := Nat.le_trans Z0 E21.1
      have K21 : Keep h0 h21 [] := KR.ext E21
      have sz_b21 : h0.size ≤ b21 := Nat.le_trans KR.1 (Nat.le_of_eq g21.symm)
      have V21 : Arv Z h21 b21 k21 .int (2 : Int32) [(.int (0 : Int32)), (.int (0 : Int32))] (.int (0 : Int32)) := (Arv.new A21 (by decide)).pad (pad_rep [] (.int (0 : Int32)) 2)
      have hc22 : ¬ ((2 : Int32) < (1 : Int32)) := by decide
      obtain ⟨cl23, Ar23, q23, Sz23, Nn23, Hh23, Gg23⟩ := id V21
      have hin23 : ¬ ((0 : Int32) < 0 ∨ cl23.slots.size ≤ ((0 : Int32)).toNatClampNeg) := inb_of Sz23 ⟨by decide, by decide⟩
      obtain ⟨T24, h24, X24, e24, W24, st24⟩ := stI X21 hx hZ e21 Ar23 (j := (0 : Int32)) hin23 (g := (mkF m 128 #[.val (.long q0), .second, .val (.long q1), .second, .val (.int p2), .val (.int p3), .val (.int p4), .val (.int p5), .val (.int (2 : Int32)), .val (.int ns), .val (.int (q0.toInt32)), .val (.int (((q0.toUInt64 >>> ((32 : Int32) &&& 0x3f).toInt64.toUInt64).toInt64).toInt32)), .val (.int f0), .val (.int f1), .val (.int (q1.toInt32)), .val (.int (((q1.toUInt64 >>> ((32 : Int32) &&& 0x3f).toInt64.toUInt64).toInt64).toInt32)), .val (.int vlo), .val (.int vhi), .val (.int s0), .val (.int vt), .val (.int s1), .val (.int s2), .val (.ref b21), .unset, .unset, .unset] [(.int f0), (.int (0 : Int32)), (.ref b21)])) rfl rfl (hb hby at_128)
      have V24 : Arv Z h24 b21 k21 .int (2 : Int32) [(.int f0), (.int (0 : Int32))] (.int (0 : Int32)) := Arv.set Ar23 q23 Sz23 Nn23 Hh23 Gg23 rfl W24 0 rfl (Nat.le_of_ble_eq_true rfl)
      have N24 := Fr.snoc X24 N8 g_b21
      have Z24 : n0 ≤ h24.size := Nat.le_trans Z21 (Keep.of_wr W24).1
      have K24 : Keep h0 h24 [] := K21.wr W24 (Or.inr sz_b21)
      have hc25 : ¬ ((2 : Int32) < (2 : Int32)) := by decide
      obtain ⟨cl26, Ar26, q26, Sz26, Nn26, Hh26, Gg26⟩ := id V24
      have hin26 : ¬ ((1 : Int32) < 0 ∨ cl26.slots.size ≤ ((1 : Int32)).toNatClampNeg) := inb_of Sz26 ⟨by decide, by decide⟩
      obtain ⟨T27, h27, X27, e27, W27, st27⟩ := stI X24 hx hZ e24 Ar26 (j := (1 : Int32)) hin26 (g := (mkF m 140 #[.val (.long q0), .second, .val (.long q1), .second, .val (.int p2), .val (.int p3), .val (.int p4), .val (.int p5), .val (.int (2 : Int32)), .val (.int ns), .val (.int (q0.toInt32)), .val (.int (((q0.toUInt64 >>> ((32 : Int32) &&& 0x3f).toInt64.toUInt64).toInt64).toInt32)), .val (.int f0), .val (.int f1), .val (.int (q1.toInt32)), .val (.int (((q1.toUInt64 >>> ((32 : Int32) &&& 0x3f).toInt64.toUInt64).toInt64).toInt32)), .val (.int vlo), .val (.int vhi), .val (.int s0), .val (.int vt), .val (.int s1), .val (.int s2), .val (.ref b21), .unset, .unset, .unset] [(.int f1), (.int (1 : Int32)), (.ref b21)])) rfl rfl (hb hby at_140)
      have V27 : Arv Z h27 b21 k21 .int (2 : Int32) [(.int f0), (.int f1)] (.int (0 : Int32)) := Arv.set Ar26 q26 Sz26 Nn26 Hh26 Gg26 rfl W27 1 rfl (Nat.le_of_ble_eq_true rfl)
      have N27 := Fr.snoc X27 N24 g_b21
      have Z27 : n0 ≤ h27.size := Nat.le_trans Z24 (Keep.of_wr W27).1
      have K27 : Keep h0 h27 [] := K24.wr W27 (Or.inr sz_b21)
      obtain ⟨cl28, Ar28, -, Sz28, -, Hh28, -⟩ := V27
      refine ⟨b21, cl28, T27, _, h27, X27.more (by decide) (by decide), e27, N27, Z27, K27, ⟨Ar28, Sz28, fun j hj => by
        have q := Hh28 j (by rw [Sz28]; exact hj)
        have hj' : j < 2 := hj
        rcases (show j = 0 ∨ j = 1 by omega) with rfl | rfl <;> exact q⟩, fun t k => pre9 t ?_⟩
      show Steps p.tables e below (T8.setTop (mkF m 111 #[.val (.long q0), .second, .val (.long q1), .second, .val (.int p2), .val (.int p3), .val (.int p4), .val (.int p5), .val (.int (2 : Int32)), .val (.int ns), .val (.int (q0.toInt32)), .val (.int (((q0.toUInt64 >>> ((32 : Int32) &&& 0x3f).toInt64.toUInt64).toInt64).toInt32)), .val (.int f0), .val (.int f1), .val (.int (q1.toInt32)), .val (.int (((q1.toUInt64 >>> ((32 : Int32) &&& 0x3f).toInt64.toUInt64).toInt64).toInt32)), .val (.int vlo), .val (.int vhi), .val (.int s0), .val (.int vt), .val (.int s1), .val (.int s2), .unset, .unset, .unset, .unset] [])) _
      refine XS.iload X8.here hx rfl (hb hby at_111) rfl ?_
      show Steps p.tables e below (T8.setTop (mkF m 113 #[.val (.long q0), .second, .val (.long q1), .second, .val (.int p2), .val (.int p3), .val (.int p4), .val (.int p5), .val (.int (2 : Int32)), .val (.int ns), .val (.int (q0.toInt32)), .val (.int (((q0.toUInt64 >>> ((32 : Int32) &&& 0x3f).toInt64.toUInt64).toInt64).toInt32)), .val (.int f0), .val (.int f1), .val (.int (q1.toInt32)), .val (.int (((q1.toUInt64 >>> ((32 : Int32) &&& 0x3f).toInt64.toUInt64).toInt64).toInt32)), .val (.int vlo), .val (.int vhi), .val (.int s0), .val (.int vt), .val (.int s1), .val (.int s2), .unset, .unset, .unset, .unset] [(.int (2 : Int32))])) _
      refine st21 _ ?_
      show Steps p.tables e below (T21.setTop (mkF m 115 #[.val (.long q0), .second, .val (.long q1), .second, .val (.int p2), .val (.int p3), .val (.int p4), .val (.int p5), .val (.int (2 : Int32)), .val (.int ns), .val (.int (q0.toInt32)), .val (.int (((q0.toUInt64 >>> ((32 : Int32) &&& 0x3f).toInt64.toUInt64).toInt64).toInt32)), .val (.int f0), .val (.int f1), .val (.int (q1.toInt32)), .val (.int (((q1.toUInt64 >>> ((32 : Int32) &&& 0x3f).toInt64.toUInt64).toInt64).toInt32)), .val (.int vlo), .val (.int vhi), .val (.int s0), .val (.int vt), .val (.int s1), .val (.int s2), .unset, .unset, .unset, .unset] [(.ref b21)])) _
      refine XS.astore X21.here hx rfl (hb hby at_115) rfl rfl (l' := #[.val (.long q0), .second, .val (.long q1), .second, .val (.int p2), .val (.int p3), .val (.int p4), .val (.int p5), .val (.int (2 : Int32)), .val (.int ns), .val (.int (q0.toInt32)), .val (.int (((q0.toUInt64 >>> ((32 : Int32) &&& 0x3f).toInt64.toUInt64).toInt64).toInt32)), .val (.int f0), .val (.int f1), .val (.int (q1.toInt32)), .val (.int (((q1.toUInt64 >>> ((32 : Int32) &&& 0x3f).toInt64.toUInt64).toInt64).toInt32)), .val (.int vlo), .val (.int vhi), .val (.int s0), .val (.int vt), .val (.int s1), .val (.int s2), .val (.ref b21), .unset, .unset, .unset]) rfl ?_
      show Steps p.tables e below (T21.setTop (mkF m 117 #[.val (.long q0), .second, .val (.long q1), .second, .val (.int p2), .val (.int p3), .val (.int p4), .val (.int p5), .val (.int (2 : Int32)), .val (.int ns), .val (.int (q0.toInt32)), .val (.int (((q0.toUInt64 >>> ((32 : Int32) &&& 0x3f).toInt64.toUInt64).toInt64).toInt32)), .val (.int f0), .val (.int f1), .val (.int (q1.toInt32)), .val (.int (((q1.toUInt64 >>> ((32 : Int32) &&& 0x3f).toInt64.toUInt64).toInt64).toInt32)), .val (.int vlo), .val (.int vhi), .val (.int s0), .val (.int vt), .val (.int s1), .val (.int s2), .val (.ref b21), .unset, .unset, .unset] [])) _
      refine XS.iload X21.here hx rfl (hb hby at_117) rfl ?_
      show Steps p.tables e below (T21.setTop (mkF m 119 #[.val (.long q0), .second, .val (.long q1), .second, .val (.int p2), .val (.int p3), .val (.int p4), .val (.int p5), .val (.int (2 : Int32)), .val (.int ns), .val (.int (q0.toInt32)), .val (.int (((q0.toUInt64 >>> ((32 : Int32) &&& 0x3f).toInt64.toUInt64).toInt64).toInt32)), .val (.int f0), .val (.int f1), .val (.int (q1.toInt32)), .val (.int (((q1.toUInt64 >>> ((32 : Int32) &&& 0x3f).toInt64.toUInt64).toInt64).toInt32)), .val (.int vlo), .val (.int vhi), .val (.int s0), .val (.int vt), .val (.int s1), .val (.int s2), .val (.ref b21), .unset, .unset, .unset] [(.int (2 : Int32))])) _
      refine XS.iconst X21.here hx rfl (hb hby at_119) ?_
      show Steps p.tables e below (T21.setTop (mkF m 120 #[.val (.long q0), .second, .val (.long q1), .second, .val (.int p2), .val (.int p3), .val (.int p4), .val (.int p5), .val (.int (2 : Int32)), .val (.int ns), .val (.int (q0.toInt32)), .val (.int (((q0.toUInt64 >>> ((32 : Int32) &&& 0x3f).toInt64.toUInt64).toInt64).toInt32)), .val (.int f0), .val (.int f1), .val (.int (q1.toInt32)), .val (.int (((q1.toUInt64 >>> ((32 : Int32) &&& 0x3f).toInt64.toUInt64).toInt64).toInt32)), .val (.int vlo), .val (.int vhi), .val (.int s0), .val (.int vt), .val (.int s1), .val (.int s2), .val (.ref b21), .unset, .unset, .unset] [(.int (1 : Int32)), (.int (2 : Int32))])) _
      refine XS.icmpNo X21.here hx rfl (hb hby at_120) rfl (flt hc22).1 ?_
      show Steps p.tables e below (T21.setTop (mkF m 123 #[.val (.long q0), .second, .val (.long q1), .second, .val (.int p2), .val (.int p3), .val (.int p4), .val (.int p5), .val (.int (2 : Int32)), .val (.int ns), .val (.int (q0.toInt32)), .val (.int (((q0.toUInt64 >>> ((32 : Int32) &&& 0x3f).toInt64.toUInt64).toInt64).toInt32)), .val (.int f0), .val (.int f1), .val (.int (q1.toInt32)), .val (.int (((q1.toUInt64 >>> ((32 : Int32) &&& 0x3f).toInt64.toUInt64).toInt64).toInt32)), .val (.int vlo), .val (.int vhi), .val (.int s0), .val (.int vt), .val (.int s1), .val (.int s2), .val (.ref b21), .unset, .unset, .unset] [])) _
      refine XS.aload X21.here hx rfl (hb hby at_123) rfl rfl ?_
      show Steps p.tables e below (T21.setTop (mkF m 125 #[.val (.long q0), .second, .val (.long q1), .second, .val (.int p2), .val (.int p3), .val (.int p4), .val (.int p5), .val (.int (2 : Int32)), .val (.int ns), .val (.int (q0.toInt32)), .val (.int (((q0.toUInt64 >>> ((32 : Int32) &&& 0x3f).toInt64.toUInt64).toInt64).toInt32)), .val (.int f0), .val (.int f1), .val (.int (q1.toInt32)), .val (.int (((q1.toUInt64 >>> ((32 : Int32) &&& 0x3f).toInt64.toUInt64).toInt64).toInt32)), .val (.int vlo), .val (.int vhi), .val (.int s0), .val (.int vt), .val (.int s1), .val (.int s2), .val (.ref b21), .unset, .unset, .unset] [(.ref b21)])) _
      refine XS.iconst X21.here hx rfl (hb hby at_125) ?_
      show Steps p.tables e below (T21.setTop (mkF m 126 #[.val (.long q0), .second, .val (.long q1), .second, .val (.int p2), .val (.int p3), .val (.int p4), .val (.int p5), .val (.int (2 : Int32)), .val (.int ns), .val (.int (q0.toInt32)), .val (.int (((q0.toUInt64 >>> ((32 : Int32) &&& 0x3f).toInt64.toUInt64).toInt64).toInt32)), .val (.int f0), .val (.int f1), .val (.int (q1.toInt32)), .val (.int (((q1.toUInt64 >>> ((32 : Int32) &&& 0x3f).toInt64.toUInt64).toInt64).toInt32)), .val (.int vlo), .val (.int vhi), .val (.int s0), .val (.int vt), .val (.int s1), .val (.int s2), .val (.ref b21), .unset, .unset, .unset] [(.int (0 : Int32)), (.ref b21)])) _
      refine XS.iload X21.here hx rfl (hb hby at_126) rfl ?_
      show Steps p.tables e below (T21.setTop (mkF m 128 #[.val (.long q0), .second, .val (.long q1), .second, .val (.int p2), .val (.int p3), .val (.int p4), .val (.int p5), .val (.int (2 : Int32)), .val (.int ns), .val (.int (q0.toInt32)), .val (.int (((q0.toUInt64 >>> ((32 : Int32) &&& 0x3f).toInt64.toUInt64).toInt64).toInt32)), .val (.int f0), .val (.int f1), .val (.int (q1.toInt32)), .val (.int (((q1.toUInt64 >>> ((32 : Int32) &&& 0x3f).toInt64.toUInt64).toInt64).toInt32)), .val (.int vlo), .val (.int vhi), .val (.int s0), .val (.int vt), .val (.int s1), .val (.int s2), .val (.ref b21), .unset, .unset, .unset] [(.int f0), (.int (0 : Int32)), (.ref b21)])) _
      refine st24 _ ?_
      show Steps p.tables e below (T24.setTop (mkF m 129 #[.val (.long q0), .second, .val (.long q1), .second, .val (.int p2), .val (.int p3), .val (.int p4), .val (.int p5), .val (.int (2 : Int32)), .val (.int ns), .val (.int (q0.toInt32)), .val (.int (((q0.toUInt64 >>> ((32 : Int32) &&& 0x3f).toInt64.toUInt64).toInt64).toInt32)), .val (.int f0), .val (.int f1), .val (.int (q1.toInt32)), .val (.int (((q1.toUInt64 >>> ((32 : Int32) &&& 0x3f).toInt64.toUInt64).toInt64).toInt32)), .val (.int vlo), .val (.int vhi), .val (.int s0), .val (.int vt), .val (.int s1), .val (.int s2), .val (.ref b21), .unset, .unset, .unset] [])) _
      refine XS.iload X24.here hx rfl (hb hby at_129) rfl ?_
      show Steps p.tables e below (T24.setTop (mkF m 131 #[.val (.long q0), .second, .val (.long q1), .second, .val (.int p2), .val (.int p3), .val (.int p4), .val (.int p5), .val (.int (2 : Int32)), .val (.int ns), .val (.int (q0.toInt32)), .val (.int (((q0.toUInt64 >>> ((32 : Int32) &&& 0x3f).toInt64.toUInt64).toInt64).toInt32)), .val (.int f0), .val (.int f1), .val (.int (q1.toInt32)), .val (.int (((q1.toUInt64 >>> ((32 : Int32) &&& 0x3f).toInt64.toUInt64).toInt64).toInt32)), .val (.int vlo), .val (.int vhi), .val (.int s0), .val (.int vt), .val (.int s1), .val (.int s2), .val (.ref b21), .unset, .unset, .unset] [(.int (2 : Int32))])) _
      refine XS.iconst X24.here hx rfl (hb hby at_131) ?_
      show Steps p.tables e below (T24.setTop (mkF m 132 #[.val (.long q0), .second, .val (.long q1), .second, .val (.int p2), .val (.int p3), .val (.int p4), .val (.int p5), .val (.int (2 : Int32)), .val (.int ns), .val (.int (q0.toInt32)), .val (.int (((q0.toUInt64 >>> ((32 : Int32) &&& 0x3f).toInt64.toUInt64).toInt64).toInt32)), .val (.int f0), .val (.int f1), .val (.int (q1.toInt32)), .val (.int (((q1.toUInt64 >>> ((32 : Int32) &&& 0x3f).toInt64.toUInt64).toInt64).toInt32)), .val (.int vlo), .val (.int vhi), .val (.int s0), .val (.int vt), .val (.int s1), .val (.int s2), .val (.ref b21), .unset, .unset, .unset] [(.int (2 : Int32)), (.int (2 : Int32))])) _
      refine XS.icmpNo X24.here hx rfl (hb hby at_132) rfl (flt hc25).1 ?_
      show Steps p.tables e below (T24.setTop (mkF m 135 #[.val (.long q0), .second, .val (.long q1), .second, .val (.int p2), .val (.int p3), .val (.int p4), .val (.int p5), .val (.int (2 : Int32)), .val (.int ns), .val (.int (q0.toInt32)), .val (.int (((q0.toUInt64 >>> ((32 : Int32) &&& 0x3f).toInt64.toUInt64).toInt64).toInt32)), .val (.int f0), .val (.int f1), .val (.int (q1.toInt32)), .val (.int (((q1.toUInt64 >>> ((32 : Int32) &&& 0x3f).toInt64.toUInt64).toInt64).toInt32)), .val (.int vlo), .val (.int vhi), .val (.int s0), .val (.int vt), .val (.int s1), .val (.int s2), .val (.ref b21), .unset, .unset, .unset] [])) _
      refine XS.aload X24.here hx rfl (hb hby at_135) rfl rfl ?_
      show Steps p.tables e below (T24.setTop (mkF m 137 #[.val (.long q0), .second, .val (.long q1), .second, .val (.int p2), .val (.int p3), .val (.int p4), .val (.int p5), .val (.int (2 : Int32)), .val (.int ns), .val (.int (q0.toInt32)), .val (.int (((q0.toUInt64 >>> ((32 : Int32) &&& 0x3f).toInt64.toUInt64).toInt64).toInt32)), .val (.int f0), .val (.int f1), .val (.int (q1.toInt32)), .val (.int (((q1.toUInt64 >>> ((32 : Int32) &&& 0x3f).toInt64.toUInt64).toInt64).toInt32)), .val (.int vlo), .val (.int vhi), .val (.int s0), .val (.int vt), .val (.int s1), .val (.int s2), .val (.ref b21), .unset, .unset, .unset] [(.ref b21)])) _
      refine XS.iconst X24.here hx rfl (hb hby at_137) ?_
      show Steps p.tables e below (T24.setTop (mkF m 138 #[.val (.long q0), .second, .val (.long q1), .second, .val (.int p2), .val (.int p3), .val (.int p4), .val (.int p5), .val (.int (2 : Int32)), .val (.int ns), .val (.int (q0.toInt32)), .val (.int (((q0.toUInt64 >>> ((32 : Int32) &&& 0x3f).toInt64.toUInt64).toInt64).toInt32)), .val (.int f0), .val (.int f1), .val (.int (q1.toInt32)), .val (.int (((q1.toUInt64 >>> ((32 : Int32) &&& 0x3f).toInt64.toUInt64).toInt64).toInt32)), .val (.int vlo), .val (.int vhi), .val (.int s0), .val (.int vt), .val (.int s1), .val (.int s2), .val (.ref b21), .unset, .unset, .unset] [(.int (1 : Int32)), (.ref b21)])) _
      refine XS.iload X24.here hx rfl (hb hby at_138) rfl ?_
      show Steps p.tables e below (T24.setTop (mkF m 140 #[.val (.long q0), .second, .val (.long q1), .second, .val (.int p2), .val (.int p3), .val (.int p4), .val (.int p5), .val (.int (2 : Int32)), .val (.int ns), .val (.int (q0.toInt32)), .val (.int (((q0.toUInt64 >>> ((32 : Int32) &&& 0x3f).toInt64.toUInt64).toInt64).toInt32)), .val (.int f0), .val (.int f1), .val (.int (q1.toInt32)), .val (.int (((q1.toUInt64 >>> ((32 : Int32) &&& 0x3f).toInt64.toUInt64).toInt64).toInt32)), .val (.int vlo), .val (.int vhi), .val (.int s0), .val (.int vt), .val (.int s1), .val (.int s2), .val (.ref b21), .unset, .unset, .unset] [(.int f1), (.int (1 : Int32)), (.ref b21)])) _
      refine st27 _ ?_
      exact k
  have Mf : ¬ nf < 0 := own_nlt.mpr (show 0 ≤ nf.toInt by omega)
  obtain ⟨bg, cg, T29, L29, hh29, X29, e29, N29, Z29, K29, ⟨Af, Ag, Sg, Hg⟩, pre29⟩ : ∃ (bg : Addr) (cg : Cell) (T29 : State) (L29 : List Loc) (hh29 : Heap), Stand p l e room_1 s m #[(.long q0), (.long q1), (.int p2), (.int p3), (.int p4), (.int p5)] below meth c T29 L29 2 5 ∧ T29.heap = hh29 ∧ Fr n0 L29 ∧ n0 ≤ hh29.size ∧ Keep h0 hh29 [] ∧ (Arr Z hh29 bf cf .int ∧ Arr Z hh29 bg cg .int ∧ cg.slots.size = ns.toNatClampNeg ∧ (∀ j : Nat, j < ns.toNatClampNeg → cg.slots[j]? = some (.int (own_G s0 s1 s2 j)))) ∧ ∀ t, Steps p.tables e below (T29.setTop (mkF m 183 #[.val (.long q0), .second, .val (.long q1), .second, .val (.int p2), .val (.int p3), .val (.int p4), .val (.int p5), .val (.int nf), .val (.int ns), .val (.int (q0.toInt32)), .val (.int (((q0.toUInt64 >>> ((32 : Int32) &&& 0x3f).toInt64.toUInt64).toInt64).toInt32)), .val (.int f0), .val (.int f1), .val (.int (q1.toInt32)), .val (.int (((q1.toUInt64 >>> ((32 : Int32) &&& 0x3f).toInt64.toUInt64).toInt64).toInt32)), .val (.int vlo), .val (.int vhi), .val (.int s0), .val (.int vt), .val (.int s1), .val (.int s2), .val (.ref bf), .val (.ref bg), .unset, .unset] [])) t → Steps p.tables e below (s₁.setTop (mkF m 0 #[.val (.long q0), .second, .val (.long q1), .second, .val (.int p2), .val (.int p3), .val (.int p4), .val (.int p5), .unset, .unset, .unset, .unset, .unset, .unset, .unset, .unset, .unset, .unset, .unset, .unset, .unset, .unset, .unset, .unset, .unset, .unset] [])) t := by
    rcases (show ns.toInt = 0 ∨ ns.toInt = 1 ∨ ns.toInt = 2 ∨ ns.toInt = 3 by omega) with hk | hk | hk | hk
    · skip
      obtain rfl : ns = (0 : Int32) := own_eq.mpr hk
      obtain ⟨T30, h30, k30, X30, e30, E30, A30, st30⟩ := newP X10 hx hZ (hw _ (List.mem_of_getElem? (i := 8) rfl)) e10 (g := (mkF m 143 #[.val (.long q0), .second, .val (.long q1), .second, .val (.int p2), .val (.int p3), .val (.int p4), .val (.int p5), .val (.int nf), .val (.int (0 : Int32)), .val (.int (q0.toInt32)), .val (.int (((q0.toUInt64 >>> ((32 : Int32) &&& 0x3f).toInt64.toUInt64).toInt64).toInt32)), .val (.int f0), .val (.int f1), .val (.int (q1.toInt32)), .val (.int (((q1.toUInt64 >>> ((32 : Int32) &&& 0x3f).toInt64.toUInt64).toInt64).toInt32)), .val (.int vlo), .val (.int vhi), .val (.int s0), .val (.int vt), .val (.int s1), .val (.int s2), .val (.ref bf), .unset, .unset, .unset] [(.int (0 : Int32))])) rfl (hb hby at_143) rfl (by decide) (cap := 0) (by decide) (by decide) (by decide) (by decide)
      obtain ⟨b30, g30⟩ : ∃ z, z = hh10.size := ⟨_, rfl⟩
      rw [← g30] at A30 st30
      have g_b30 : n0 ≤ b30 := Nat.le_trans Z10 (Nat.le_of_eq g30.symm)
      skip
      have Z30 : n0 ≤ h30.size := Nat.le_trans Z10 E30.1
      have ne_bf_b30 : bf ≠ b30 := Nat.ne_of_lt (Nat.lt_of_lt_of_le Af.lt (Nat.le_of_eq g30.symm))
      have K30 : Keep h0 h30 [] := K10.ext E30
      have sz_b30 : h0.size ≤ b30 := Nat.le_trans K10.1 (Nat.le_of_eq g30.symm)
      have c31 : Arr Z h30 bf cf .int := Af.ext E30
      have V30 : Arv Z h30 b30 k30 .int (0 : Int32) [] (.int (0 : Int32)) := (Arv.new A30 (by decide))
      have hc32 : (0 : Int32) < (1 : Int32) := by decide
      have hc33 : (0 : Int32) < (2 : Int32) := by decide
      have hc34 : (0 : Int32) < (3 : Int32) := by decide
      obtain ⟨cl35, Ar35, -, Sz35, -, Hh35, -⟩ := V30
      refine ⟨b30, cl35, T30, _, h30, X30.more (by decide) (by decide), e30, N10, Z30, K30, ⟨c31, Ar35, Sz35, fun j hj => by
        have q := Hh35 j (by rw [Sz35]; exact hj)
        have hj' : j < 0 := hj
        omega⟩, fun t k => pre10 t ?_⟩
      show Steps p.tables e below (T10.setTop (mkF m 141 #[.val (.long q0), .second, .val (.long q1), .second, .val (.int p2), .val (.int p3), .val (.int p4), .val (.int p5), .val (.int nf), .val (.int (0 : Int32)), .val (.int (q0.toInt32)), .val (.int (((q0.toUInt64 >>> ((32 : Int32) &&& 0x3f).toInt64.toUInt64).toInt64).toInt32)), .val (.int f0), .val (.int f1), .val (.int (q1.toInt32)), .val (.int (((q1.toUInt64 >>> ((32 : Int32) &&& 0x3f).toInt64.toUInt64).toInt64).toInt32)), .val (.int vlo), .val (.int vhi), .val (.int s0), .val (.int vt), .val (.int s1), .val (.int s2), .val (.ref bf), .unset, .unset, .unset] [])) _
      refine XS.iload X10.here hx rfl (hb hby at_141) rfl ?_
      show Steps p.tables e below (T10.setTop (mkF m 143 #[.val (.long q0), .second, .val (.long q1), .second, .val (.int p2), .val (.int p3), .val (.int p4), .val (.int p5), .val (.int nf), .val (.int (0 : Int32)), .val (.int (q0.toInt32)), .val (.int (((q0.toUInt64 >>> ((32 : Int32) &&& 0x3f).toInt64.toUInt64).toInt64).toInt32)), .val (.int f0), .val (.int f1), .val (.int (q1.toInt32)), .val (.int (((q1.toUInt64 >>> ((32 : Int32) &&& 0x3f).toInt64.toUInt64).toInt64).toInt32)), .val (.int vlo), .val (.int vhi), .val (.int s0), .val (.int vt), .val (.int s1), .val (.int s2), .val (.ref bf), .unset, .unset, .unset] [(.int (0 : Int32))])) _
      refine st30 _ ?_
      show Steps p.tables e below (T30.setTop (mkF m 145 #[.val (.long q0), .second, .val (.long q1), .second, .val (.int p2), .val (.int p3), .val (.int p4), .val (.int p5), .val (.int nf), .val (.int (0 : Int32)), .val (.int (q0.toInt32)), .val (.int (((q0.toUInt64 >>> ((32 : Int32) &&& 0x3f).toInt64.toUInt64).toInt64).toInt32)), .val (.int f0), .val (.int f1), .val (.int (q1.toInt32)), .val (.int (((q1.toUInt64 >>> ((32 : Int32) &&& 0x3f).toInt64.toUInt64).toInt64).toInt32)), .val (.int vlo), .val (.int vhi), .val (.int s0), .val (.int vt), .val (.int s1), .val (.int s2), .val (.ref bf), .unset, .unset, .unset] [(.ref b30)])) _
      refine XS.astore X30.here hx rfl (hb hby at_145) rfl rfl (l' := #[.val (.long q0), .second, .val (.long q1), .second, .val (.int p2), .val (.int p3), .val (.int p4), .val (.int p5), .val (.int nf), .val (.int (0 : Int32)), .val (.int (q0.toInt32)), .val (.int (((q0.toUInt64 >>> ((32 : Int32) &&& 0x3f).toInt64.toUInt64).toInt64).toInt32)), .val (.int f0), .val (.int f1), .val (.int (q1.toInt32)), .val (.int (((q1.toUInt64 >>> ((32 : Int32) &&& 0x3f).toInt64.toUInt64).toInt64).toInt32)), .val (.int vlo), .val (.int vhi), .val (.int s0), .val (.int vt), .val (.int s1), .val (.int s2), .val (.ref bf), .val (.ref b30), .unset, .unset]) rfl ?_
      show Steps p.tables e below (T30.setTop (mkF m 147 #[.val (.long q0), .second, .val (.long q1), .second, .val (.int p2), .val (.int p3), .val (.int p4), .val (.int p5), .val (.int nf), .val (.int (0 : Int32)), .val (.int (q0.toInt32)), .val (.int (((q0.toUInt64 >>> ((32 : Int32) &&& 0x3f).toInt64.toUInt64).toInt64).toInt32)), .val (.int f0), .val (.int f1), .val (.int (q1.toInt32)), .val (.int (((q1.toUInt64 >>> ((32 : Int32) &&& 0x3f).toInt64.toUInt64).toInt64).toInt32)), .val (.int vlo), .val (.int vhi), .val (.int s0), .val (.int vt), .val (.int s1), .val (.int s2), .val (.ref bf), .val (.ref b30), .unset, .unset] [])) _
      refine XS.iload X30.here hx rfl (hb hby at_147) rfl ?_
      show Steps p.tables e below (T30.setTop (mkF m 149 #[.val (.long q0), .second, .val (.long q1), .second, .val (.int p2), .val (.int p3), .val (.int p4), .val (.int p5), .val (.int nf), .val (.int (0 : Int32)), .val (.int (q0.toInt32)), .val (.int (((q0.toUInt64 >>> ((32 : Int32) &&& 0x3f).toInt64.toUInt64).toInt64).toInt32)), .val (.int f0), .val (.int f1), .val (.int (q1.toInt32)), .val (.int (((q1.toUInt64 >>> ((32 : Int32) &&& 0x3f).toInt64.toUInt64).toInt64).toInt32)), .val (.int vlo), .val (.int vhi), .val (.int s0), .val (.int vt), .val (.int s1), .val (.int s2), .val (.ref bf), .val (.ref b30), .unset, .unset] [(.int (0 : Int32))])) _
      refine XS.iconst X30.here hx rfl (hb hby at_149) ?_
      show Steps p.tables e below (T30.setTop (mkF m 150 #[.val (.long q0), .second, .val (.long q1), .second, .val (.int p2), .val (.int p3), .val (.int p4), .val (.int p5), .val (.int nf), .val (.int (0 : Int32)), .val (.int (q0.toInt32)), .val (.int (((q0.toUInt64 >>> ((32 : Int32) &&& 0x3f).toInt64.toUInt64).toInt64).toInt32)), .val (.int f0), .val (.int f1), .val (.int (q1.toInt32)), .val (.int (((q1.toUInt64 >>> ((32 : Int32) &&& 0x3f).toInt64.toUInt64).toInt64).toInt32)), .val (.int vlo), .val (.int vhi), .val (.int s0), .val (.int vt), .val (.int s1), .val (.int s2), .val (.ref bf), .val (.ref b30), .unset, .unset] [(.int (1 : Int32)), (.int (0 : Int32))])) _
      refine XS.icmpYes X30.here hx rfl (pc0 := 150) (pc' := 159) rfl (hb hby at_150) rfl (tlt hc32).1 (by decide) (by decide) ?_
      show Steps p.tables e below (T30.setTop (mkF m 159 #[.val (.long q0), .second, .val (.long q1), .second, .val (.int p2), .val (.int p3), .val (.int p4), .val (.int p5), .val (.int nf), .val (.int (0 : Int32)), .val (.int (q0.toInt32)), .val (.int (((q0.toUInt64 >>> ((32 : Int32) &&& 0x3f).toInt64.toUInt64).toInt64).toInt32)), .val (.int f0), .val (.int f1), .val (.int (q1.toInt32)), .val (.int (((q1.toUInt64 >>> ((32 : Int32) &&& 0x3f).toInt64.toUInt64).toInt64).toInt32)), .val (.int vlo), .val (.int vhi), .val (.int s0), .val (.int vt), .val (.int s1), .val (.int s2), .val (.ref bf), .val (.ref b30), .unset, .unset] [])) _
      refine XS.iload X30.here hx rfl (hb hby at_159) rfl ?_
      show Steps p.tables e below (T30.setTop (mkF m 161 #[.val (.long q0), .second, .val (.long q1), .second, .val (.int p2), .val (.int p3), .val (.int p4), .val (.int p5), .val (.int nf), .val (.int (0 : Int32)), .val (.int (q0.toInt32)), .val (.int (((q0.toUInt64 >>> ((32 : Int32) &&& 0x3f).toInt64.toUInt64).toInt64).toInt32)), .val (.int f0), .val (.int f1), .val (.int (q1.toInt32)), .val (.int (((q1.toUInt64 >>> ((32 : Int32) &&& 0x3f).toInt64.toUInt64).toInt64).toInt32)), .val (.int vlo), .val (.int vhi), .val (.int s0), .val (.int vt), .val (.int s1), .val (.int s2), .val (.ref bf), .val (.ref b30), .unset, .unset] [(.int (0 : Int32))])) _
      refine XS.iconst X30.here hx rfl (hb hby at_161) ?_
      show Steps p.tables e below (T30.setTop (mkF m 162 #[.val (.long q0), .second, .val (.long q1), .second, .val (.int p2), .val (.int p3), .val (.int p4), .val (.int p5), .val (.int nf), .val (.int (0 : Int32)), .val (.int (q0.toInt32)), .val (.int (((q0.toUInt64 >>> ((32 : Int32) &&& 0x3f).toInt64.toUInt64).toInt64).toInt32)), .val (.int f0), .val (.int f1), .val (.int (q1.toInt32)), .val (.int (((q1.toUInt64 >>> ((32 : Int32) &&& 0x3f).toInt64.toUInt64).toInt64).toInt32)), .val (.int vlo), .val (.int vhi), .val (.int s0), .val (.int vt), .val (.int s1), .val (.int s2), .val (.ref bf), .val (.ref b30), .unset, .unset] [(.int (2 : Int32)), (.int (0 : Int32))])) _
      refine XS.icmpYes X30.here hx rfl (pc0 := 162) (pc' := 171) rfl (hb hby at_162) rfl (tlt hc33).1 (by decide) (by decide) ?_
      show Steps p.tables e below (T30.setTop (mkF m 171 #[.val (.long q0), .second, .val (.long q1), .second, .val (.int p2), .val (.int p3), .val (.int p4), .val (.int p5), .val (.int nf), .val (.int (0 : Int32)), .val (.int (q0.toInt32)), .val (.int (((q0.toUInt64 >>> ((32 : Int32) &&& 0x3f).toInt64.toUInt64).toInt64).toInt32)), .val (.int f0), .val (.int f1), .val (.int (q1.toInt32)), .val (.int (((q1.toUInt64 >>> ((32 : Int32) &&& 0x3f).toInt64.toUInt64).toInt64).toInt32)), .val (.int vlo), .val (.int vhi), .val (.int s0), .val (.int vt), .val (.int s1), .val (.int s2), .val (.ref bf), .val (.ref b30), .unset, .unset] [])) _
      refine XS.iload X30.here hx rfl (hb hby at_171) rfl ?_
      show Steps p.tables e below (T30.setTop (mkF m 173 #[.val (.long q0), .second, .val (.long q1), .second, .val (.int p2), .val (.int p3), .val (.int p4), .val (.int p5), .val (.int nf), .val (.int (0 : Int32)), .val (.int (q0.toInt32)), .val (.int (((q0.toUInt64 >>> ((32 : Int32) &&& 0x3f).toInt64.toUInt64).toInt64).toInt32)), .val (.int f0), .val (.int f1), .val (.int (q1.toInt32)), .val (.int (((q1.toUInt64 >>> ((32 : Int32) &&& 0x3f).toInt64.toUInt64).toInt64).toInt32)), .val (.int vlo), .val (.int vhi), .val (.int s0), .val (.int vt), .val (.int s1), .val (.int s2), .val (.ref bf), .val (.ref b30), .unset, .unset] [(.int (0 : Int32))])) _
      refine XS.iconst X30.here hx rfl (hb hby at_173) ?_
      show Steps p.tables e below (T30.setTop (mkF m 174 #[.val (.long q0), .second, .val (.long q1), .second, .val (.int p2), .val (.int p3), .val (.int p4), .val (.int p5), .val (.int nf), .val (.int (0 : Int32)), .val (.int (q0.toInt32)), .val (.int (((q0.toUInt64 >>> ((32 : Int32) &&& 0x3f).toInt64.toUInt64).toInt64).toInt32)), .val (.int f0), .val (.int f1), .val (.int (q1.toInt32)), .val (.int (((q1.toUInt64 >>> ((32 : Int32) &&& 0x3f).toInt64.toUInt64).toInt64).toInt32)), .val (.int vlo), .val (.int vhi), .val (.int s0), .val (.int vt), .val (.int s1), .val (.int s2), .val (.ref bf), .val (.ref b30), .unset, .unset] [(.int (3 : Int32)), (.int (0 : Int32))])) _
      refine XS.icmpYes X30.here hx rfl (pc0 := 174) (pc' := 183) rfl (hb hby at_174) rfl (tlt hc34).1 (by decide) (by decide) ?_
      exact k
    · skip
      obtain rfl : ns = (1 : Int32) := own_eq.mpr hk
      obtain ⟨T36, h36, k36, X36, e36, E36, A36, st36⟩ := newP X10 hx hZ (hw _ (List.mem_of_getElem? (i := 8) rfl)) e10 (g := (mkF m 143 #[.val (.long q0), .second, .val (.long q1), .second, .val (.int p2), .val (.int p3), .val (.int p4), .val (.int p5), .val (.int nf), .val (.int (1 : Int32)), .val (.int (q0.toInt32)), .val (.int (((q0.toUInt64 >>> ((32 : Int32) &&& 0x3f).toInt64.toUInt64).toInt64).toInt32)), .val (.int f0), .val (.int f1), .val (.int (q1.toInt32)), .val (.int (((q1.toUInt64 >>> ((32 : Int32) &&& 0x3f).toInt64.toUInt64).toInt64).toInt32)), .val (.int vlo), .val (.int vhi), .val (.int s0), .val (.int vt), .val (.int s1), .val (.int s2), .val (.ref bf), .unset, .unset, .unset] [(.int (1 : Int32))])) rfl (hb hby at_143) rfl (by decide) (cap := 1) (by decide) (by decide) (by decide) (by decide)
      obtain ⟨b36, g36⟩ : ∃ z, z = hh10.size := ⟨_, rfl⟩
      rw [← g36] at A36 st36
      have g_b36 : n0 ≤ b36 := Nat.le_trans Z10 (Nat.le_of_eq g36.symm)
      skip
      have Z36 : n0 ≤ h36.size := Nat.le_trans Z10 E36.1
      have ne_bf_b36 : bf ≠ b36 := Nat.ne_of_lt (Nat.lt_of_lt_of_le Af.lt (Nat.le_of_eq g36.symm))
      have K36 : Keep h0 h36 [] := K10.ext E36
      have sz_b36 : h0.size ≤ b36 := Nat.le_trans K10.1 (Nat.le_of_eq g36.symm)
      have c37 : Arr Z h36 bf cf .int := Af.ext E36
      have V36 : Arv Z h36 b36 k36 .int (1 : Int32) [(.int (0 : Int32))] (.int (0 : Int32)) := (Arv.new A36 (by decide)).pad (pad_rep [] (.int (0 : Int32)) 1)
      have hc38 : ¬ ((1 : Int32) < (1 : Int32)) := by decide
      obtain ⟨cl39, Ar39, q39, Sz39, Nn39, Hh39, Gg39⟩ := id V36
      have hin39 : ¬ ((0 : Int32) < 0 ∨ cl39.slots.size ≤ ((0 : Int32)).toNatClampNeg) := inb_of Sz39 ⟨by decide, by decide⟩
      obtain ⟨T40, h40, X40, e40, W40, st40⟩ := stI X36 hx hZ e36 Ar39 (j := (0 : Int32)) hin39 (g := (mkF m 158 #[.val (.long q0), .second, .val (.long q1), .second, .val (.int p2), .val (.int p3), .val (.int p4), .val (.int p5), .val (.int nf), .val (.int (1 : Int32)), .val (.int (q0.toInt32)), .val (.int (((q0.toUInt64 >>> ((32 : Int32) &&& 0x3f).toInt64.toUInt64).toInt64).toInt32)), .val (.int f0), .val (.int f1), .val (.int (q1.toInt32)), .val (.int (((q1.toUInt64 >>> ((32 : Int32) &&& 0x3f).toInt64.toUInt64).toInt64).toInt32)), .val (.int vlo), .val (.int vhi), .val (.int s0), .val (.int vt), .val (.int s1), .val (.int s2), .val (.ref bf), .val (.ref b36), .unset, .unset] [(.int s0), (.int (0 : Int32)), (.ref b36)])) rfl rfl (hb hby at_158)
      have V40 : Arv Z h40 b36 k36 .int (1 : Int32) [(.int s0)] (.int (0 : Int32)) := Arv.set Ar39 q39 Sz39 Nn39 Hh39 Gg39 rfl W40 0 rfl (Nat.le_of_ble_eq_true rfl)
      have N40 := Fr.snoc X40 N10 g_b36
      have Z40 : n0 ≤ h40.size := Nat.le_trans Z36 (Keep.of_wr W40).1
      have K40 : Keep h0 h40 [] := K36.wr W40 (Or.inr sz_b36)
      have c41 : Arr Z h40 bf cf .int := c37.other W40 ne_bf_b36
      have hc42 : (1 : Int32) < (2 : Int32) := by decide
      have hc43 : (1 : Int32) < (3 : Int32) := by decide
      obtain ⟨cl44, Ar44, -, Sz44, -, Hh44, -⟩ := V40
      refine ⟨b36, cl44, T40, _, h40, X40.more (by decide) (by decide), e40, N40, Z40, K40, ⟨c41, Ar44, Sz44, fun j hj => by
        have q := Hh44 j (by rw [Sz44]; exact hj)
        have hj' : j < 1 := hj
        obtain rfl : j = 0 := by omega
        exact q⟩, fun t k => pre10 t ?_⟩
      show Steps p.tables e below (T10.setTop (mkF m 141 #[.val (.long q0), .second, .val (.long q1), .second, .val (.int p2), .val (.int p3), .val (.int p4), .val (.int p5), .val (.int nf), .val (.int (1 : Int32)), .val (.int (q0.toInt32)), .val (.int (((q0.toUInt64 >>> ((32 : Int32) &&& 0x3f).toInt64.toUInt64).toInt64).toInt32)), .val (.int f0), .val (.int f1), .val (.int (q1.toInt32)), .val (.int (((q1.toUInt64 >>> ((32 : Int32) &&& 0x3f).toInt64.toUInt64).toInt64).toInt32)), .val (.int vlo), .val (.int vhi), .val (.int s0), .val (.int vt), .val (.int s1), .val (.int s2), .val (.ref bf), .unset, .unset, .unset] [])) _
      refine XS.iload X10.here hx rfl (hb hby at_141) rfl ?_
      show Steps p.tables e below (T10.setTop (mkF m 143 #[.val (.long q0), .second, .val (.long q1), .second, .val (.int p2), .val (.int p3), .val (.int p4), .val (.int p5), .val (.int nf), .val (.int (1 : Int32)), .val (.int (q0.toInt32)), .val (.int (((q0.toUInt64 >>> ((32 : Int32) &&& 0x3f).toInt64.toUInt64).toInt64).toInt32)), .val (.int f0), .val (.int f1), .val (.int (q1.toInt32)), .val (.int (((q1.toUInt64 >>> ((32 : Int32) &&& 0x3f).toInt64.toUInt64).toInt64).toInt32)), .val (.int vlo), .val (.int vhi), .val (.int s0), .val (.int vt), .val (.int s1), .val (.int s2), .val (.ref bf), .unset, .unset, .unset] [(.int (1 : Int32))])) _
      refine st36 _ ?_
      show Steps p.tables e below (T36.setTop (mkF m 145 #[.val (.long q0), .second, .val (.long q1), .second, .val (.int p2), .val (.int p3), .val (.int p4), .val (.int p5), .val (.int nf), .val (.int (1 : Int32)), .val (.int (q0.toInt32)), .val (.int (((q0.toUInt64 >>> ((32 : Int32) &&& 0x3f).toInt64.toUInt64).toInt64).toInt32)), .val (.int f0), .val (.int f1), .val (.int (q1.toInt32)), .val (.int (((q1.toUInt64 >>> ((32 : Int32) &&& 0x3f).toInt64.toUInt64).toInt64).toInt32)), .val (.int vlo), .val (.int vhi), .val (.int s0), .val (.int vt), .val (.int s1), .val (.int s2), .val (.ref bf), .unset, .unset, .unset] [(.ref b36)])) _
      refine XS.astore X36.here hx rfl (hb hby at_145) rfl rfl (l' := #[.val (.long q0), .second, .val (.long q1), .second, .val (.int p2), .val (.int p3), .val (.int p4), .val (.int p5), .val (.int nf), .val (.int (1 : Int32)), .val (.int (q0.toInt32)), .val (.int (((q0.toUInt64 >>> ((32 : Int32) &&& 0x3f).toInt64.toUInt64).toInt64).toInt32)), .val (.int f0), .val (.int f1), .val (.int (q1.toInt32)), .val (.int (((q1.toUInt64 >>> ((32 : Int32) &&& 0x3f).toInt64.toUInt64).toInt64).toInt32)), .val (.int vlo), .val (.int vhi), .val (.int s0), .val (.int vt), .val (.int s1), .val (.int s2), .val (.ref bf), .val (.ref b36), .unset, .unset]) rfl ?_
      show Steps p.tables e below (T36.setTop (mkF m 147 #[.val (.long q0), .second, .val (.long q1), .second, .val (.int p2), .val (.int p3), .val (.int p4), .val (.int p5), .val (.int nf), .val (.int (1 : Int32)), .val (.int (q0.toInt32)), .val (.int (((q0.toUInt64 >>> ((32 : Int32) &&& 0x3f).toInt64.toUInt64).toInt64).toInt32)), .val (.int f0), .val (.int f1), .val (.int (q1.toInt32)), .val (.int (((q1.toUInt64 >>> ((32 : Int32) &&& 0x3f).toInt64.toUInt64).toInt64).toInt32)), .val (.int vlo), .val (.int vhi), .val (.int s0), .val (.int vt), .val (.int s1), .val (.int s2), .val (.ref bf), .val (.ref b36), .unset, .unset] [])) _
      refine XS.iload X36.here hx rfl (hb hby at_147) rfl ?_
      show Steps p.tables e below (T36.setTop (mkF m 149 #[.val (.long q0), .second, .val (.long q1), .second, .val (.int p2), .val (.int p3), .val (.int p4), .val (.int p5), .val (.int nf), .val (.int (1 : Int32)), .val (.int (q0.toInt32)), .val (.int (((q0.toUInt64 >>> ((32 : Int32) &&& 0x3f).toInt64.toUInt64).toInt64).toInt32)), .val (.int f0), .val (.int f1), .val (.int (q1.toInt32)), .val (.int (((q1.toUInt64 >>> ((32 : Int32) &&& 0x3f).toInt64.toUInt64).toInt64).toInt32)), .val (.int vlo), .val (.int vhi), .val (.int s0), .val (.int vt), .val (.int s1), .val (.int s2), .val (.ref bf), .val (.ref b36), .unset, .unset] [(.int (1 : Int32))])) _
      refine XS.iconst X36.here hx rfl (hb hby at_149) ?_
      show Steps p.tables e below (T36.setTop (mkF m 150 #[.val (.long q0), .second, .val (.long q1), .second, .val (.int p2), .val (.int p3), .val (.int p4), .val (.int p5), .val (.int nf), .val (.int (1 : Int32)), .val (.int (q0.toInt32)), .val (.int (((q0.toUInt64 >>> ((32 : Int32) &&& 0x3f).toInt64.toUInt64).toInt64).toInt32)), .val (.int f0), .val (.int f1), .val (.int (q1.toInt32)), .val (.int (((q1.toUInt64 >>> ((32 : Int32) &&& 0x3f).toInt64.toUInt64).toInt64).toInt32)), .val (.int vlo), .val (.int vhi), .val (.int s0), .val (.int vt), .val (.int s1), .val (.int s2), .val (.ref bf), .val (.ref b36), .unset, .unset] [(.int (1 : Int32)), (.int (1 : Int32))])) _
      refine XS.icmpNo X36.here hx rfl (hb hby at_150) rfl (flt hc38).1 ?_
      show Steps p.tables e below (T36.setTop (mkF m 153 #[.val (.long q0), .second, .val (.long q1), .second, .val (.int p2), .val (.int p3), .val (.int p4), .val (.int p5), .val (.int nf), .val (.int (1 : Int32)), .val (.int (q0.toInt32)), .val (.int (((q0.toUInt64 >>> ((32 : Int32) &&& 0x3f).toInt64.toUInt64).toInt64).toInt32)), .val (.int f0), .val (.int f1), .val (.int (q1.toInt32)), .val (.int (((q1.toUInt64 >>> ((32 : Int32) &&& 0x3f).toInt64.toUInt64).toInt64).toInt32)), .val (.int vlo), .val (.int vhi), .val (.int s0), .val (.int vt), .val (.int s1), .val (.int s2), .val (.ref bf), .val (.ref b36), .unset, .unset] [])) _
      refine XS.aload X36.here hx rfl (hb hby at_153) rfl rfl ?_
      show Steps p.tables e below (T36.setTop (mkF m 155 #[.val (.long q0), .second, .val (.long q1), .second, .val (.int p2), .val (.int p3), .val (.int p4), .val (.int p5), .val (.int nf), .val (.int (1 : Int32)), .val (.int (q0.toInt32)), .val (.int (((q0.toUInt64 >>> ((32 : Int32) &&& 0x3f).toInt64.toUInt64).toInt64).toInt32)), .val (.int f0), .val (.int f1), .val (.int (q1.toInt32)), .val (.int (((q1.toUInt64 >>> ((32 : Int32) &&& 0x3f).toInt64.toUInt64).toInt64).toInt32)), .val (.int vlo), .val (.int vhi), .val (.int s0), .val (.int vt), .val (.int s1), .val (.int s2), .val (.ref bf), .val (.ref b36), .unset, .unset] [(.ref b36)])) _
      refine XS.iconst X36.here hx rfl (hb hby at_155) ?_
      show Steps p.tables e below (T36.setTop (mkF m 156 #[.val (.long q0), .second, .val (.long q1), .second, .val (.int p2), .val (.int p3), .val (.int p4), .val (.int p5), .val (.int nf), .val (.int (1 : Int32)), .val (.int (q0.toInt32)), .val (.int (((q0.toUInt64 >>> ((32 : Int32) &&& 0x3f).toInt64.toUInt64).toInt64).toInt32)), .val (.int f0), .val (.int f1), .val (.int (q1.toInt32)), .val (.int (((q1.toUInt64 >>> ((32 : Int32) &&& 0x3f).toInt64.toUInt64).toInt64).toInt32)), .val (.int vlo), .val (.int vhi), .val (.int s0), .val (.int vt), .val (.int s1), .val (.int s2), .val (.ref bf), .val (.ref b36), .unset, .unset] [(.int (0 : Int32)), (.ref b36)])) _
      refine XS.iload X36.here hx rfl (hb hby at_156) rfl ?_
      show Steps p.tables e below (T36.setTop (mkF m 158 #[.val (.long q0), .second, .val (.long q1), .second, .val (.int p2), .val (.int p3), .val (.int p4), .val (.int p5), .val (.int nf), .val (.int (1 : Int32)), .val (.int (q0.toInt32)), .val (.int (((q0.toUInt64 >>> ((32 : Int32) &&& 0x3f).toInt64.toUInt64).toInt64).toInt32)), .val (.int f0), .val (.int f1), .val (.int (q1.toInt32)), .val (.int (((q1.toUInt64 >>> ((32 : Int32) &&& 0x3f).toInt64.toUInt64).toInt64).toInt32)), .val (.int vlo), .val (.int vhi), .val (.int s0), .val (.int vt), .val (.int s1), .val (.int s2), .val (.ref bf), .val (.ref b36), .unset, .unset] [(.int s0), (.int (0 : Int32)), (.ref b36)])) _
      refine st40 _ ?_
      show Steps p.tables e below (T40.setTop (mkF m 159 #[.val (.long q0), .second, .val (.long q1), .second, .val (.int p2), .val (.int p3), .val (.int p4), .val (.int p5), .val (.int nf), .val (.int (1 : Int32)), .val (.int (q0.toInt32)), .val (.int (((q0.toUInt64 >>> ((32 : Int32) &&& 0x3f).toInt64.toUInt64).toInt64).toInt32)), .val (.int f0), .val (.int f1), .val (.int (q1.toInt32)), .val (.int (((q1.toUInt64 >>> ((32 : Int32) &&& 0x3f).toInt64.toUInt64).toInt64).toInt32)), .val (.int vlo), .val (.int vhi), .val (.int s0), .val (.int vt), .val (.int s1), .val (.int s2), .val (.ref bf), .val (.ref b36), .unset, .unset] [])) _
      refine XS.iload X40.here hx rfl (hb hby at_159) rfl ?_
      show Steps p.tables e below (T40.setTop (mkF m 161 #[.val (.long q0), .second, .val (.long q1), .second, .val (.int p2), .val (.int p3), .val (.int p4), .val (.int p5), .val (.int nf), .val (.int (1 : Int32)), .val (.int (q0.toInt32)), .val (.int (((q0.toUInt64 >>> ((32 : Int32) &&& 0x3f).toInt64.toUInt64).toInt64).toInt32)), .val (.int f0), .val (.int f1), .val (.int (q1.toInt32)), .val (.int (((q1.toUInt64 >>> ((32 : Int32) &&& 0x3f).toInt64.toUInt64).toInt64).toInt32)), .val (.int vlo), .val (.int vhi), .val (.int s0), .val (.int vt), .val (.int s1), .val (.int s2), .val (.ref bf), .val (.ref b36), .unset, .unset] [(.int (1 : Int32))])) _
      refine XS.iconst X40.here hx rfl (hb hby at_161) ?_
      show Steps p.tables e below (T40.setTop (mkF m 162 #[.val (.long q0), .second, .val (.long q1), .second, .val (.int p2), .val (.int p3), .val (.int p4), .val (.int p5), .val (.int nf), .val (.int (1 : Int32)), .val (.int (q0.toInt32)), .val (.int (((q0.toUInt64 >>> ((32 : Int32) &&& 0x3f).toInt64.toUInt64).toInt64).toInt32)), .val (.int f0), .val (.int f1), .val (.int (q1.toInt32)), .val (.int (((q1.toUInt64 >>> ((32 : Int32) &&& 0x3f).toInt64.toUInt64).toInt64).toInt32)), .val (.int vlo), .val (.int vhi), .val (.int s0), .val (.int vt), .val (.int s1), .val (.int s2), .val (.ref bf), .val (.ref b36), .unset, .unset] [(.int (2 : Int32)), (.int (1 : Int32))])) _
      refine XS.icmpYes X40.here hx rfl (pc0 := 162) (pc' := 171) rfl (hb hby at_162) rfl (tlt hc42).1 (by decide) (by decide) ?_
      show Steps p.tables e below (T40.setTop (mkF m 171 #[.val (.long q0), .second, .val (.long q1), .second, .val (.int p2), .val (.int p3), .val (.int p4), .val (.int p5), .val (.int nf), .val (.int (1 : Int32)), .val (.int (q0.toInt32)), .val (.int (((q0.toUInt64 >>> ((32 : Int32) &&& 0x3f).toInt64.toUInt64).toInt64).toInt32)), .val (.int f0), .val (.int f1), .val (.int (q1.toInt32)), .val (.int (((q1.toUInt64 >>> ((32 : Int32) &&& 0x3f).toInt64.toUInt64).toInt64).toInt32)), .val (.int vlo), .val (.int vhi), .val (.int s0), .val (.int vt), .val (.int s1), .val (.int s2), .val (.ref bf), .val (.ref b36), .unset, .unset] [])) _
      refine XS.iload X40.here hx rfl (hb hby at_171) rfl ?_
      show Steps p.tables e below (T40.setTop (mkF m 173 #[.val (.long q0), .second, .val (.long q1), .second, .val (.int p2), .val (.int p3), .val (.int p4), .val (.int p5), .val (.int nf), .val (.int (1 : Int32)), .val (.int (q0.toInt32)), .val (.int (((q0.toUInt64 >>> ((32 : Int32) &&& 0x3f).toInt64.toUInt64).toInt64).toInt32)), .val (.int f0), .val (.int f1), .val (.int (q1.toInt32)), .val (.int (((q1.toUInt64 >>> ((32 : Int32) &&& 0x3f).toInt64.toUInt64).toInt64).toInt32)), .val (.int vlo), .val (.int vhi), .val (.int s0), .val (.int vt), .val (.int s1), .val (.int s2), .val (.ref bf), .val (.ref b36), .unset, .unset] [(.int (1 : Int32))])) _
      refine XS.iconst X40.here hx rfl (hb hby at_173) ?_
      show Steps p.tables e below (T40.setTop (mkF m 174 #[.val (.long q0), .second, .val (.long q1), .second, .val (.int p2), .val (.int p3), .val (.int p4), .val (.int p5), .val (.int nf), .val (.int (1 : Int32)), .val (.int (q0.toInt32)), .val (.int (((q0.toUInt64 >>> ((32 : Int32) &&& 0x3f).toInt64.toUInt64).toInt64).toInt32)), .val (.int f0), .val (.int f1), .val (.int (q1.toInt32)), .val (.int (((q1.toUInt64 >>> ((32 : Int32) &&& 0x3f).toInt64.toUInt64).toInt64).toInt32)), .val (.int vlo), .val (.int vhi), .val (.int s0), .val (.int vt), .val (.int s1), .val (.int s2), .val (.ref bf), .val (.ref b36), .unset, .unset] [(.int (3 : Int32)), (.int (1 : Int32))])) _
      refine XS.icmpYes X40.here hx rfl (pc0 := 174) (pc' := 183) rfl (hb hby at_174) rfl (tlt hc43).1 (by decide) (by decide) ?_
      exact k
    · skip
      obtain rfl : ns = (2 : Int32) := own_eq.mpr hk
      obtain ⟨T45, h45, k45, X45, e45, E45, A45, st45⟩ := newP X10 hx hZ (hw _ (List.mem_of_getElem? (i := 8) rfl)) e10 (g := (mkF m 143 #[.val (.long q0), .second, .val (.long q1), .second, .val (.int p2), .val (.int p3), .val (.int p4), .val (.int p5), .val (.int nf), .val (.int (2 : Int32)), .val (.int (q0.toInt32)), .val (.int (((q0.toUInt64 >>> ((32 : Int32) &&& 0x3f).toInt64.toUInt64).toInt64).toInt32)), .val (.int f0), .val (.int f1), .val (.int (q1.toInt32)), .val (.int (((q1.toUInt64 >>> ((32 : Int32) &&& 0x3f).toInt64.toUInt64).toInt64).toInt32)), .val (.int vlo), .val (.int vhi), .val (.int s0), .val (.int vt), .val (.int s1), .val (.int s2), .val (.ref bf), .unset, .unset, .unset] [(.int (2 : Int32))])) rfl (hb hby at_143) rfl (by decide) (cap := 2) (by decide) (by decide) (by decide) (by decide)
      obtain ⟨b45, g45⟩ : ∃ z, z = hh10.size := ⟨_, rfl⟩
      rw [← g45] at A45 st45
      have g_b45 : n0 ≤ b45 := Nat.le_trans Z10 (Nat.le_of_eq g45.symm)
      skip
      have Z45 : n0 ≤ h45.size := Nat.le_trans Z10 E45.1
      have ne_bf_b45 : bf ≠ b45 := Nat.ne_of_lt (Nat.lt_of_lt_of_le Af.lt (Nat.le_of_eq g45.symm))
      have K45 : Keep h0 h45 [] := K10.ext E45
      have sz_b45 : h0.size ≤ b45 := Nat.le_trans K10.1 (Nat.le_of_eq g45.symm)
      have c46 : Arr Z h45 bf cf .int := Af.ext E45
      have V45 : Arv Z h45 b45 k45 .int (2 : Int32) [(.int (0 : Int32)), (.int (0 : Int32))] (.int (0 : Int32)) := (Arv.new A45 (by decide)).pad (pad_rep [] (.int (0 : Int32)) 2)
      have hc47 : ¬ ((2 : Int32) < (1 : Int32)) := by decide
      obtain ⟨cl48, Ar48, q48, Sz48, Nn48, Hh48, Gg48⟩ := id V45
      have hin48 : ¬ ((0 : Int32) < 0 ∨ cl48.slots.size ≤ ((0 : Int32)).toNatClampNeg) := inb_of Sz48 ⟨by decide, by decide⟩
      obtain ⟨T49, h49, X49, e49, W49, st49⟩ := stI X45 hx hZ e45 Ar48 (j := (0 : Int32)) hin48 (g := (mkF m 158 #[.val (.long q0), .second, .val (.long q1), .second, .val (.int p2), .val (.int p3), .val (.int p4), .val (.int p5), .val (.int nf), .val (.int (2 : Int32)), .val (.int (q0.toInt32)), .val (.int (((q0.toUInt64 >>> ((32 : Int32) &&& 0x3f).toInt64.toUInt64).toInt64).toInt32)), .val (.int f0), .val (.int f1), .val (.int (q1.toInt32)), .val (.int (((q1.toUInt64 >>> ((32 : Int32) &&& 0x3f).toInt64.toUInt64).toInt64).toInt32)), .val (.int vlo), .val (.int vhi), .val (.int s0), .val (.int vt), .val (.int s1), .val (.int s2), .val (.ref bf), .val (.ref b45), .unset, .unset] [(.int s0), (.int (0 : Int32)), (.ref b45)])) rfl rfl (hb hby at_158)
      have V49 : Arv Z h49 b45 k45 .int (2 : Int32) [(.int s0), (.int (0 : Int32))] (.int (0 : Int32)) := Arv.set Ar48 q48 Sz48 Nn48 Hh48 Gg48 rfl W49 0 rfl (Nat.le_of_ble_eq_true rfl)
      have N49 := Fr.snoc X49 N10 g_b45
      have Z49 : n0 ≤ h49.size := Nat.le_trans Z45 (Keep.of_wr W49).1
      have K49 : Keep h0 h49 [] := K45.wr W49 (Or.inr sz_b45)
      have c50 : Arr Z h49 bf cf .int := c46.other W49 ne_bf_b45
      have hc51 : ¬ ((2 : Int32) < (2 : Int32)) := by decide
      obtain ⟨cl52, Ar52, q52, Sz52, Nn52, Hh52, Gg52⟩ := id V49
      have hin52 : ¬ ((1 : Int32) < 0 ∨ cl52.slots.size ≤ ((1 : Int32)).toNatClampNeg) := inb_of Sz52 ⟨by decide, by decide⟩
      obtain ⟨T53, h53, X53, e53, W53, st53⟩ := stI X49 hx hZ e49 Ar52 (j := (1 : Int32)) hin52 (g := (mkF m 170 #[.val (.long q0), .second, .val (.long q1), .second, .val (.int p2), .val (.int p3), .val (.int p4), .val (.int p5), .val (.int nf), .val (.int (2 : Int32)), .val (.int (q0.toInt32)), .val (.int (((q0.toUInt64 >>> ((32 : Int32) &&& 0x3f).toInt64.toUInt64).toInt64).toInt32)), .val (.int f0), .val (.int f1), .val (.int (q1.toInt32)), .val (.int (((q1.toUInt64 >>> ((32 : Int32) &&& 0x3f).toInt64.toUInt64).toInt64).toInt32)), .val (.int vlo), .val (.int vhi), .val (.int s0), .val (.int vt), .val (.int s1), .val (.int s2), .val (.ref bf), .val (.ref b45), .unset, .unset] [(.int s1), (.int (1 : Int32)), (.ref b45)])) rfl rfl (hb hby at_170)
      have V53 : Arv Z h53 b45 k45 .int (2 : Int32) [(.int s0), (.int s1)] (.int (0 : Int32)) := Arv.set Ar52 q52 Sz52 Nn52 Hh52 Gg52 rfl W53 1 rfl (Nat.le_of_ble_eq_true rfl)
      have N53 := Fr.snoc X53 N49 g_b45
      have Z53 : n0 ≤ h53.size := Nat.le_trans Z49 (Keep.of_wr W53).1
      have K53 : Keep h0 h53 [] := K49.wr W53 (Or.inr sz_b45)
      have c54 : Arr Z h53 bf cf .int := c50.other W53 ne_bf_b45
      have hc55 : (2 : Int32) < (3 : Int32) := by decide
      obtain ⟨cl56, Ar56, -, Sz56, -, Hh56, -⟩ := V53
      refine ⟨b45, cl56, T53, _, h53, X53.more (by decide) (by decide), e53, N53, Z53, K53, ⟨c54, Ar56, Sz56, fun j hj => by
        have q := Hh56 j (by rw [Sz56]; exact hj)
        have hj' : j < 2 := hj
        rcases (show j = 0 ∨ j = 1 by omega) with rfl | rfl <;> exact q⟩, fun t k => pre10 t ?_⟩
      show Steps p.tables e below (T10.setTop (mkF m 141 #[.val (.long q0), .second, .val (.long q1), .second, .val (.int p2), .val (.int p3), .val (.int p4), .val (.int p5), .val (.int nf), .val (.int (2 : Int32)), .val (.int (q0.toInt32)), .val (.int (((q0.toUInt64 >>> ((32 : Int32) &&& 0x3f).toInt64.toUInt64).toInt64).toInt32)), .val (.int f0), .val (.int f1), .val (.int (q1.toInt32)), .val (.int (((q1.toUInt64 >>> ((32 : Int32) &&& 0x3f).toInt64.toUInt64).toInt64).toInt32)), .val (.int vlo), .val (.int vhi), .val (.int s0), .val (.int vt), .val (.int s1), .val (.int s2), .val (.ref bf), .unset, .unset, .unset] [])) _
      refine XS.iload X10.here hx rfl (hb hby at_141) rfl ?_
      show Steps p.tables e below (T10.setTop (mkF m 143 #[.val (.long q0), .second, .val (.long q1), .second, .val (.int p2), .val (.int p3), .val (.int p4), .val (.int p5), .val (.int nf), .val (.int (2 : Int32)), .val (.int (q0.toInt32)), .val (.int (((q0.toUInt64 >>> ((32 : Int32) &&& 0x3f).toInt64.toUInt64).toInt64).toInt32)), .val (.int f0), .val (.int f1), .val (.int (q1.toInt32)), .val (.int (((q1.toUInt64 >>> ((32 : Int32) &&& 0x3f).toInt64.toUInt64).toInt64).toInt32)), .val (.int vlo), .val (.int vhi), .val (.int s0), .val (.int vt), .val (.int s1), .val (.int s2), .val (.ref bf), .unset, .unset, .unset] [(.int (2 : Int32))])) _
      refine st45 _ ?_
      show Steps p.tables e below (T45.setTop (mkF m 145 #[.val (.long q0), .second, .val (.long q1), .second, .val (.int p2), .val (.int p3), .val (.int p4), .val (.int p5), .val (.int nf), .val (.int (2 : Int32)), .val (.int (q0.toInt32)), .val (.int (((q0.toUInt64 >>> ((32 : Int32) &&& 0x3f).toInt64.toUInt64).toInt64).toInt32)), .val (.int f0), .val (.int f1), .val (.int (q1.toInt32)), .val (.int (((q1.toUInt64 >>> ((32 : Int32) &&& 0x3f).toInt64.toUInt64).toInt64).toInt32)), .val (.int vlo), .val (.int vhi), .val (.int s0), .val (.int vt), .val (.int s1), .val (.int s2), .val (.ref bf), .unset, .unset, .unset] [(.ref b45)])) _
      refine XS.astore X45.here hx rfl (hb hby at_145) rfl rfl (l' := #[.val (.long q0), .second, .val (.long q1), .second, .val (.int p2), .val (.int p3), .val (.int p4), .val (.int p5), .val (.int nf), .val (.int (2 : Int32)), .val (.int (q0.toInt32)), .val (.int (((q0.toUInt64 >>> ((32 : Int32) &&& 0x3f).toInt64.toUInt64).toInt64).toInt32)), .val (.int f0), .val (.int f1), .val (.int (q1.toInt32)), .val (.int (((q1.toUInt64 >>> ((32 : Int32) &&& 0x3f).toInt64.toUInt64).toInt64).toInt32)), .val (.int vlo), .val (.int vhi), .val (.int s0), .val (.int vt), .val (.int s1), .val (.int s2), .val (.ref bf), .val (.ref b45), .unset, .unset]) rfl ?_
      show Steps p.tables e below (T45.setTop (mkF m 147 #[.val (.long q0), .second, .val (.long q1), .second, .val (.int p2), .val (.int p3), .val (.int p4), .val (.int p5), .val (.int nf), .val (.int (2 : Int32)), .val (.int (q0.toInt32)), .val (.int (((q0.toUInt64 >>> ((32 : Int32) &&& 0x3f).toInt64.toUInt64).toInt64).toInt32)), .val (.int f0), .val (.int f1), .val (.int (q1.toInt32)), .val (.int (((q1.toUInt64 >>> ((32 : Int32) &&& 0x3f).toInt64.toUInt64).toInt64).toInt32)), .val (.int vlo), .val (.int vhi), .val (.int s0), .val (.int vt), .val (.int s1), .val (.int s2), .val (.ref bf), .val (.ref b45), .unset, .unset] [])) _
      refine XS.iload X45.here hx rfl (hb hby at_147) rfl ?_
      show Steps p.tables e below (T45.setTop (mkF m 149 #[.val (.long q0), .second, .val (.long q1), .second, .val (.int p2), .val (.int p3), .val (.int p4), .val (.int p5), .val (.int nf), .val (.int (2 : Int32)), .val (.int (q0.toInt32)), .val (.int (((q0.toUInt64 >>> ((32 : Int32) &&& 0x3f).toInt64.toUInt64).toInt64).toInt32)), .val (.int f0), .val (.int f1), .val (.int (q1.toInt32)), .val (.int (((q1.toUInt64 >>> ((32 : Int32) &&& 0x3f).toInt64.toUInt64).toInt64).toInt32)), .val (.int vlo), .val (.int vhi), .val (.int s0), .val (.int vt), .val (.int s1), .val (.int s2), .val (.ref bf), .val (.ref b45), .unset, .unset] [(.int (2 : Int32))])) _
      refine XS.iconst X45.here hx rfl (hb hby at_149) ?_
      show Steps p.tables e below (T45.setTop (mkF m 150 #[.val (.long q0), .second, .val (.long q1), .second, .val (.int p2), .val (.int p3), .val (.int p4), .val (.int p5), .val (.int nf), .val (.int (2 : Int32)), .val (.int (q0.toInt32)), .val (.int (((q0.toUInt64 >>> ((32 : Int32) &&& 0x3f).toInt64.toUInt64).toInt64).toInt32)), .val (.int f0), .val (.int f1), .val (.int (q1.toInt32)), .val (.int (((q1.toUInt64 >>> ((32 : Int32) &&& 0x3f).toInt64.toUInt64).toInt64).toInt32)), .val (.int vlo), .val (.int vhi), .val (.int s0), .val (.int vt), .val (.int s1), .val (.int s2), .val (.ref bf), .val (.ref b45), .unset, .unset] [(.int (1 : Int32)), (.int (2 : Int32))])) _
      refine XS.icmpNo X45.here hx rfl (hb hby at_150) rfl (flt hc47).1 ?_
      show Steps p.tables e below (T45.setTop (mkF m 153 #[.val (.long q0), .second, .val (.long q1), .second, .val (.int p2), .val (.int p3), .val (.int p4), .val (.int p5), .val (.int nf), .val (.int (2 : Int32)), .val (.int (q0.toInt32)), .val (.int (((q0.toUInt64 >>> ((32 : Int32) &&& 0x3f).toInt64.toUInt64).toInt64).toInt32)), .val (.int f0), .val (.int f1), .val (.int (q1.toInt32)), .val (.int (((q1.toUInt64 >>> ((32 : Int32) &&& 0x3f).toInt64.toUInt64).toInt64).toInt32)), .val (.int vlo), .val (.int vhi), .val (.int s0), .val (.int vt), .val (.int s1), .val (.int s2), .val (.ref bf), .val (.ref b45), .unset, .unset] [])) _
      refine XS.aload X45.here hx rfl (hb hby at_153) rfl rfl ?_
      show Steps p.tables e below (T45.setTop (mkF m 155 #[.val (.long q0), .second, .val (.long q1), .second, .val (.int p2), .val (.int p3), .val (.int p4), .val (.int p5), .val (.int nf), .val (.int (2 : Int32)), .val (.int (q0.toInt32)), .val (.int (((q0.toUInt64 >>> ((32 : Int32) &&& 0x3f).toInt64.toUInt64).toInt64).toInt32)), .val (.int f0), .val (.int f1), .val (.int (q1.toInt32)), .val (.int (((q1.toUInt64 >>> ((32 : Int32) &&& 0x3f).toInt64.toUInt64).toInt64).toInt32)), .val (.int vlo), .val (.int vhi), .val (.int s0), .val (.int vt), .val (.int s1), .val (.int s2), .val (.ref bf), .val (.ref b45), .unset, .unset] [(.ref b45)])) _
      refine XS.iconst X45.here hx rfl (hb hby at_155) ?_
      show Steps p.tables e below (T45.setTop (mkF m 156 #[.val (.long q0), .second, .val (.long q1), .second, .val (.int p2), .val (.int p3), .val (.int p4), .val (.int p5), .val (.int nf), .val (.int (2 : Int32)), .val (.int (q0.toInt32)), .val (.int (((q0.toUInt64 >>> ((32 : Int32) &&& 0x3f).toInt64.toUInt64).toInt64).toInt32)), .val (.int f0), .val (.int f1), .val (.int (q1.toInt32)), .val (.int (((q1.toUInt64 >>> ((32 : Int32) &&& 0x3f).toInt64.toUInt64).toInt64).toInt32)), .val (.int vlo), .val (.int vhi), .val (.int s0), .val (.int vt), .val (.int s1), .val (.int s2), .val (.ref bf), .val (.ref b45), .unset, .unset] [(.int (0 : Int32)), (.ref b45)])) _
      refine XS.iload X45.here hx rfl (hb hby at_156) rfl ?_
      show Steps p.tables e below (T45.setTop (mkF m 158 #[.val (.long q0), .second, .val (.long q1), .second, .val (.int p2), .val (.int p3), .val (.int p4), .val (.int p5), .val (.int nf), .val (.int (2 : Int32)), .val (.int (q0.toInt32)), .val (.int (((q0.toUInt64 >>> ((32 : Int32) &&& 0x3f).toInt64.toUInt64).toInt64).toInt32)), .val (.int f0), .val (.int f1), .val (.int (q1.toInt32)), .val (.int (((q1.toUInt64 >>> ((32 : Int32) &&& 0x3f).toInt64.toUInt64).toInt64).toInt32)), .val (.int vlo), .val (.int vhi), .val (.int s0), .val (.int vt), .val (.int s1), .val (.int s2), .val (.ref bf), .val (.ref b45), .unset, .unset] [(.int s0), (.int (0 : Int32)), (.ref b45)])) _
      refine st49 _ ?_
      show Steps p.tables e below (T49.setTop (mkF m 159 #[.val (.long q0), .second, .val (.long q1), .second, .val (.int p2), .val (.int p3), .val (.int p4), .val (.int p5), .val (.int nf), .val (.int (2 : Int32)), .val (.int (q0.toInt32)), .val (.int (((q0.toUInt64 >>> ((32 : Int32) &&& 0x3f).toInt64.toUInt64).toInt64).toInt32)), .val (.int f0), .val (.int f1), .val (.int (q1.toInt32)), .val (.int (((q1.toUInt64 >>> ((32 : Int32) &&& 0x3f).toInt64.toUInt64).toInt64).toInt32)), .val (.int vlo), .val (.int vhi), .val (.int s0), .val (.int vt), .val (.int s1), .val (.int s2), .val (.ref bf), .val (.ref b45), .unset, .unset] [])) _
      refine XS.iload X49.here hx rfl (hb hby at_159) rfl ?_
      show Steps p.tables e below (T49.setTop (mkF m 161 #[.val (.long q0), .second, .val (.long q1), .second, .val (.int p2), .val (.int p3), .val (.int p4), .val (.int p5), .val (.int nf), .val (.int (2 : Int32)), .val (.int (q0.toInt32)), .val (.int (((q0.toUInt64 >>> ((32 : Int32) &&& 0x3f).toInt64.toUInt64).toInt64).toInt32)), .val (.int f0), .val (.int f1), .val (.int (q1.toInt32)), .val (.int (((q1.toUInt64 >>> ((32 : Int32) &&& 0x3f).toInt64.toUInt64).toInt64).toInt32)), .val (.int vlo), .val (.int vhi), .val (.int s0), .val (.int vt), .val (.int s1), .val (.int s2), .val (.ref bf), .val (.ref b45), .unset, .unset] [(.int (2 : Int32))])) _
      refine XS.iconst X49.here hx rfl (hb hby at_161) ?_
      show Steps p.tables e below (T49.setTop (mkF m 162 #[.val (.long q0), .second, .val (.long q1), .second, .val (.int p2), .val (.int p3), .val (.int p4), .val (.int p5), .val (.int nf), .val (.int (2 : Int32)), .val (.int (q0.toInt32)), .val (.int (((q0.toUInt64 >>> ((32 : Int32) &&& 0x3f).toInt64.toUInt64).toInt64).toInt32)), .val (.int f0), .val (.int f1), .val (.int (q1.toInt32)), .val (.int (((q1.toUInt64 >>> ((32 : Int32) &&& 0x3f).toInt64.toUInt64).toInt64).toInt32)), .val (.int vlo), .val (.int vhi), .val (.int s0), .val (.int vt), .val (.int s1), .val (.int s2), .val (.ref bf), .val (.ref b45), .unset, .unset] [(.int (2 : Int32)), (.int (2 : Int32))])) _
      refine XS.icmpNo X49.here hx rfl (hb hby at_162) rfl (flt hc51).1 ?_
      show Steps p.tables e below (T49.setTop (mkF m 165 #[.val (.long q0), .second, .val (.long q1), .second, .val (.int p2), .val (.int p3), .val (.int p4), .val (.int p5), .val (.int nf), .val (.int (2 : Int32)), .val (.int (q0.toInt32)), .val (.int (((q0.toUInt64 >>> ((32 : Int32) &&& 0x3f).toInt64.toUInt64).toInt64).toInt32)), .val (.int f0), .val (.int f1), .val (.int (q1.toInt32)), .val (.int (((q1.toUInt64 >>> ((32 : Int32) &&& 0x3f).toInt64.toUInt64).toInt64).toInt32)), .val (.int vlo), .val (.int vhi), .val (.int s0), .val (.int vt), .val (.int s1), .val (.int s2), .val (.ref bf), .val (.ref b45), .unset, .unset] [])) _
      refine XS.aload X49.here hx rfl (hb hby at_165) rfl rfl ?_
      show Steps p.tables e below (T49.setTop (mkF m 167 #[.val (.long q0), .second, .val (.long q1), .second, .val (.int p2), .val (.int p3), .val (.int p4), .val (.int p5), .val (.int nf), .val (.int (2 : Int32)), .val (.int (q0.toInt32)), .val (.int (((q0.toUInt64 >>> ((32 : Int32) &&& 0x3f).toInt64.toUInt64).toInt64).toInt32)), .val (.int f0), .val (.int f1), .val (.int (q1.toInt32)), .val (.int (((q1.toUInt64 >>> ((32 : Int32) &&& 0x3f).toInt64.toUInt64).toInt64).toInt32)), .val (.int vlo), .val (.int vhi), .val (.int s0), .val (.int vt), .val (.int s1), .val (.int s2), .val (.ref bf), .val (.ref b45), .unset, .unset] [(.ref b45)])) _
      refine XS.iconst X49.here hx rfl (hb hby at_167) ?_
      show Steps p.tables e below (T49.setTop (mkF m 168 #[.val (.long q0), .second, .val (.long q1), .second, .val (.int p2), .val (.int p3), .val (.int p4), .val (.int p5), .val (.int nf), .val (.int (2 : Int32)), .val (.int (q0.toInt32)), .val (.int (((q0.toUInt64 >>> ((32 : Int32) &&& 0x3f).toInt64.toUInt64).toInt64).toInt32)), .val (.int f0), .val (.int f1), .val (.int (q1.toInt32)), .val (.int (((q1.toUInt64 >>> ((32 : Int32) &&& 0x3f).toInt64.toUInt64).toInt64).toInt32)), .val (.int vlo), .val (.int vhi), .val (.int s0), .val (.int vt), .val (.int s1), .val (.int s2), .val (.ref bf), .val (.ref b45), .unset, .unset] [(.int (1 : Int32)), (.ref b45)])) _
      refine XS.iload X49.here hx rfl (hb hby at_168) rfl ?_
      show Steps p.tables e below (T49.setTop (mkF m 170 #[.val (.long q0), .second, .val (.long q1), .second, .val (.int p2), .val (.int p3), .val (.int p4), .val (.int p5), .val (.int nf), .val (.int (2 : Int32)), .val (.int (q0.toInt32)), .val (.int (((q0.toUInt64 >>> ((32 : Int32) &&& 0x3f).toInt64.toUInt64).toInt64).toInt32)), .val (.int f0), .val (.int f1), .val (.int (q1.toInt32)), .val (.int (((q1.toUInt64 >>> ((32 : Int32) &&& 0x3f).toInt64.toUInt64).toInt64).toInt32)), .val (.int vlo), .val (.int vhi), .val (.int s0), .val (.int vt), .val (.int s1), .val (.int s2), .val (.ref bf), .val (.ref b45), .unset, .unset] [(.int s1), (.int (1 : Int32)), (.ref b45)])) _
      refine st53 _ ?_
      show Steps p.tables e below (T53.setTop (mkF m 171 #[.val (.long q0), .second, .val (.long q1), .second, .val (.int p2), .val (.int p3), .val (.int p4), .val (.int p5), .val (.int nf), .val (.int (2 : Int32)), .val (.int (q0.toInt32)), .val (.int (((q0.toUInt64 >>> ((32 : Int32) &&& 0x3f).toInt64.toUInt64).toInt64).toInt32)), .val (.int f0), .val (.int f1), .val (.int (q1.toInt32)), .val (.int (((q1.toUInt64 >>> ((32 : Int32) &&& 0x3f).toInt64.toUInt64).toInt64).toInt32)), .val (.int vlo), .val (.int vhi), .val (.int s0), .val (.int vt), .val (.int s1), .val (.int s2), .val (.ref bf), .val (.ref b45), .unset, .unset] [])) _
      refine XS.iload X53.here hx rfl (hb hby at_171) rfl ?_
      show Steps p.tables e below (T53.setTop (mkF m 173 #[.val (.long q0), .second, .val (.long q1), .second, .val (.int p2), .val (.int p3), .val (.int p4), .val (.int p5), .val (.int nf), .val (.int (2 : Int32)), .val (.int (q0.toInt32)), .val (.int (((q0.toUInt64 >>> ((32 : Int32) &&& 0x3f).toInt64.toUInt64).toInt64).toInt32)), .val (.int f0), .val (.int f1), .val (.int (q1.toInt32)), .val (.int (((q1.toUInt64 >>> ((32 : Int32) &&& 0x3f).toInt64.toUInt64).toInt64).toInt32)), .val (.int vlo), .val (.int vhi), .val (.int s0), .val (.int vt), .val (.int s1), .val (.int s2), .val (.ref bf), .val (.ref b45), .unset, .unset] [(.int (2 : Int32))])) _
      refine XS.iconst X53.here hx rfl (hb hby at_173) ?_
      show Steps p.tables e below (T53.setTop (mkF m 174 #[.val (.long q0), .second, .val (.long q1), .second, .val (.int p2), .val (.int p3), .val (.int p4), .val (.int p5), .val (.int nf), .val (.int (2 : Int32)), .val (.int (q0.toInt32)), .val (.int (((q0.toUInt64 >>> ((32 : Int32) &&& 0x3f).toInt64.toUInt64).toInt64).toInt32)), .val (.int f0), .val (.int f1), .val (.int (q1.toInt32)), .val (.int (((q1.toUInt64 >>> ((32 : Int32) &&& 0x3f).toInt64.toUInt64).toInt64).toInt32)), .val (.int vlo), .val (.int vhi), .val (.int s0), .val (.int vt), .val (.int s1), .val (.int s2), .val (.ref bf), .val (.ref b45), .unset, .unset] [(.int (3 : Int32)), (.int (2 : Int32))])) _
      refine XS.icmpYes X53.here hx rfl (pc0 := 174) (pc' := 183) rfl (hb hby at_174) rfl (tlt hc55).1 (by decide) (by decide) ?_
      exact k
    · skip
      obtain rfl : ns = (3 : Int32) := own_eq.mpr hk
      obtain ⟨T57, h57, k57, X57, e57, E57, A57, st57⟩ := newP X10 hx hZ (hw _ (List.mem_of_getElem? (i := 8) rfl)) e10 (g := (mkF m 143 #[.val (.long q0), .second, .val (.long q1), .second, .val (.int p2), .val (.int p3), .val (.int p4), .val (.int p5), .val (.int nf), .val (.int (3 : Int32)), .val (.int (q0.toInt32)), .val (.int (((q0.toUInt64 >>> ((32 : Int32) &&& 0x3f).toInt64.toUInt64).toInt64).toInt32)), .val (.int f0), .val (.int f1), .val (.int (q1.toInt32)), .val (.int (((q1.toUInt64 >>> ((32 : Int32) &&& 0x3f).toInt64.toUInt64).toInt64).toInt32)), .val (.int vlo), .val (.int vhi), .val (.int s0), .val (.int vt), .val (.int s1), .val (.int s2), .val (.ref bf), .unset, .unset, .unset] [(.int (3 : Int32))])) rfl (hb hby at_143) rfl (by decide) (cap := 3) (by decide) (by decide) (by decide) (by decide)
      obtain ⟨b57, g57⟩ : ∃ z, z = hh10.size := ⟨_, rfl⟩
      rw [← g57] at A57 st57
      have g_b57 : n0 ≤ b57 := Nat.le_trans Z10 (Nat.le_of_eq g57.symm)
      skip
      have Z57 : n0 ≤ h57.size := Nat.le_trans Z10 E57.1
      have ne_bf_b57 : bf ≠ b57 := Nat.ne_of_lt (Nat.lt_of_lt_of_le Af.lt (Nat.le_of_eq g57.symm))
      have K57 : Keep h0 h57 [] := K10.ext E57
      have sz_b57 : h0.size ≤ b57 := Nat.le_trans K10.1 (Nat.le_of_eq g57.symm)
      have c58 : Arr Z h57 bf cf .int := Af.ext E57
      have V57 : Arv Z h57 b57 k57 .int (3 : Int32) [(.int (0 : Int32)), (.int (0 : Int32)), (.int (0 : Int32))] (.int (0 : Int32)) := (Arv.new A57 (by decide)).pad (pad_rep [] (.int (0 : Int32)) 3)
      have hc59 : ¬ ((3 : Int32) < (1 : Int32)) := by decide
      obtain ⟨cl60, Ar60, q60, Sz60, Nn60, Hh60, Gg60⟩ := id V57
      have hin60 : ¬ ((0 : Int32) < 0 ∨ cl60.slots.size ≤ ((0 : Int32)).toNatClampNeg) := inb_of Sz60 ⟨by decide, by decide⟩
      obtain ⟨T61, h61, X61, e61, W61, st61⟩ := stI X57 hx hZ e57 Ar60 (j := (0 : Int32)) hin60 (g := (mkF m 158 #[.val (.long q0), .second, .val (.long q1), .second, .val (.int p2), .val (.int p3), .val (.int p4), .val (.int p5), .val (.int nf), .val (.int (3 : Int32)), .val (.int (q0.toInt32)), .val (.int (((q0.toUInt64 >>> ((32 : Int32) &&& 0x3f).toInt64.toUInt64).toInt64).toInt32)), .val (.int f0), .val (.int f1), .val (.int (q1.toInt32)), .val (.int (((q1.toUInt64 >>> ((32 : Int32) &&& 0x3f).toInt64.toUInt64).toInt64).toInt32)), .val (.int vlo), .val (.int vhi), .val (.int s0), .val (.int vt), .val (.int s1), .val (.int s2), .val (.ref bf), .val (.ref b57), .unset, .unset] [(.int s0), (.int (0 : Int32)), (.ref b57)])) rfl rfl (hb hby at_158)
      have V61 : Arv Z h61 b57 k57 .int (3 : Int32) [(.int s0), (.int (0 : Int32)), (.int (0 : Int32))] (.int (0 : Int32)) := Arv.set Ar60 q60 Sz60 Nn60 Hh60 Gg60 rfl W61 0 rfl (Nat.le_of_ble_eq_true rfl)
      have N61 := Fr.snoc X61 N10 g_b57
      have Z61 : n0 ≤ h61.size := Nat.le_trans Z57 (Keep.of_wr W61).1
      have K61 : Keep h0 h61 [] := K57.wr W61 (Or.inr sz_b57)
      have c62 : Arr Z h61 bf cf .int := c58.other W61 ne_bf_b57
      have hc63 : ¬ ((3 : Int32) < (2 : Int32)) := by decide
      obtain ⟨cl64, Ar64, q64, Sz64, Nn64, Hh64, Gg64⟩ := id V61
      have hin64 : ¬ ((1 : Int32) < 0 ∨ cl64.slots.size ≤ ((1 : Int32)).toNatClampNeg) := inb_of Sz64 ⟨by decide, by decide⟩
      obtain ⟨T65, h65, X65, e65, W65, st65⟩ := stI X61 hx hZ e61 Ar64 (j := (1 : Int32)) hin64 (g := (mkF m 170 #[.val (.long q0), .second, .val (.long q1), .second, .val (.int p2), .val (.int p3), .val (.int p4), .val (.int p5), .val (.int nf), .val (.int (3 : Int32)), .val (.int (q0.toInt32)), .val (.int (((q0.toUInt64 >>> ((32 : Int32) &&& 0x3f).toInt64.toUInt64).toInt64).toInt32)), .val (.int f0), .val (.int f1), .val (.int (q1.toInt32)), .val (.int (((q1.toUInt64 >>> ((32 : Int32) &&& 0x3f).toInt64.toUInt64).toInt64).toInt32)), .val (.int vlo), .val (.int vhi), .val (.int s0), .val (.int vt), .val (.int s1), .val (.int s2), .val (.ref bf), .val (.ref b57), .unset, .unset] [(.int s1), (.int (1 : Int32)), (.ref b57)])) rfl rfl (hb hby at_170)
      have V65 : Arv Z h65 b57 k57 .int (3 : Int32) [(.int s0), (.int s1), (.int (0 : Int32))] (.int (0 : Int32)) := Arv.set Ar64 q64 Sz64 Nn64 Hh64 Gg64 rfl W65 1 rfl (Nat.le_of_ble_eq_true rfl)
      have N65 := Fr.snoc X65 N61 g_b57
      have Z65 : n0 ≤ h65.size := Nat.le_trans Z61 (Keep.of_wr W65).1
      have K65 : Keep h0 h65 [] := K61.wr W65 (Or.inr sz_b57)
      have c66 : Arr Z h65 bf cf .int := c62.other W65 ne_bf_b57
      have hc67 : ¬ ((3 : Int32) < (3 : Int32)) := by decide
      obtain ⟨cl68, Ar68, q68, Sz68, Nn68, Hh68, Gg68⟩ := id V65
      have hin68 : ¬ ((2 : Int32) < 0 ∨ cl68.slots.size ≤ ((2 : Int32)).toNatClampNeg) := inb_of Sz68 ⟨by decide, by decide⟩
      obtain ⟨T69, h69, X69, e69, W69, st69⟩ := stI X65 hx hZ e65 Ar68 (j := (2 : Int32)) hin68 (g := (mkF m 182 #[.val (.long q0), .second, .val (.long q1), .second, .val (.int p2), .val (.int p3), .val (.int p4), .val (.int p5), .val (.int nf), .val (.int (3 : Int32)), .val (.int (q0.toInt32)), .val (.int (((q0.toUInt64 >>> ((32 : Int32) &&& 0x3f).toInt64.toUInt64).toInt64).toInt32)), .val (.int f0), .val (.int f1), .val (.int (q1.toInt32)), .val (.int (((q1.toUInt64 >>> ((32 : Int32) &&& 0x3f).toInt64.toUInt64).toInt64).toInt32)), .val (.int vlo), .val (.int vhi), .val (.int s0), .val (.int vt), .val (.int s1), .val (.int s2), .val (.ref bf), .val (.ref b57), .unset, .unset] [(.int s2), (.int (2 : Int32)), (.ref b57)])) rfl rfl (hb hby at_182)
      have V69 : Arv Z h69 b57 k57 .int (3 : Int32) [(.int s0), (.int s1), (.int s2)] (.int (0 : Int32)) := Arv.set Ar68 q68 Sz68 Nn68 Hh68 Gg68 rfl W69 2 rfl (Nat.le_of_ble_eq_true rfl)
      have N69 := Fr.snoc X69 N65 g_b57
      have Z69 : n0 ≤ h69.size := Nat.le_trans Z65 (Keep.of_wr W69).1
      have K69 : Keep h0 h69 [] := K65.wr W69 (Or.inr sz_b57)
      have c70 : Arr Z h69 bf cf .int := c66.other W69 ne_bf_b57
      obtain ⟨cl71, Ar71, -, Sz71, -, Hh71, -⟩ := V69
      refine ⟨b57, cl71, T69, _, h69, X69.more (by decide) (by decide), e69, N69, Z69, K69, ⟨c70, Ar71, Sz71, fun j hj => by
        have q := Hh71 j (by rw [Sz71]; exact hj)
        have hj' : j < 3 := hj
        rcases (show j = 0 ∨ j = 1 ∨ j = 2 by omega) with rfl | rfl | rfl <;> exact q⟩, fun t k => pre10 t ?_⟩
      show Steps p.tables e below (T10.setTop (mkF m 141 #[.val (.long q0), .second, .val (.long q1), .second, .val (.int p2), .val (.int p3), .val (.int p4), .val (.int p5), .val (.int nf), .val (.int (3 : Int32)), .val (.int (q0.toInt32)), .val (.int (((q0.toUInt64 >>> ((32 : Int32) &&& 0x3f).toInt64.toUInt64).toInt64).toInt32)), .val (.int f0), .val (.int f1), .val (.int (q1.toInt32)), .val (.int (((q1.toUInt64 >>> ((32 : Int32) &&& 0x3f).toInt64.toUInt64).toInt64).toInt32)), .val (.int vlo), .val (.int vhi), .val (.int s0), .val (.int vt), .val (.int s1), .val (.int s2), .val (.ref bf), .unset, .unset, .unset] [])) _
      refine XS.iload X10.here hx rfl (hb hby at_141) rfl ?_
      show Steps p.tables e below (T10.setTop (mkF m 143 #[.val (.long q0), .second, .val (.long q1), .second, .val (.int p2), .val (.int p3), .val (.int p4), .val (.int p5), .val (.int nf), .val (.int (3 : Int32)), .val (.int (q0.toInt32)), .val (.int (((q0.toUInt64 >>> ((32 : Int32) &&& 0x3f).toInt64.toUInt64).toInt64).toInt32)), .val (.int f0), .val (.int f1), .val (.int (q1.toInt32)), .val (.int (((q1.toUInt64 >>> ((32 : Int32) &&& 0x3f).toInt64.toUInt64).toInt64).toInt32)), .val (.int vlo), .val (.int vhi), .val (.int s0), .val (.int vt), .val (.int s1), .val (.int s2), .val (.ref bf), .unset, .unset, .unset] [(.int (3 : Int32))])) _
      refine st57 _ ?_
      show Steps p.tables e below (T57.setTop (mkF m 145 #[.val (.long q0), .second, .val (.long q1), .second, .val (.int p2), .val (.int p3), .val (.int p4), .val (.int p5), .val (.int nf), .val (.int (3 : Int32)), .val (.int (q0.toInt32)), .val (.int (((q0.toUInt64 >>> ((32 : Int32) &&& 0x3f).toInt64.toUInt64).toInt64).toInt32)), .val (.int f0), .val (.int f1), .val (.int (q1.toInt32)), .val (.int (((q1.toUInt64 >>> ((32 : Int32) &&& 0x3f).toInt64.toUInt64).toInt64).toInt32)), .val (.int vlo), .val (.int vhi), .val (.int s0), .val (.int vt), .val (.int s1), .val (.int s2), .val (.ref bf), .unset, .unset, .unset] [(.ref b57)])) _
      refine XS.astore X57.here hx rfl (hb hby at_145) rfl rfl (l' := #[.val (.long q0), .second, .val (.long q1), .second, .val (.int p2), .val (.int p3), .val (.int p4), .val (.int p5), .val (.int nf), .val (.int (3 : Int32)), .val (.int (q0.toInt32)), .val (.int (((q0.toUInt64 >>> ((32 : Int32) &&& 0x3f).toInt64.toUInt64).toInt64).toInt32)), .val (.int f0), .val (.int f1), .val (.int (q1.toInt32)), .val (.int (((q1.toUInt64 >>> ((32 : Int32) &&& 0x3f).toInt64.toUInt64).toInt64).toInt32)), .val (.int vlo), .val (.int vhi), .val (.int s0), .val (.int vt), .val (.int s1), .val (.int s2), .val (.ref bf), .val (.ref b57), .unset, .unset]) rfl ?_
      show Steps p.tables e below (T57.setTop (mkF m 147 #[.val (.long q0), .second, .val (.long q1), .second, .val (.int p2), .val (.int p3), .val (.int p4), .val (.int p5), .val (.int nf), .val (.int (3 : Int32)), .val (.int (q0.toInt32)), .val (.int (((q0.toUInt64 >>> ((32 : Int32) &&& 0x3f).toInt64.toUInt64).toInt64).toInt32)), .val (.int f0), .val (.int f1), .val (.int (q1.toInt32)), .val (.int (((q1.toUInt64 >>> ((32 : Int32) &&& 0x3f).toInt64.toUInt64).toInt64).toInt32)), .val (.int vlo), .val (.int vhi), .val (.int s0), .val (.int vt), .val (.int s1), .val (.int s2), .val (.ref bf), .val (.ref b57), .unset, .unset] [])) _
      refine XS.iload X57.here hx rfl (hb hby at_147) rfl ?_
      show Steps p.tables e below (T57.setTop (mkF m 149 #[.val (.long q0), .second, .val (.long q1), .second, .val (.int p2), .val (.int p3), .val (.int p4), .val (.int p5), .val (.int nf), .val (.int (3 : Int32)), .val (.int (q0.toInt32)), .val (.int (((q0.toUInt64 >>> ((32 : Int32) &&& 0x3f).toInt64.toUInt64).toInt64).toInt32)), .val (.int f0), .val (.int f1), .val (.int (q1.toInt32)), .val (.int (((q1.toUInt64 >>> ((32 : Int32) &&& 0x3f).toInt64.toUInt64).toInt64).toInt32)), .val (.int vlo), .val (.int vhi), .val (.int s0), .val (.int vt), .val (.int s1), .val (.int s2), .val (.ref bf), .val (.ref b57), .unset, .unset] [(.int (3 : Int32))])) _
      refine XS.iconst X57.here hx rfl (hb hby at_149) ?_
      show Steps p.tables e below (T57.setTop (mkF m 150 #[.val (.long q0), .second, .val (.long q1), .second, .val (.int p2), .val (.int p3), .val (.int p4), .val (.int p5), .val (.int nf), .val (.int (3 : Int32)), .val (.int (q0.toInt32)), .val (.int (((q0.toUInt64 >>> ((32 : Int32) &&& 0x3f).toInt64.toUInt64).toInt64).toInt32)), .val (.int f0), .val (.int f1), .val (.int (q1.toInt32)), .val (.int (((q1.toUInt64 >>> ((32 : Int32) &&& 0x3f).toInt64.toUInt64).toInt64).toInt32)), .val (.int vlo), .val (.int vhi), .val (.int s0), .val (.int vt), .val (.int s1), .val (.int s2), .val (.ref bf), .val (.ref b57), .unset, .unset] [(.int (1 : Int32)), (.int (3 : Int32))])) _
      refine XS.icmpNo X57.here hx rfl (hb hby at_150) rfl (flt hc59).1 ?_
      show Steps p.tables e below (T57.setTop (mkF m 153 #[.val (.long q0), .second, .val (.long q1), .second, .val (.int p2), .val (.int p3), .val (.int p4), .val (.int p5), .val (.int nf), .val (.int (3 : Int32)), .val (.int (q0.toInt32)), .val (.int (((q0.toUInt64 >>> ((32 : Int32) &&& 0x3f).toInt64.toUInt64).toInt64).toInt32)), .val (.int f0), .val (.int f1), .val (.int (q1.toInt32)), .val (.int (((q1.toUInt64 >>> ((32 : Int32) &&& 0x3f).toInt64.toUInt64).toInt64).toInt32)), .val (.int vlo), .val (.int vhi), .val (.int s0), .val (.int vt), .val (.int s1), .val (.int s2), .val (.ref bf), .val (.ref b57), .unset, .unset] [])) _
      refine XS.aload X57.here hx rfl (hb hby at_153) rfl rfl ?_
      show Steps p.tables e below (T57.setTop (mkF m 155 #[.val (.long q0), .second, .val (.long q1), .second, .val (.int p2), .val (.int p3), .val (.int p4), .val (.int p5), .val (.int nf), .val (.int (3 : Int32)), .val (.int (q0.toInt32)), .val (.int (((q0.toUInt64 >>> ((32 : Int32) &&& 0x3f).toInt64.toUInt64).toInt64).toInt32)), .val (.int f0), .val (.int f1), .val (.int (q1.toInt32)), .val (.int (((q1.toUInt64 >>> ((32 : Int32) &&& 0x3f).toInt64.toUInt64).toInt64).toInt32)), .val (.int vlo), .val (.int vhi), .val (.int s0), .val (.int vt), .val (.int s1), .val (.int s2), .val (.ref bf), .val (.ref b57), .unset, .unset] [(.ref b57)])) _
      refine XS.iconst X57.here hx rfl (hb hby at_155) ?_
      show Steps p.tables e below (T57.setTop (mkF m 156 #[.val (.long q0), .second, .val (.long q1), .second, .val (.int p2), .val (.int p3), .val (.int p4), .val (.int p5), .val (.int nf), .val (.int (3 : Int32)), .val (.int (q0.toInt32)), .val (.int (((q0.toUInt64 >>> ((32 : Int32) &&& 0x3f).toInt64.toUInt64).toInt64).toInt32)), .val (.int f0), .val (.int f1), .val (.int (q1.toInt32)), .val (.int (((q1.toUInt64 >>> ((32 : Int32) &&& 0x3f).toInt64.toUInt64).toInt64).toInt32)), .val (.int vlo), .val (.int vhi), .val (.int s0), .val (.int vt), .val (.int s1), .val (.int s2), .val (.ref bf), .val (.ref b57), .unset, .unset] [(.int (0 : Int32)), (.ref b57)])) _
      refine XS.iload X57.here hx rfl (hb hby at_156) rfl ?_
      show Steps p.tables e below (T57.setTop (mkF m 158 #[.val (.long q0), .second, .val (.long q1), .second, .val (.int p2), .val (.int p3), .val (.int p4), .val (.int p5), .val (.int nf), .val (.int (3 : Int32)), .val (.int (q0.toInt32)), .val (.int (((q0.toUInt64 >>> ((32 : Int32) &&& 0x3f).toInt64.toUInt64).toInt64).toInt32)), .val (.int f0), .val (.int f1), .val (.int (q1.toInt32)), .val (.int (((q1.toUInt64 >>> ((32 : Int32) &&& 0x3f).toInt64.toUInt64).toInt64).toInt32)), .val (.int vlo), .val (.int vhi), .val (.int s0), .val (.int vt), .val (.int s1), .val (.int s2), .val (.ref bf), .val (.ref b57), .unset, .unset] [(.int s0), (.int (0 : Int32)), (.ref b57)])) _
      refine st61 _ ?_
      show Steps p.tables e below (T61.setTop (mkF m 159 #[.val (.long q0), .second, .val (.long q1), .second, .val (.int p2), .val (.int p3), .val (.int p4), .val (.int p5), .val (.int nf), .val (.int (3 : Int32)), .val (.int (q0.toInt32)), .val (.int (((q0.toUInt64 >>> ((32 : Int32) &&& 0x3f).toInt64.toUInt64).toInt64).toInt32)), .val (.int f0), .val (.int f1), .val (.int (q1.toInt32)), .val (.int (((q1.toUInt64 >>> ((32 : Int32) &&& 0x3f).toInt64.toUInt64).toInt64).toInt32)), .val (.int vlo), .val (.int vhi), .val (.int s0), .val (.int vt), .val (.int s1), .val (.int s2), .val (.ref bf), .val (.ref b57), .unset, .unset] [])) _
      refine XS.iload X61.here hx rfl (hb hby at_159) rfl ?_
      show Steps p.tables e below (T61.setTop (mkF m 161 #[.val (.long q0), .second, .val (.long q1), .second, .val (.int p2), .val (.int p3), .val (.int p4), .val (.int p5), .val (.int nf), .val (.int (3 : Int32)), .val (.int (q0.toInt32)), .val (.int (((q0.toUInt64 >>> ((32 : Int32) &&& 0x3f).toInt64.toUInt64).toInt64).toInt32)), .val (.int f0), .val (.int f1), .val (.int (q1.toInt32)), .val (.int (((q1.toUInt64 >>> ((32 : Int32) &&& 0x3f).toInt64.toUInt64).toInt64).toInt32)), .val (.int vlo), .val (.int vhi), .val (.int s0), .val (.int vt), .val (.int s1), .val (.int s2), .val (.ref bf), .val (.ref b57), .unset, .unset] [(.int (3 : Int32))])) _
      refine XS.iconst X61.here hx rfl (hb hby at_161) ?_
      show Steps p.tables e below (T61.setTop (mkF m 162 #[.val (.long q0), .second, .val (.long q1), .second, .val (.int p2), .val (.int p3), .val (.int p4), .val (.int p5), .val (.int nf), .val (.int (3 : Int32)), .val (.int (q0.toInt32)), .val (.int (((q0.toUInt64 >>> ((32 : Int32) &&& 0x3f).toInt64.toUInt64).toInt64).toInt32)), .val (.int f0), .val (.int f1), .val (.int (q1.toInt32)), .val (.int (((q1.toUInt64 >>> ((32 : Int32) &&& 0x3f).toInt64.toUInt64).toInt64).toInt32)), .val (.int vlo), .val (.int vhi), .val (.int s0), .val (.int vt), .val (.int s1), .val (.int s2), .val (.ref bf), .val (.ref b57), .unset, .unset] [(.int (2 : Int32)), (.int (3 : Int32))])) _
      refine XS.icmpNo X61.here hx rfl (hb hby at_162) rfl (flt hc63).1 ?_
      show Steps p.tables e below (T61.setTop (mkF m 165 #[.val (.long q0), .second, .val (.long q1), .second, .val (.int p2), .val (.int p3), .val (.int p4), .val (.int p5), .val (.int nf), .val (.int (3 : Int32)), .val (.int (q0.toInt32)), .val (.int (((q0.toUInt64 >>> ((32 : Int32) &&& 0x3f).toInt64.toUInt64).toInt64).toInt32)), .val (.int f0), .val (.int f1), .val (.int (q1.toInt32)), .val (.int (((q1.toUInt64 >>> ((32 : Int32) &&& 0x3f).toInt64.toUInt64).toInt64).toInt32)), .val (.int vlo), .val (.int vhi), .val (.int s0), .val (.int vt), .val (.int s1), .val (.int s2), .val (.ref bf), .val (.ref b57), .unset, .unset] [])) _
      refine XS.aload X61.here hx rfl (hb hby at_165) rfl rfl ?_
      show Steps p.tables e below (T61.setTop (mkF m 167 #[.val (.long q0), .second, .val (.long q1), .second, .val (.int p2), .val (.int p3), .val (.int p4), .val (.int p5), .val (.int nf), .val (.int (3 : Int32)), .val (.int (q0.toInt32)), .val (.int (((q0.toUInt64 >>> ((32 : Int32) &&& 0x3f).toInt64.toUInt64).toInt64).toInt32)), .val (.int f0), .val (.int f1), .val (.int (q1.toInt32)), .val (.int (((q1.toUInt64 >>> ((32 : Int32) &&& 0x3f).toInt64.toUInt64).toInt64).toInt32)), .val (.int vlo), .val (.int vhi), .val (.int s0), .val (.int vt), .val (.int s1), .val (.int s2), .val (.ref bf), .val (.ref b57), .unset, .unset] [(.ref b57)])) _
      refine XS.iconst X61.here hx rfl (hb hby at_167) ?_
      show Steps p.tables e below (T61.setTop (mkF m 168 #[.val (.long q0), .second, .val (.long q1), .second, .val (.int p2), .val (.int p3), .val (.int p4), .val (.int p5), .val (.int nf), .val (.int (3 : Int32)), .val (.int (q0.toInt32)), .val (.int (((q0.toUInt64 >>> ((32 : Int32) &&& 0x3f).toInt64.toUInt64).toInt64).toInt32)), .val (.int f0), .val (.int f1), .val (.int (q1.toInt32)), .val (.int (((q1.toUInt64 >>> ((32 : Int32) &&& 0x3f).toInt64.toUInt64).toInt64).toInt32)), .val (.int vlo), .val (.int vhi), .val (.int s0), .val (.int vt), .val (.int s1), .val (.int s2), .val (.ref bf), .val (.ref b57), .unset, .unset] [(.int (1 : Int32)), (.ref b57)])) _
      refine XS.iload X61.here hx rfl (hb hby at_168) rfl ?_
      show Steps p.tables e below (T61.setTop (mkF m 170 #[.val (.long q0), .second, .val (.long q1), .second, .val (.int p2), .val (.int p3), .val (.int p4), .val (.int p5), .val (.int nf), .val (.int (3 : Int32)), .val (.int (q0.toInt32)), .val (.int (((q0.toUInt64 >>> ((32 : Int32) &&& 0x3f).toInt64.toUInt64).toInt64).toInt32)), .val (.int f0), .val (.int f1), .val (.int (q1.toInt32)), .val (.int (((q1.toUInt64 >>> ((32 : Int32) &&& 0x3f).toInt64.toUInt64).toInt64).toInt32)), .val (.int vlo), .val (.int vhi), .val (.int s0), .val (.int vt), .val (.int s1), .val (.int s2), .val (.ref bf), .val (.ref b57), .unset, .unset] [(.int s1), (.int (1 : Int32)), (.ref b57)])) _
      refine st65 _ ?_
      show Steps p.tables e below (T65.setTop (mkF m 171 #[.val (.long q0), .second, .val (.long q1), .second, .val (.int p2), .val (.int p3), .val (.int p4), .val (.int p5), .val (.int nf), .val (.int (3 : Int32)), .val (.int (q0.toInt32)), .val (.int (((q0.toUInt64 >>> ((32 : Int32) &&& 0x3f).toInt64.toUInt64).toInt64).toInt32)), .val (.int f0), .val (.int f1), .val (.int (q1.toInt32)), .val (.int (((q1.toUInt64 >>> ((32 : Int32) &&& 0x3f).toInt64.toUInt64).toInt64).toInt32)), .val (.int vlo), .val (.int vhi), .val (.int s0), .val (.int vt), .val (.int s1), .val (.int s2), .val (.ref bf), .val (.ref b57), .unset, .unset] [])) _
      refine XS.iload X65.here hx rfl (hb hby at_171) rfl ?_
      show Steps p.tables e below (T65.setTop (mkF m 173 #[.val (.long q0), .second, .val (.long q1), .second, .val (.int p2), .val (.int p3), .val (.int p4), .val (.int p5), .val (.int nf), .val (.int (3 : Int32)), .val (.int (q0.toInt32)), .val (.int (((q0.toUInt64 >>> ((32 : Int32) &&& 0x3f).toInt64.toUInt64).toInt64).toInt32)), .val (.int f0), .val (.int f1), .val (.int (q1.toInt32)), .val (.int (((q1.toUInt64 >>> ((32 : Int32) &&& 0x3f).toInt64.toUInt64).toInt64).toInt32)), .val (.int vlo), .val (.int vhi), .val (.int s0), .val (.int vt), .val (.int s1), .val (.int s2), .val (.ref bf), .val (.ref b57), .unset, .unset] [(.int (3 : Int32))])) _
      refine XS.iconst X65.here hx rfl (hb hby at_173) ?_
      show Steps p.tables e below (T65.setTop (mkF m 174 #[.val (.long q0), .second, .val (.long q1), .second, .val (.int p2), .val (.int p3), .val (.int p4), .val (.int p5), .val (.int nf), .val (.int (3 : Int32)), .val (.int (q0.toInt32)), .val (.int (((q0.toUInt64 >>> ((32 : Int32) &&& 0x3f).toInt64.toUInt64).toInt64).toInt32)), .val (.int f0), .val (.int f1), .val (.int (q1.toInt32)), .val (.int (((q1.toUInt64 >>> ((32 : Int32) &&& 0x3f).toInt64.toUInt64).toInt64).toInt32)), .val (.int vlo), .val (.int vhi), .val (.int s0), .val (.int vt), .val (.int s1), .val (.int s2), .val (.ref bf), .val (.ref b57), .unset, .unset] [(.int (3 : Int32)), (.int (3 : Int32))])) _
      refine XS.icmpNo X65.here hx rfl (hb hby at_174) rfl (flt hc67).1 ?_
      show Steps p.tables e below (T65.setTop (mkF m 177 #[.val (.long q0), .second, .val (.long q1), .second, .val (.int p2), .val (.int p3), .val (.int p4), .val (.int p5), .val (.int nf), .val (.int (3 : Int32)), .val (.int (q0.toInt32)), .val (.int (((q0.toUInt64 >>> ((32 : Int32) &&& 0x3f).toInt64.toUInt64).toInt64).toInt32)), .val (.int f0), .val (.int f1), .val (.int (q1.toInt32)), .val (.int (((q1.toUInt64 >>> ((32 : Int32) &&& 0x3f).toInt64.toUInt64).toInt64).toInt32)), .val (.int vlo), .val (.int vhi), .val (.int s0), .val (.int vt), .val (.int s1), .val (.int s2), .val (.ref bf), .val (.ref b57), .unset, .unset] [])) _
      refine XS.aload X65.here hx rfl (hb hby at_177) rfl rfl ?_
      show Steps p.tables e below (T65.setTop (mkF m 179 #[.val (.long q0), .second, .val (.long q1), .second, .val (.int p2), .val (.int p3), .val (.int p4), .val (.int p5), .val (.int nf), .val (.int (3 : Int32)), .val (.int (q0.toInt32)), .val (.int (((q0.toUInt64 >>> ((32 : Int32) &&& 0x3f).toInt64.toUInt64).toInt64).toInt32)), .val (.int f0), .val (.int f1), .val (.int (q1.toInt32)), .val (.int (((q1.toUInt64 >>> ((32 : Int32) &&& 0x3f).toInt64.toUInt64).toInt64).toInt32)), .val (.int vlo), .val (.int vhi), .val (.int s0), .val (.int vt), .val (.int s1), .val (.int s2), .val (.ref bf), .val (.ref b57), .unset, .unset] [(.ref b57)])) _
      refine XS.iconst X65.here hx rfl (hb hby at_179) ?_
      show Steps p.tables e below (T65.setTop (mkF m 180 #[.val (.long q0), .second, .val (.long q1), .second, .val (.int p2), .val (.int p3), .val (.int p4), .val (.int p5), .val (.int nf), .val (.int (3 : Int32)), .val (.int (q0.toInt32)), .val (.int (((q0.toUInt64 >>> ((32 : Int32) &&& 0x3f).toInt64.toUInt64).toInt64).toInt32)), .val (.int f0), .val (.int f1), .val (.int (q1.toInt32)), .val (.int (((q1.toUInt64 >>> ((32 : Int32) &&& 0x3f).toInt64.toUInt64).toInt64).toInt32)), .val (.int vlo), .val (.int vhi), .val (.int s0), .val (.int vt), .val (.int s1), .val (.int s2), .val (.ref bf), .val (.ref b57), .unset, .unset] [(.int (2 : Int32)), (.ref b57)])) _
      refine XS.iload X65.here hx rfl (hb hby at_180) rfl ?_
      show Steps p.tables e below (T65.setTop (mkF m 182 #[.val (.long q0), .second, .val (.long q1), .second, .val (.int p2), .val (.int p3), .val (.int p4), .val (.int p5), .val (.int nf), .val (.int (3 : Int32)), .val (.int (q0.toInt32)), .val (.int (((q0.toUInt64 >>> ((32 : Int32) &&& 0x3f).toInt64.toUInt64).toInt64).toInt32)), .val (.int f0), .val (.int f1), .val (.int (q1.toInt32)), .val (.int (((q1.toUInt64 >>> ((32 : Int32) &&& 0x3f).toInt64.toUInt64).toInt64).toInt32)), .val (.int vlo), .val (.int vhi), .val (.int s0), .val (.int vt), .val (.int s1), .val (.int s2), .val (.ref bf), .val (.ref b57), .unset, .unset] [(.int s2), (.int (2 : Int32)), (.ref b57)])) _
      refine st69 _ ?_
      exact k
  have Mg : ¬ ns < 0 := own_nlt.mpr (show 0 ≤ ns.toInt by omega)
  obtain ⟨ex, T72, L72, rfl, X72, e72, N72, pre72⟩ : ∃ (ex : Int32) (T72 : State) (L72 : List Loc), (ex = bI ((1 ≤ nf.toInt ∧ ((1 ≤ ns.toInt ∧ f0.toInt + p3.toInt ≤ s0.toInt ∧ s0.toInt ≤ f0.toInt + p3.toInt + p4.toInt) ∨ (2 ≤ ns.toInt ∧ f0.toInt + p3.toInt ≤ s1.toInt ∧ s1.toInt ≤ f0.toInt + p3.toInt + p4.toInt) ∨ (3 ≤ ns.toInt ∧ f0.toInt + p3.toInt ≤ s2.toInt ∧ s2.toInt ≤ f0.toInt + p3.toInt + p4.toInt))) ∨ (2 ≤ nf.toInt ∧ ((1 ≤ ns.toInt ∧ f1.toInt + p3.toInt ≤ s0.toInt ∧ s0.toInt ≤ f1.toInt + p3.toInt + p4.toInt) ∨ (2 ≤ ns.toInt ∧ f1.toInt + p3.toInt ≤ s1.toInt ∧ s1.toInt ≤ f1.toInt + p3.toInt + p4.toInt) ∨ (3 ≤ ns.toInt ∧ f1.toInt + p3.toInt ≤ s2.toInt ∧ s2.toInt ≤ f1.toInt + p3.toInt + p4.toInt))))) ∧ Stand p l e room_1 s m #[(.long q0), (.long q1), (.int p2), (.int p3), (.int p4), (.int p5)] below meth c T72 L72 2 5 ∧ T72.heap = hh29 ∧ Fr n0 L72 ∧ ∀ t, Steps p.tables e below (T72.setTop (mkF m 244 #[.val (.long q0), .second, .val (.long q1), .second, .val (.int p2), .val (.int p3), .val (.int p4), .val (.int p5), .val (.int nf), .val (.int ns), .val (.int (q0.toInt32)), .val (.int (((q0.toUInt64 >>> ((32 : Int32) &&& 0x3f).toInt64.toUInt64).toInt64).toInt32)), .val (.int f0), .val (.int f1), .val (.int (q1.toInt32)), .val (.int (((q1.toUInt64 >>> ((32 : Int32) &&& 0x3f).toInt64.toUInt64).toInt64).toInt32)), .val (.int vlo), .val (.int vhi), .val (.int s0), .val (.int vt), .val (.int s1), .val (.int s2), .val (.ref bf), .val (.ref bg), .val (.int ex), .unset] [])) t → Steps p.tables e below (s₁.setTop (mkF m 0 #[.val (.long q0), .second, .val (.long q1), .second, .val (.int p2), .val (.int p3), .val (.int p4), .val (.int p5), .unset, .unset, .unset, .unset, .unset, .unset, .unset, .unset, .unset, .unset, .unset, .unset, .unset, .unset, .unset, .unset, .unset, .unset] [])) t := by
    have pre74 : ∀ t, Steps p.tables e below (T29.setTop (mkF m 189 #[.val (.long q0), .second, .val (.long q1), .second, .val (.int p2), .val (.int p3), .val (.int p4), .val (.int p5), .val (.int nf), .val (.int ns), .val (.int (q0.toInt32)), .val (.int (((q0.toUInt64 >>> ((32 : Int32) &&& 0x3f).toInt64.toUInt64).toInt64).toInt32)), .val (.int f0), .val (.int f1), .val (.int (q1.toInt32)), .val (.int (((q1.toUInt64 >>> ((32 : Int32) &&& 0x3f).toInt64.toUInt64).toInt64).toInt32)), .val (.int vlo), .val (.int vhi), .val (.int s0), .val (.int vt), .val (.int s1), .val (.int s2), .val (.ref bf), .val (.ref bg), .val (.int (0 : Int32)), .unset] [(.int (1 : Int32)), (.int nf)])) t → Steps p.tables e below (s₁.setTop (mkF m 0 #[.val (.long q0), .second, .val (.long q1), .second, .val (.int p2), .val (.int p3), .val (.int p4), .val (.int p5), .unset, .unset, .unset, .unset, .unset, .unset, .unset, .unset, .unset, .unset, .unset, .unset, .unset, .unset, .unset, .unset, .unset, .unset] [])) t := fun t k => pre29 t (by
      show Steps p.tables e below (T29.setTop (mkF m 183 #[.val (.long q0), .second, .val (.long q1), .second, .val (.int p2), .val (.int p3), .val (.int p4), .val (.int p5), .val (.int nf), .val (.int ns), .val (.int (q0.toInt32)), .val (.int (((q0.toUInt64 >>> ((32 : Int32) &&& 0x3f).toInt64.toUInt64).toInt64).toInt32)), .val (.int f0), .val (.int f1), .val (.int (q1.toInt32)), .val (.int (((q1.toUInt64 >>> ((32 : Int32) &&& 0x3f).toInt64.toUInt64).toInt64).toInt32)), .val (.int vlo), .val (.int vhi), .val (.int s0), .val (.int vt), .val (.int s1), .val (.int s2), .val (.ref bf), .val (.ref bg), .unset, .unset] [])) _
      refine XS.iconst X29.here hx rfl (hb hby at_183) ?_
      show Steps p.tables e below (T29.setTop (mkF m 184 #[.val (.long q0), .second, .val (.long q1), .second, .val (.int p2), .val (.int p3), .val (.int p4), .val (.int p5), .val (.int nf), .val (.int ns), .val (.int (q0.toInt32)), .val (.int (((q0.toUInt64 >>> ((32 : Int32) &&& 0x3f).toInt64.toUInt64).toInt64).toInt32)), .val (.int f0), .val (.int f1), .val (.int (q1.toInt32)), .val (.int (((q1.toUInt64 >>> ((32 : Int32) &&& 0x3f).toInt64.toUInt64).toInt64).toInt32)), .val (.int vlo), .val (.int vhi), .val (.int s0), .val (.int vt), .val (.int s1), .val (.int s2), .val (.ref bf), .val (.ref bg), .unset, .unset] [(.int (0 : Int32))])) _
      refine XS.istore X29.here hx rfl (hb hby at_184) rfl (l' := #[.val (.long q0), .second, .val (.long q1), .second, .val (.int p2), .val (.int p3), .val (.int p4), .val (.int p5), .val (.int nf), .val (.int ns), .val (.int (q0.toInt32)), .val (.int (((q0.toUInt64 >>> ((32 : Int32) &&& 0x3f).toInt64.toUInt64).toInt64).toInt32)), .val (.int f0), .val (.int f1), .val (.int (q1.toInt32)), .val (.int (((q1.toUInt64 >>> ((32 : Int32) &&& 0x3f).toInt64.toUInt64).toInt64).toInt32)), .val (.int vlo), .val (.int vhi), .val (.int s0), .val (.int vt), .val (.int s1), .val (.int s2), .val (.ref bf), .val (.ref bg), .val (.int (0 : Int32)), .unset]) rfl ?_
      show Steps p.tables e below (T29.setTop (mkF m 186 #[.val (.long q0), .second, .val (.long q1), .second, .val (.int p2), .val (.int p3), .val (.int p4), .val (.int p5), .val (.int nf), .val (.int ns), .val (.int (q0.toInt32)), .val (.int (((q0.toUInt64 >>> ((32 : Int32) &&& 0x3f).toInt64.toUInt64).toInt64).toInt32)), .val (.int f0), .val (.int f1), .val (.int (q1.toInt32)), .val (.int (((q1.toUInt64 >>> ((32 : Int32) &&& 0x3f).toInt64.toUInt64).toInt64).toInt32)), .val (.int vlo), .val (.int vhi), .val (.int s0), .val (.int vt), .val (.int s1), .val (.int s2), .val (.ref bf), .val (.ref bg), .val (.int (0 : Int32)), .unset] [])) _
      refine XS.iload X29.here hx rfl (hb hby at_186) rfl ?_
      show Steps p.tables e below (T29.setTop (mkF m 188 #[.val (.long q0), .second, .val (.long q1), .second, .val (.int p2), .val (.int p3), .val (.int p4), .val (.int p5), .val (.int nf), .val (.int ns), .val (.int (q0.toInt32)), .val (.int (((q0.toUInt64 >>> ((32 : Int32) &&& 0x3f).toInt64.toUInt64).toInt64).toInt32)), .val (.int f0), .val (.int f1), .val (.int (q1.toInt32)), .val (.int (((q1.toUInt64 >>> ((32 : Int32) &&& 0x3f).toInt64.toUInt64).toInt64).toInt32)), .val (.int vlo), .val (.int vhi), .val (.int s0), .val (.int vt), .val (.int s1), .val (.int s2), .val (.ref bf), .val (.ref bg), .val (.int (0 : Int32)), .unset] [(.int nf)])) _
      refine XS.iconst X29.here hx rfl (hb hby at_188) ?_
      exact k)
    by_cases hc73 : nf < (1 : Int32)
    · skip
      have ohc73 : nf.toInt < 1 := own_lt.mp hc73
      have pre76 : ∀ t, Steps p.tables e below (T29.setTop (mkF m 218 #[.val (.long q0), .second, .val (.long q1), .second, .val (.int p2), .val (.int p3), .val (.int p4), .val (.int p5), .val (.int nf), .val (.int ns), .val (.int (q0.toInt32)), .val (.int (((q0.toUInt64 >>> ((32 : Int32) &&& 0x3f).toInt64.toUInt64).toInt64).toInt32)), .val (.int f0), .val (.int f1), .val (.int (q1.toInt32)), .val (.int (((q1.toUInt64 >>> ((32 : Int32) &&& 0x3f).toInt64.toUInt64).toInt64).toInt32)), .val (.int vlo), .val (.int vhi), .val (.int s0), .val (.int vt), .val (.int s1), .val (.int s2), .val (.ref bf), .val (.ref bg), .val (.int (0 : Int32)), .unset] [(.int (2 : Int32)), (.int nf)])) t → Steps p.tables e below (s₁.setTop (mkF m 0 #[.val (.long q0), .second, .val (.long q1), .second, .val (.int p2), .val (.int p3), .val (.int p4), .val (.int p5), .unset, .unset, .unset, .unset, .unset, .unset, .unset, .unset, .unset, .unset, .unset, .unset, .unset, .unset, .unset, .unset, .unset, .unset] [])) t := fun t k => pre74 t (by
        show Steps p.tables e below (T29.setTop (mkF m 189 #[.val (.long q0), .second, .val (.long q1), .second, .val (.int p2), .val (.int p3), .val (.int p4), .val (.int p5), .val (.int nf), .val (.int ns), .val (.int (q0.toInt32)), .val (.int (((q0.toUInt64 >>> ((32 : Int32) &&& 0x3f).toInt64.toUInt64).toInt64).toInt32)), .val (.int f0), .val (.int f1), .val (.int (q1.toInt32)), .val (.int (((q1.toUInt64 >>> ((32 : Int32) &&& 0x3f).toInt64.toUInt64).toInt64).toInt32)), .val (.int vlo), .val (.int vhi), .val (.int s0), .val (.int vt), .val (.int s1), .val (.int s2), .val (.ref bf), .val (.ref bg), .val (.int (0 : Int32)), .unset] [(.int (1 : Int32)), (.int nf)])) _
        refine XS.icmpYes X29.here hx rfl (pc0 := 189) (pc' := 215) rfl (hb hby at_189) rfl (tlt hc73).1 (by decide) (by decide) ?_
        show Steps p.tables e below (T29.setTop (mkF m 215 #[.val (.long q0), .second, .val (.long q1), .second, .val (.int p2), .val (.int p3), .val (.int p4), .val (.int p5), .val (.int nf), .val (.int ns), .val (.int (q0.toInt32)), .val (.int (((q0.toUInt64 >>> ((32 : Int32) &&& 0x3f).toInt64.toUInt64).toInt64).toInt32)), .val (.int f0), .val (.int f1), .val (.int (q1.toInt32)), .val (.int (((q1.toUInt64 >>> ((32 : Int32) &&& 0x3f).toInt64.toUInt64).toInt64).toInt32)), .val (.int vlo), .val (.int vhi), .val (.int s0), .val (.int vt), .val (.int s1), .val (.int s2), .val (.ref bf), .val (.ref bg), .val (.int (0 : Int32)), .unset] [])) _
        refine XS.iload X29.here hx rfl (hb hby at_215) rfl ?_
        show Steps p.tables e below (T29.setTop (mkF m 217 #[.val (.long q0), .second, .val (.long q1), .second, .val (.int p2), .val (.int p3), .val (.int p4), .val (.int p5), .val (.int nf), .val (.int ns), .val (.int (q0.toInt32)), .val (.int (((q0.toUInt64 >>> ((32 : Int32) &&& 0x3f).toInt64.toUInt64).toInt64).toInt32)), .val (.int f0), .val (.int f1), .val (.int (q1.toInt32)), .val (.int (((q1.toUInt64 >>> ((32 : Int32) &&& 0x3f).toInt64.toUInt64).toInt64).toInt32)), .val (.int vlo), .val (.int vhi), .val (.int s0), .val (.int vt), .val (.int s1), .val (.int s2), .val (.ref bf), .val (.ref bg), .val (.int (0 : Int32)), .unset] [(.int nf)])) _
        refine XS.iconst X29.here hx rfl (hb hby at_217) ?_
        exact k)
      by_cases hc75 : nf < (2 : Int32)
      · skip
        have ohc75 : nf.toInt < 2 := own_lt.mp hc75
        refine ⟨(0 : Int32), T29, _, ?_, X29, e29, N29, fun t k => pre76 t ?_⟩
        · exact own_c0 (fun q => q.elim (fun q => by have r := q.1; clear q; omega) (fun q => by have r := q.1; clear q; omega))
        · skip
          show Steps p.tables e below (T29.setTop (mkF m 218 #[.val (.long q0), .second, .val (.long q1), .second, .val (.int p2), .val (.int p3), .val (.int p4), .val (.int p5), .val (.int nf), .val (.int ns), .val (.int (q0.toInt32)), .val (.int (((q0.toUInt64 >>> ((32 : Int32) &&& 0x3f).toInt64.toUInt64).toInt64).toInt32)), .val (.int f0), .val (.int f1), .val (.int (q1.toInt32)), .val (.int (((q1.toUInt64 >>> ((32 : Int32) &&& 0x3f).toInt64.toUInt64).toInt64).toInt32)), .val (.int vlo), .val (.int vhi), .val (.int s0), .val (.int vt), .val (.int s1), .val (.int s2), .val (.ref bf), .val (.ref bg), .val (.int (0 : Int32)), .unset] [(.int (2 : Int32)), (.int nf)])) _
          refine XS.icmpYes X29.here hx rfl (pc0 := 218) (pc' := 244) rfl (hb hby at_218) rfl (tlt hc75).1 (by decide) (by decide) ?_
          exact k
      · skip
        have ohc75 : 2 ≤ nf.toInt := own_nlt.mp hc75
        obtain ⟨_, _, ⟨T77, L77, k77, n77⟩, -, X77, ⟨Lc77, hQ77, l77, y77, z77⟩, st77⟩ := Jvm.LawKit.callS X29 hx (y := (⟨"com/example/cranfield/cranfield/search/OccurrencesFollowedWithinPinLaw", "row", "(IIIIIII)Z"⟩ : MethodName)) hown (mvT hZ (hw _ (List.mem_of_getElem? (i := 9) rfl))) (mvT hZ (hw _ (List.mem_of_getElem? (i := 10) rfl))) (mvT hZ (hw _ (List.mem_of_getElem? (i := 11) rfl))) (mvT hZ (hw _ (List.mem_of_getElem? (i := 12) rfl))) (by decide) (backOf (W := 0) (rm3 l Z a0 hw [] f1 ns s0 s1 s2 p3 p4  hh29 n0 Z29 ) hZ (hw _ (List.mem_of_getElem? (i := 12) rfl)) (hw _ (List.mem_of_getElem? (i := 11) rfl)) (by decide) (by decide)) (g := (mkF m 235 #[.val (.long q0), .second, .val (.long q1), .second, .val (.int p2), .val (.int p3), .val (.int p4), .val (.int p5), .val (.int nf), .val (.int ns), .val (.int (q0.toInt32)), .val (.int (((q0.toUInt64 >>> ((32 : Int32) &&& 0x3f).toInt64.toUInt64).toInt64).toInt32)), .val (.int f0), .val (.int f1), .val (.int (q1.toInt32)), .val (.int (((q1.toUInt64 >>> ((32 : Int32) &&& 0x3f).toInt64.toUInt64).toInt64).toInt32)), .val (.int vlo), .val (.int vhi), .val (.int s0), .val (.int vt), .val (.int s1), .val (.int s2), .val (.ref bf), .val (.ref bg), .val (.int (0 : Int32)), .unset] [(.int p4), (.int p3), (.int s2), (.int s1), (.int s0), (.int ns), (.int f1)])) rfl (by rw [hml]; rfl) (argsL := [(.int f1), (.int ns), (.int s0), (.int s1), (.int s2), (.int p3), (.int p4)]) (rest := []) (lenOf pd_2 rfl) rfl (by show 2 * 0 + _ ≤ _; exact Nat.le_of_eq rfl) (hb hby at_235) (fun _ _ => ⟨rfl, e29, (by decide : 2 + 0 ≤ _), (by decide : 5 + 0 ≤ _)⟩)
        dsimp only [Pt.U, Pt.locs, Pt.cells, Pt.slots] at X77 l77 y77 z77 st77 hQ77
        subst l77 y77 z77
        obtain ⟨rfl, Nq77, e77⟩ := hQ77
        have N77 := Fr.app N29 Nq77
        have pre79 : ∀ t, Steps p.tables e below (T77.setTop (mkF m 238 #[.val (.long q0), .second, .val (.long q1), .second, .val (.int p2), .val (.int p3), .val (.int p4), .val (.int p5), .val (.int nf), .val (.int ns), .val (.int (q0.toInt32)), .val (.int (((q0.toUInt64 >>> ((32 : Int32) &&& 0x3f).toInt64.toUInt64).toInt64).toInt32)), .val (.int f0), .val (.int f1), .val (.int (q1.toInt32)), .val (.int (((q1.toUInt64 >>> ((32 : Int32) &&& 0x3f).toInt64.toUInt64).toInt64).toInt32)), .val (.int vlo), .val (.int vhi), .val (.int s0), .val (.int vt), .val (.int s1), .val (.int s2), .val (.ref bf), .val (.ref bg), .val (.int (0 : Int32)), .unset] [(.int (bI ((1 ≤ ns.toInt ∧ f1.toInt + p3.toInt ≤ s0.toInt ∧ s0.toInt ≤ f1.toInt + p3.toInt + p4.toInt) ∨ (2 ≤ ns.toInt ∧ f1.toInt + p3.toInt ≤ s1.toInt ∧ s1.toInt ≤ f1.toInt + p3.toInt + p4.toInt) ∨ (3 ≤ ns.toInt ∧ f1.toInt + p3.toInt ≤ s2.toInt ∧ s2.toInt ≤ f1.toInt + p3.toInt + p4.toInt))))])) t → Steps p.tables e below (s₁.setTop (mkF m 0 #[.val (.long q0), .second, .val (.long q1), .second, .val (.int p2), .val (.int p3), .val (.int p4), .val (.int p5), .unset, .unset, .unset, .unset, .unset, .unset, .unset, .unset, .unset, .unset, .unset, .unset, .unset, .unset, .unset, .unset, .unset, .unset] [])) t := fun t k => pre76 t (by
          show Steps p.tables e below (T29.setTop (mkF m 218 #[.val (.long q0), .second, .val (.long q1), .second, .val (.int p2), .val (.int p3), .val (.int p4), .val (.int p5), .val (.int nf), .val (.int ns), .val (.int (q0.toInt32)), .val (.int (((q0.toUInt64 >>> ((32 : Int32) &&& 0x3f).toInt64.toUInt64).toInt64).toInt32)), .val (.int f0), .val (.int f1), .val (.int (q1.toInt32)), .val (.int (((q1.toUInt64 >>> ((32 : Int32) &&& 0x3f).toInt64.toUInt64).toInt64).toInt32)), .val (.int vlo), .val (.int vhi), .val (.int s0), .val (.int vt), .val (.int s1), .val (.int s2), .val (.ref bf), .val (.ref bg), .val (.int (0 : Int32)), .unset] [(.int (2 : Int32)), (.int nf)])) _
          refine XS.icmpNo X29.here hx rfl (hb hby at_218) rfl (flt hc75).1 ?_
          show Steps p.tables e below (T29.setTop (mkF m 221 #[.val (.long q0), .second, .val (.long q1), .second, .val (.int p2), .val (.int p3), .val (.int p4), .val (.int p5), .val (.int nf), .val (.int ns), .val (.int (q0.toInt32)), .val (.int (((q0.toUInt64 >>> ((32 : Int32) &&& 0x3f).toInt64.toUInt64).toInt64).toInt32)), .val (.int f0), .val (.int f1), .val (.int (q1.toInt32)), .val (.int (((q1.toUInt64 >>> ((32 : Int32) &&& 0x3f).toInt64.toUInt64).toInt64).toInt32)), .val (.int vlo), .val (.int vhi), .val (.int s0), .val (.int vt), .val (.int s1), .val (.int s2), .val (.ref bf), .val (.ref bg), .val (.int (0 : Int32)), .unset] [])) _
          refine XS.iload X29.here hx rfl (hb hby at_221) rfl ?_
          show Steps p.tables e below (T29.setTop (mkF m 223 #[.val (.long q0), .second, .val (.long q1), .second, .val (.int p2), .val (.int p3), .val (.int p4), .val (.int p5), .val (.int nf), .val (.int ns), .val (.int (q0.toInt32)), .val (.int (((q0.toUInt64 >>> ((32 : Int32) &&& 0x3f).toInt64.toUInt64).toInt64).toInt32)), .val (.int f0), .val (.int f1), .val (.int (q1.toInt32)), .val (.int (((q1.toUInt64 >>> ((32 : Int32) &&& 0x3f).toInt64.toUInt64).toInt64).toInt32)), .val (.int vlo), .val (.int vhi), .val (.int s0), .val (.int vt), .val (.int s1), .val (.int s2), .val (.ref bf), .val (.ref bg), .val (.int (0 : Int32)), .unset] [(.int f1)])) _
          refine XS.iload X29.here hx rfl (hb hby at_223) rfl ?_
          show Steps p.tables e below (T29.setTop (mkF m 225 #[.val (.long q0), .second, .val (.long q1), .second, .val (.int p2), .val (.int p3), .val (.int p4), .val (.int p5), .val (.int nf), .val (.int ns), .val (.int (q0.toInt32)), .val (.int (((q0.toUInt64 >>> ((32 : Int32) &&& 0x3f).toInt64.toUInt64).toInt64).toInt32)), .val (.int f0), .val (.int f1), .val (.int (q1.toInt32)), .val (.int (((q1.toUInt64 >>> ((32 : Int32) &&& 0x3f).toInt64.toUInt64).toInt64).toInt32)), .val (.int vlo), .val (.int vhi), .val (.int s0), .val (.int vt), .val (.int s1), .val (.int s2), .val (.ref bf), .val (.ref bg), .val (.int (0 : Int32)), .unset] [(.int ns), (.int f1)])) _
          refine XS.iload X29.here hx rfl (hb hby at_225) rfl ?_
          show Steps p.tables e below (T29.setTop (mkF m 227 #[.val (.long q0), .second, .val (.long q1), .second, .val (.int p2), .val (.int p3), .val (.int p4), .val (.int p5), .val (.int nf), .val (.int ns), .val (.int (q0.toInt32)), .val (.int (((q0.toUInt64 >>> ((32 : Int32) &&& 0x3f).toInt64.toUInt64).toInt64).toInt32)), .val (.int f0), .val (.int f1), .val (.int (q1.toInt32)), .val (.int (((q1.toUInt64 >>> ((32 : Int32) &&& 0x3f).toInt64.toUInt64).toInt64).toInt32)), .val (.int vlo), .val (.int vhi), .val (.int s0), .val (.int vt), .val (.int s1), .val (.int s2), .val (.ref bf), .val (.ref bg), .val (.int (0 : Int32)), .unset] [(.int s0), (.int ns), (.int f1)])) _
          refine XS.iload X29.here hx rfl (hb hby at_227) rfl ?_
          show Steps p.tables e below (T29.setTop (mkF m 229 #[.val (.long q0), .second, .val (.long q1), .second, .val (.int p2), .val (.int p3), .val (.int p4), .val (.int p5), .val (.int nf), .val (.int ns), .val (.int (q0.toInt32)), .val (.int (((q0.toUInt64 >>> ((32 : Int32) &&& 0x3f).toInt64.toUInt64).toInt64).toInt32)), .val (.int f0), .val (.int f1), .val (.int (q1.toInt32)), .val (.int (((q1.toUInt64 >>> ((32 : Int32) &&& 0x3f).toInt64.toUInt64).toInt64).toInt32)), .val (.int vlo), .val (.int vhi), .val (.int s0), .val (.int vt), .val (.int s1), .val (.int s2), .val (.ref bf), .val (.ref bg), .val (.int (0 : Int32)), .unset] [(.int s1), (.int s0), (.int ns), (.int f1)])) _
          refine XS.iload X29.here hx rfl (hb hby at_229) rfl ?_
          show Steps p.tables e below (T29.setTop (mkF m 231 #[.val (.long q0), .second, .val (.long q1), .second, .val (.int p2), .val (.int p3), .val (.int p4), .val (.int p5), .val (.int nf), .val (.int ns), .val (.int (q0.toInt32)), .val (.int (((q0.toUInt64 >>> ((32 : Int32) &&& 0x3f).toInt64.toUInt64).toInt64).toInt32)), .val (.int f0), .val (.int f1), .val (.int (q1.toInt32)), .val (.int (((q1.toUInt64 >>> ((32 : Int32) &&& 0x3f).toInt64.toUInt64).toInt64).toInt32)), .val (.int vlo), .val (.int vhi), .val (.int s0), .val (.int vt), .val (.int s1), .val (.int s2), .val (.ref bf), .val (.ref bg), .val (.int (0 : Int32)), .unset] [(.int s2), (.int s1), (.int s0), (.int ns), (.int f1)])) _
          refine XS.iload X29.here hx rfl (hb hby at_231) rfl ?_
          show Steps p.tables e below (T29.setTop (mkF m 233 #[.val (.long q0), .second, .val (.long q1), .second, .val (.int p2), .val (.int p3), .val (.int p4), .val (.int p5), .val (.int nf), .val (.int ns), .val (.int (q0.toInt32)), .val (.int (((q0.toUInt64 >>> ((32 : Int32) &&& 0x3f).toInt64.toUInt64).toInt64).toInt32)), .val (.int f0), .val (.int f1), .val (.int (q1.toInt32)), .val (.int (((q1.toUInt64 >>> ((32 : Int32) &&& 0x3f).toInt64.toUInt64).toInt64).toInt32)), .val (.int vlo), .val (.int vhi), .val (.int s0), .val (.int vt), .val (.int s1), .val (.int s2), .val (.ref bf), .val (.ref bg), .val (.int (0 : Int32)), .unset] [(.int p3), (.int s2), (.int s1), (.int s0), (.int ns), (.int f1)])) _
          refine XS.iload X29.here hx rfl (hb hby at_233) rfl ?_
          show Steps p.tables e below (T29.setTop (mkF m 235 #[.val (.long q0), .second, .val (.long q1), .second, .val (.int p2), .val (.int p3), .val (.int p4), .val (.int p5), .val (.int nf), .val (.int ns), .val (.int (q0.toInt32)), .val (.int (((q0.toUInt64 >>> ((32 : Int32) &&& 0x3f).toInt64.toUInt64).toInt64).toInt32)), .val (.int f0), .val (.int f1), .val (.int (q1.toInt32)), .val (.int (((q1.toUInt64 >>> ((32 : Int32) &&& 0x3f).toInt64.toUInt64).toInt64).toInt32)), .val (.int vlo), .val (.int vhi), .val (.int s0), .val (.int vt), .val (.int s1), .val (.int s2), .val (.ref bf), .val (.ref bg), .val (.int (0 : Int32)), .unset] [(.int p4), (.int p3), (.int s2), (.int s1), (.int s0), (.int ns), (.int f1)])) _
          refine st77 _ ?_
          exact k)
        by_cases hc78 : (bI ((1 ≤ ns.toInt ∧ f1.toInt + p3.toInt ≤ s0.toInt ∧ s0.toInt ≤ f1.toInt + p3.toInt + p4.toInt) ∨ (2 ≤ ns.toInt ∧ f1.toInt + p3.toInt ≤ s1.toInt ∧ s1.toInt ≤ f1.toInt + p3.toInt + p4.toInt) ∨ (3 ≤ ns.toInt ∧ f1.toInt + p3.toInt ≤ s2.toInt ∧ s2.toInt ≤ f1.toInt + p3.toInt + p4.toInt))) = (0 : Int32)
        · skip
          have ohc78 : (bI ((1 ≤ ns.toInt ∧ f1.toInt + p3.toInt ≤ s0.toInt ∧ s0.toInt ≤ f1.toInt + p3.toInt + p4.toInt) ∨ (2 ≤ ns.toInt ∧ f1.toInt + p3.toInt ≤ s1.toInt ∧ s1.toInt ≤ f1.toInt + p3.toInt + p4.toInt) ∨ (3 ≤ ns.toInt ∧ f1.toInt + p3.toInt ≤ s2.toInt ∧ s2.toInt ≤ f1.toInt + p3.toInt + p4.toInt))).toInt = 0 := own_eq.mp hc78
          refine ⟨(0 : Int32), T77, _, ?_, X77, e77, N77, fun t k => pre79 t ?_⟩
          · exact own_c0 (fun q => q.elim (fun q => by have r := q.1; clear q; omega) (fun q => own_z ohc78 q.2))
          · skip
            show Steps p.tables e below (T77.setTop (mkF m 238 #[.val (.long q0), .second, .val (.long q1), .second, .val (.int p2), .val (.int p3), .val (.int p4), .val (.int p5), .val (.int nf), .val (.int ns), .val (.int (q0.toInt32)), .val (.int (((q0.toUInt64 >>> ((32 : Int32) &&& 0x3f).toInt64.toUInt64).toInt64).toInt32)), .val (.int f0), .val (.int f1), .val (.int (q1.toInt32)), .val (.int (((q1.toUInt64 >>> ((32 : Int32) &&& 0x3f).toInt64.toUInt64).toInt64).toInt32)), .val (.int vlo), .val (.int vhi), .val (.int s0), .val (.int vt), .val (.int s1), .val (.int s2), .val (.ref bf), .val (.ref bg), .val (.int (0 : Int32)), .unset] [(.int (bI ((1 ≤ ns.toInt ∧ f1.toInt + p3.toInt ≤ s0.toInt ∧ s0.toInt ≤ f1.toInt + p3.toInt + p4.toInt) ∨ (2 ≤ ns.toInt ∧ f1.toInt + p3.toInt ≤ s1.toInt ∧ s1.toInt ≤ f1.toInt + p3.toInt + p4.toInt) ∨ (3 ≤ ns.toInt ∧ f1.toInt + p3.toInt ≤ s2.toInt ∧ s2.toInt ≤ f1.toInt + p3.toInt + p4.toInt))))])) _
            refine XS.ifYes X77.here hx rfl (pc0 := 238) (pc' := 244) rfl (hb hby at_238) rfl ((if0 _ _).trans (teq hc78).1) (by decide) (by decide) ?_
            exact k
        · skip
          have ohc78 : ¬ ((bI ((1 ≤ ns.toInt ∧ f1.toInt + p3.toInt ≤ s0.toInt ∧ s0.toInt ≤ f1.toInt + p3.toInt + p4.toInt) ∨ (2 ≤ ns.toInt ∧ f1.toInt + p3.toInt ≤ s1.toInt ∧ s1.toInt ≤ f1.toInt + p3.toInt + p4.toInt) ∨ (3 ≤ ns.toInt ∧ f1.toInt + p3.toInt ≤ s2.toInt ∧ s2.toInt ≤ f1.toInt + p3.toInt + p4.toInt))).toInt = 0) := own_neq.mp hc78
          refine ⟨(1 : Int32), T77, _, ?_, X77, e77, N77, fun t k => pre79 t ?_⟩
          · exact own_c1 (Or.inr ⟨by omega, own_o ohc78⟩)
          · skip
            show Steps p.tables e below (T77.setTop (mkF m 238 #[.val (.long q0), .second, .val (.long q1), .second, .val (.int p2), .val (.int p3), .val (.int p4), .val (.int p5), .val (.int nf), .val (.int ns), .val (.int (q0.toInt32)), .val (.int (((q0.toUInt64 >>> ((32 : Int32) &&& 0x3f).toInt64.toUInt64).toInt64).toInt32)), .val (.int f0), .val (.int f1), .val (.int (q1.toInt32)), .val (.int (((q1.toUInt64 >>> ((32 : Int32) &&& 0x3f).toInt64.toUInt64).toInt64).toInt32)), .val (.int vlo), .val (.int vhi), .val (.int s0), .val (.int vt), .val (.int s1), .val (.int s2), .val (.ref bf), .val (.ref bg), .val (.int (0 : Int32)), .unset] [(.int (bI ((1 ≤ ns.toInt ∧ f1.toInt + p3.toInt ≤ s0.toInt ∧ s0.toInt ≤ f1.toInt + p3.toInt + p4.toInt) ∨ (2 ≤ ns.toInt ∧ f1.toInt + p3.toInt ≤ s1.toInt ∧ s1.toInt ≤ f1.toInt + p3.toInt + p4.toInt) ∨ (3 ≤ ns.toInt ∧ f1.toInt + p3.toInt ≤ s2.toInt ∧ s2.toInt ≤ f1.toInt + p3.toInt + p4.toInt))))])) _
            refine XS.ifNo X77.here hx rfl (hb hby at_238) rfl ((if0 _ _).trans (feq hc78).1) ?_
            show Steps p.tables e below (T77.setTop (mkF m 241 #[.val (.long q0), .second, .val (.long q1), .second, .val (.int p2), .val (.int p3), .val (.int p4), .val (.int p5), .val (.int nf), .val (.int ns), .val (.int (q0.toInt32)), .val (.int (((q0.toUInt64 >>> ((32 : Int32) &&& 0x3f).toInt64.toUInt64).toInt64).toInt32)), .val (.int f0), .val (.int f1), .val (.int (q1.toInt32)), .val (.int (((q1.toUInt64 >>> ((32 : Int32) &&& 0x3f).toInt64.toUInt64).toInt64).toInt32)), .val (.int vlo), .val (.int vhi), .val (.int s0), .val (.int vt), .val (.int s1), .val (.int s2), .val (.ref bf), .val (.ref bg), .val (.int (0 : Int32)), .unset] [])) _
            refine XS.iconst X77.here hx rfl (hb hby at_241) ?_
            show Steps p.tables e below (T77.setTop (mkF m 242 #[.val (.long q0), .second, .val (.long q1), .second, .val (.int p2), .val (.int p3), .val (.int p4), .val (.int p5), .val (.int nf), .val (.int ns), .val (.int (q0.toInt32)), .val (.int (((q0.toUInt64 >>> ((32 : Int32) &&& 0x3f).toInt64.toUInt64).toInt64).toInt32)), .val (.int f0), .val (.int f1), .val (.int (q1.toInt32)), .val (.int (((q1.toUInt64 >>> ((32 : Int32) &&& 0x3f).toInt64.toUInt64).toInt64).toInt32)), .val (.int vlo), .val (.int vhi), .val (.int s0), .val (.int vt), .val (.int s1), .val (.int s2), .val (.ref bf), .val (.ref bg), .val (.int (0 : Int32)), .unset] [(.int (1 : Int32))])) _
            refine XS.istore X77.here hx rfl (hb hby at_242) rfl (l' := #[.val (.long q0), .second, .val (.long q1), .second, .val (.int p2), .val (.int p3), .val (.int p4), .val (.int p5), .val (.int nf), .val (.int ns), .val (.int (q0.toInt32)), .val (.int (((q0.toUInt64 >>> ((32 : Int32) &&& 0x3f).toInt64.toUInt64).toInt64).toInt32)), .val (.int f0), .val (.int f1), .val (.int (q1.toInt32)), .val (.int (((q1.toUInt64 >>> ((32 : Int32) &&& 0x3f).toInt64.toUInt64).toInt64).toInt32)), .val (.int vlo), .val (.int vhi), .val (.int s0), .val (.int vt), .val (.int s1), .val (.int s2), .val (.ref bf), .val (.ref bg), .val (.int (1 : Int32)), .unset]) rfl ?_
            exact k
    · skip
      have ohc73 : 1 ≤ nf.toInt := own_nlt.mp hc73
      obtain ⟨_, _, ⟨T80, L80, k80, n80⟩, -, X80, ⟨Lc80, hQ80, l80, y80, z80⟩, st80⟩ := Jvm.LawKit.callS X29 hx (y := (⟨"com/example/cranfield/cranfield/search/OccurrencesFollowedWithinPinLaw", "row", "(IIIIIII)Z"⟩ : MethodName)) hown (mvT hZ (hw _ (List.mem_of_getElem? (i := 9) rfl))) (mvT hZ (hw _ (List.mem_of_getElem? (i := 10) rfl))) (mvT hZ (hw _ (List.mem_of_getElem? (i := 11) rfl))) (mvT hZ (hw _ (List.mem_of_getElem? (i := 12) rfl))) (by decide) (backOf (W := 0) (rm3 l Z a0 hw [] f0 ns s0 s1 s2 p3 p4  hh29 n0 Z29 ) hZ (hw _ (List.mem_of_getElem? (i := 12) rfl)) (hw _ (List.mem_of_getElem? (i := 11) rfl)) (by decide) (by decide)) (g := (mkF m 206 #[.val (.long q0), .second, .val (.long q1), .second, .val (.int p2), .val (.int p3), .val (.int p4), .val (.int p5), .val (.int nf), .val (.int ns), .val (.int (q0.toInt32)), .val (.int (((q0.toUInt64 >>> ((32 : Int32) &&& 0x3f).toInt64.toUInt64).toInt64).toInt32)), .val (.int f0), .val (.int f1), .val (.int (q1.toInt32)), .val (.int (((q1.toUInt64 >>> ((32 : Int32) &&& 0x3f).toInt64.toUInt64).toInt64).toInt32)), .val (.int vlo), .val (.int vhi), .val (.int s0), .val (.int vt), .val (.int s1), .val (.int s2), .val (.ref bf), .val (.ref bg), .val (.int (0 : Int32)), .unset] [(.int p4), (.int p3), (.int s2), (.int s1), (.int s0), (.int ns), (.int f0)])) rfl (by rw [hml]; rfl) (argsL := [(.int f0), (.int ns), (.int s0), (.int s1), (.int s2), (.int p3), (.int p4)]) (rest := []) (lenOf pd_2 rfl) rfl (by show 2 * 0 + _ ≤ _; exact Nat.le_of_eq rfl) (hb hby at_206) (fun _ _ => ⟨rfl, e29, (by decide : 2 + 0 ≤ _), (by decide : 5 + 0 ≤ _)⟩)
      dsimp only [Pt.U, Pt.locs, Pt.cells, Pt.slots] at X80 l80 y80 z80 st80 hQ80
      subst l80 y80 z80
      obtain ⟨rfl, Nq80, e80⟩ := hQ80
      have N80 := Fr.app N29 Nq80
      have pre82 : ∀ t, Steps p.tables e below (T80.setTop (mkF m 209 #[.val (.long q0), .second, .val (.long q1), .second, .val (.int p2), .val (.int p3), .val (.int p4), .val (.int p5), .val (.int nf), .val (.int ns), .val (.int (q0.toInt32)), .val (.int (((q0.toUInt64 >>> ((32 : Int32) &&& 0x3f).toInt64.toUInt64).toInt64).toInt32)), .val (.int f0), .val (.int f1), .val (.int (q1.toInt32)), .val (.int (((q1.toUInt64 >>> ((32 : Int32) &&& 0x3f).toInt64.toUInt64).toInt64).toInt32)), .val (.int vlo), .val (.int vhi), .val (.int s0), .val (.int vt), .val (.int s1), .val (.int s2), .val (.ref bf), .val (.ref bg), .val (.int (0 : Int32)), .unset] [(.int (bI ((1 ≤ ns.toInt ∧ f0.toInt + p3.toInt ≤ s0.toInt ∧ s0.toInt ≤ f0.toInt + p3.toInt + p4.toInt) ∨ (2 ≤ ns.toInt ∧ f0.toInt + p3.toInt ≤ s1.toInt ∧ s1.toInt ≤ f0.toInt + p3.toInt + p4.toInt) ∨ (3 ≤ ns.toInt ∧ f0.toInt + p3.toInt ≤ s2.toInt ∧ s2.toInt ≤ f0.toInt + p3.toInt + p4.toInt))))])) t → Steps p.tables e below (s₁.setTop (mkF m 0 #[.val (.long q0), .second, .val (.long q1), .second, .val (.int p2), .val (.int p3), .val (.int p4), .val (.int p5), .unset, .unset, .unset, .unset, .unset, .unset, .unset, .unset, .unset, .unset, .unset, .unset, .unset, .unset, .unset, .unset, .unset, .unset] [])) t := fun t k => pre74 t (by
        show Steps p.tables e below (T29.setTop (mkF m 189 #[.val (.long q0), .second, .val (.long q1), .second, .val (.int p2), .val (.int p3), .val (.int p4), .val (.int p5), .val (.int nf), .val (.int ns), .val (.int (q0.toInt32)), .val (.int (((q0.toUInt64 >>> ((32 : Int32) &&& 0x3f).toInt64.toUInt64).toInt64).toInt32)), .val (.int f0), .val (.int f1), .val (.int (q1.toInt32)), .val (.int (((q1.toUInt64 >>> ((32 : Int32) &&& 0x3f).toInt64.toUInt64).toInt64).toInt32)), .val (.int vlo), .val (.int vhi), .val (.int s0), .val (.int vt), .val (.int s1), .val (.int s2), .val (.ref bf), .val (.ref bg), .val (.int (0 : Int32)), .unset] [(.int (1 : Int32)), (.int nf)])) _
        refine XS.icmpNo X29.here hx rfl (hb hby at_189) rfl (flt hc73).1 ?_
        show Steps p.tables e below (T29.setTop (mkF m 192 #[.val (.long q0), .second, .val (.long q1), .second, .val (.int p2), .val (.int p3), .val (.int p4), .val (.int p5), .val (.int nf), .val (.int ns), .val (.int (q0.toInt32)), .val (.int (((q0.toUInt64 >>> ((32 : Int32) &&& 0x3f).toInt64.toUInt64).toInt64).toInt32)), .val (.int f0), .val (.int f1), .val (.int (q1.toInt32)), .val (.int (((q1.toUInt64 >>> ((32 : Int32) &&& 0x3f).toInt64.toUInt64).toInt64).toInt32)), .val (.int vlo), .val (.int vhi), .val (.int s0), .val (.int vt), .val (.int s1), .val (.int s2), .val (.ref bf), .val (.ref bg), .val (.int (0 : Int32)), .unset] [])) _
        refine XS.iload X29.here hx rfl (hb hby at_192) rfl ?_
        show Steps p.tables e below (T29.setTop (mkF m 194 #[.val (.long q0), .second, .val (.long q1), .second, .val (.int p2), .val (.int p3), .val (.int p4), .val (.int p5), .val (.int nf), .val (.int ns), .val (.int (q0.toInt32)), .val (.int (((q0.toUInt64 >>> ((32 : Int32) &&& 0x3f).toInt64.toUInt64).toInt64).toInt32)), .val (.int f0), .val (.int f1), .val (.int (q1.toInt32)), .val (.int (((q1.toUInt64 >>> ((32 : Int32) &&& 0x3f).toInt64.toUInt64).toInt64).toInt32)), .val (.int vlo), .val (.int vhi), .val (.int s0), .val (.int vt), .val (.int s1), .val (.int s2), .val (.ref bf), .val (.ref bg), .val (.int (0 : Int32)), .unset] [(.int f0)])) _
        refine XS.iload X29.here hx rfl (hb hby at_194) rfl ?_
        show Steps p.tables e below (T29.setTop (mkF m 196 #[.val (.long q0), .second, .val (.long q1), .second, .val (.int p2), .val (.int p3), .val (.int p4), .val (.int p5), .val (.int nf), .val (.int ns), .val (.int (q0.toInt32)), .val (.int (((q0.toUInt64 >>> ((32 : Int32) &&& 0x3f).toInt64.toUInt64).toInt64).toInt32)), .val (.int f0), .val (.int f1), .val (.int (q1.toInt32)), .val (.int (((q1.toUInt64 >>> ((32 : Int32) &&& 0x3f).toInt64.toUInt64).toInt64).toInt32)), .val (.int vlo), .val (.int vhi), .val (.int s0), .val (.int vt), .val (.int s1), .val (.int s2), .val (.ref bf), .val (.ref bg), .val (.int (0 : Int32)), .unset] [(.int ns), (.int f0)])) _
        refine XS.iload X29.here hx rfl (hb hby at_196) rfl ?_
        show Steps p.tables e below (T29.setTop (mkF m 198 #[.val (.long q0), .second, .val (.long q1), .second, .val (.int p2), .val (.int p3), .val (.int p4), .val (.int p5), .val (.int nf), .val (.int ns), .val (.int (q0.toInt32)), .val (.int (((q0.toUInt64 >>> ((32 : Int32) &&& 0x3f).toInt64.toUInt64).toInt64).toInt32)), .val (.int f0), .val (.int f1), .val (.int (q1.toInt32)), .val (.int (((q1.toUInt64 >>> ((32 : Int32) &&& 0x3f).toInt64.toUInt64).toInt64).toInt32)), .val (.int vlo), .val (.int vhi), .val (.int s0), .val (.int vt), .val (.int s1), .val (.int s2), .val (.ref bf), .val (.ref bg), .val (.int (0 : Int32)), .unset] [(.int s0), (.int ns), (.int f0)])) _
        refine XS.iload X29.here hx rfl (hb hby at_198) rfl ?_
        show Steps p.tables e below (T29.setTop (mkF m 200 #[.val (.long q0), .second, .val (.long q1), .second, .val (.int p2), .val (.int p3), .val (.int p4), .val (.int p5), .val (.int nf), .val (.int ns), .val (.int (q0.toInt32)), .val (.int (((q0.toUInt64 >>> ((32 : Int32) &&& 0x3f).toInt64.toUInt64).toInt64).toInt32)), .val (.int f0), .val (.int f1), .val (.int (q1.toInt32)), .val (.int (((q1.toUInt64 >>> ((32 : Int32) &&& 0x3f).toInt64.toUInt64).toInt64).toInt32)), .val (.int vlo), .val (.int vhi), .val (.int s0), .val (.int vt), .val (.int s1), .val (.int s2), .val (.ref bf), .val (.ref bg), .val (.int (0 : Int32)), .unset] [(.int s1), (.int s0), (.int ns), (.int f0)])) _
        refine XS.iload X29.here hx rfl (hb hby at_200) rfl ?_
        show Steps p.tables e below (T29.setTop (mkF m 202 #[.val (.long q0), .second, .val (.long q1), .second, .val (.int p2), .val (.int p3), .val (.int p4), .val (.int p5), .val (.int nf), .val (.int ns), .val (.int (q0.toInt32)), .val (.int (((q0.toUInt64 >>> ((32 : Int32) &&& 0x3f).toInt64.toUInt64).toInt64).toInt32)), .val (.int f0), .val (.int f1), .val (.int (q1.toInt32)), .val (.int (((q1.toUInt64 >>> ((32 : Int32) &&& 0x3f).toInt64.toUInt64).toInt64).toInt32)), .val (.int vlo), .val (.int vhi), .val (.int s0), .val (.int vt), .val (.int s1), .val (.int s2), .val (.ref bf), .val (.ref bg), .val (.int (0 : Int32)), .unset] [(.int s2), (.int s1), (.int s0), (.int ns), (.int f0)])) _
        refine XS.iload X29.here hx rfl (hb hby at_202) rfl ?_
        show Steps p.tables e below (T29.setTop (mkF m 204 #[.val (.long q0), .second, .val (.long q1), .second, .val (.int p2), .val (.int p3), .val (.int p4), .val (.int p5), .val (.int nf), .val (.int ns), .val (.int (q0.toInt32)), .val (.int (((q0.toUInt64 >>> ((32 : Int32) &&& 0x3f).toInt64.toUInt64).toInt64).toInt32)), .val (.int f0), .val (.int f1), .val (.int (q1.toInt32)), .val (.int (((q1.toUInt64 >>> ((32 : Int32) &&& 0x3f).toInt64.toUInt64).toInt64).toInt32)), .val (.int vlo), .val (.int vhi), .val (.int s0), .val (.int vt), .val (.int s1), .val (.int s2), .val (.ref bf), .val (.ref bg), .val (.int (0 : Int32)), .unset] [(.int p3), (.int s2), (.int s1), (.int s0), (.int ns), (.int f0)])) _
        refine XS.iload X29.here hx rfl (hb hby at_204) rfl ?_
        show Steps p.tables e below (T29.setTop (mkF m 206 #[.val (.long q0), .second, .val (.long q1), .second, .val (.int p2), .val (.int p3), .val (.int p4), .val (.int p5), .val (.int nf), .val (.int ns), .val (.int (q0.toInt32)), .val (.int (((q0.toUInt64 >>> ((32 : Int32) &&& 0x3f).toInt64.toUInt64).toInt64).toInt32)), .val (.int f0), .val (.int f1), .val (.int (q1.toInt32)), .val (.int (((q1.toUInt64 >>> ((32 : Int32) &&& 0x3f).toInt64.toUInt64).toInt64).toInt32)), .val (.int vlo), .val (.int vhi), .val (.int s0), .val (.int vt), .val (.int s1), .val (.int s2), .val (.ref bf), .val (.ref bg), .val (.int (0 : Int32)), .unset] [(.int p4), (.int p3), (.int s2), (.int s1), (.int s0), (.int ns), (.int f0)])) _
        refine st80 _ ?_
        exact k)
      by_cases hc81 : (bI ((1 ≤ ns.toInt ∧ f0.toInt + p3.toInt ≤ s0.toInt ∧ s0.toInt ≤ f0.toInt + p3.toInt + p4.toInt) ∨ (2 ≤ ns.toInt ∧ f0.toInt + p3.toInt ≤ s1.toInt ∧ s1.toInt ≤ f0.toInt + p3.toInt + p4.toInt) ∨ (3 ≤ ns.toInt ∧ f0.toInt + p3.toInt ≤ s2.toInt ∧ s2.toInt ≤ f0.toInt + p3.toInt + p4.toInt))) = (0 : Int32)
      · skip
        have ohc81 : (bI ((1 ≤ ns.toInt ∧ f0.toInt + p3.toInt ≤ s0.toInt ∧ s0.toInt ≤ f0.toInt + p3.toInt + p4.toInt) ∨ (2 ≤ ns.toInt ∧ f0.toInt + p3.toInt ≤ s1.toInt ∧ s1.toInt ≤ f0.toInt + p3.toInt + p4.toInt) ∨ (3 ≤ ns.toInt ∧ f0.toInt + p3.toInt ≤ s2.toInt ∧ s2.toInt ≤ f0.toInt + p3.toInt + p4.toInt))).toInt = 0 := own_eq.mp hc81
        have pre84 : ∀ t, Steps p.tables e below (T80.setTop (mkF m 218 #[.val (.long q0), .second, .val (.long q1), .second, .val (.int p2), .val (.int p3), .val (.int p4), .val (.int p5), .val (.int nf), .val (.int ns), .val (.int (q0.toInt32)), .val (.int (((q0.toUInt64 >>> ((32 : Int32) &&& 0x3f).toInt64.toUInt64).toInt64).toInt32)), .val (.int f0), .val (.int f1), .val (.int (q1.toInt32)), .val (.int (((q1.toUInt64 >>> ((32 : Int32) &&& 0x3f).toInt64.toUInt64).toInt64).toInt32)), .val (.int vlo), .val (.int vhi), .val (.int s0), .val (.int vt), .val (.int s1), .val (.int s2), .val (.ref bf), .val (.ref bg), .val (.int (0 : Int32)), .unset] [(.int (2 : Int32)), (.int nf)])) t → Steps p.tables e below (s₁.setTop (mkF m 0 #[.val (.long q0), .second, .val (.long q1), .second, .val (.int p2), .val (.int p3), .val (.int p4), .val (.int p5), .unset, .unset, .unset, .unset, .unset, .unset, .unset, .unset, .unset, .unset, .unset, .unset, .unset, .unset, .unset, .unset, .unset, .unset] [])) t := fun t k => pre82 t (by
          show Steps p.tables e below (T80.setTop (mkF m 209 #[.val (.long q0), .second, .val (.long q1), .second, .val (.int p2), .val (.int p3), .val (.int p4), .val (.int p5), .val (.int nf), .val (.int ns), .val (.int (q0.toInt32)), .val (.int (((q0.toUInt64 >>> ((32 : Int32) &&& 0x3f).toInt64.toUInt64).toInt64).toInt32)), .val (.int f0), .val (.int f1), .val (.int (q1.toInt32)), .val (.int (((q1.toUInt64 >>> ((32 : Int32) &&& 0x3f).toInt64.toUInt64).toInt64).toInt32)), .val (.int vlo), .val (.int vhi), .val (.int s0), .val (.int vt), .val (.int s1), .val (.int s2), .val (.ref bf), .val (.ref bg), .val (.int (0 : Int32)), .unset] [(.int (bI ((1 ≤ ns.toInt ∧ f0.toInt + p3.toInt ≤ s0.toInt ∧ s0.toInt ≤ f0.toInt + p3.toInt + p4.toInt) ∨ (2 ≤ ns.toInt ∧ f0.toInt + p3.toInt ≤ s1.toInt ∧ s1.toInt ≤ f0.toInt + p3.toInt + p4.toInt) ∨ (3 ≤ ns.toInt ∧ f0.toInt + p3.toInt ≤ s2.toInt ∧ s2.toInt ≤ f0.toInt + p3.toInt + p4.toInt))))])) _
          refine XS.ifYes X80.here hx rfl (pc0 := 209) (pc' := 215) rfl (hb hby at_209) rfl ((if0 _ _).trans (teq hc81).1) (by decide) (by decide) ?_
          show Steps p.tables e below (T80.setTop (mkF m 215 #[.val (.long q0), .second, .val (.long q1), .second, .val (.int p2), .val (.int p3), .val (.int p4), .val (.int p5), .val (.int nf), .val (.int ns), .val (.int (q0.toInt32)), .val (.int (((q0.toUInt64 >>> ((32 : Int32) &&& 0x3f).toInt64.toUInt64).toInt64).toInt32)), .val (.int f0), .val (.int f1), .val (.int (q1.toInt32)), .val (.int (((q1.toUInt64 >>> ((32 : Int32) &&& 0x3f).toInt64.toUInt64).toInt64).toInt32)), .val (.int vlo), .val (.int vhi), .val (.int s0), .val (.int vt), .val (.int s1), .val (.int s2), .val (.ref bf), .val (.ref bg), .val (.int (0 : Int32)), .unset] [])) _
          refine XS.iload X80.here hx rfl (hb hby at_215) rfl ?_
          show Steps p.tables e below (T80.setTop (mkF m 217 #[.val (.long q0), .second, .val (.long q1), .second, .val (.int p2), .val (.int p3), .val (.int p4), .val (.int p5), .val (.int nf), .val (.int ns), .val (.int (q0.toInt32)), .val (.int (((q0.toUInt64 >>> ((32 : Int32) &&& 0x3f).toInt64.toUInt64).toInt64).toInt32)), .val (.int f0), .val (.int f1), .val (.int (q1.toInt32)), .val (.int (((q1.toUInt64 >>> ((32 : Int32) &&& 0x3f).toInt64.toUInt64).toInt64).toInt32)), .val (.int vlo), .val (.int vhi), .val (.int s0), .val (.int vt), .val (.int s1), .val (.int s2), .val (.ref bf), .val (.ref bg), .val (.int (0 : Int32)), .unset] [(.int nf)])) _
          refine XS.iconst X80.here hx rfl (hb hby at_217) ?_
          exact k)
        by_cases hc83 : nf < (2 : Int32)
        · skip
          have ohc83 : nf.toInt < 2 := own_lt.mp hc83
          refine ⟨(0 : Int32), T80, _, ?_, X80, e80, N80, fun t k => pre84 t ?_⟩
          · exact own_c0 (fun q => q.elim (fun q => own_z ohc81 q.2) (fun q => by have r := q.1; clear q; omega))
          · skip
            show Steps p.tables e below (T80.setTop (mkF m 218 #[.val (.long q0), .second, .val (.long q1), .second, .val (.int p2), .val (.int p3), .val (.int p4), .val (.int p5), .val (.int nf), .val (.int ns), .val (.int (q0.toInt32)), .val (.int (((q0.toUInt64 >>> ((32 : Int32) &&& 0x3f).toInt64.toUInt64).toInt64).toInt32)), .val (.int f0), .val (.int f1), .val (.int (q1.toInt32)), .val (.int (((q1.toUInt64 >>> ((32 : Int32) &&& 0x3f).toInt64.toUInt64).toInt64).toInt32)), .val (.int vlo), .val (.int vhi), .val (.int s0), .val (.int vt), .val (.int s1), .val (.int s2), .val (.ref bf), .val (.ref bg), .val (.int (0 : Int32)), .unset] [(.int (2 : Int32)), (.int nf)])) _
            refine XS.icmpYes X80.here hx rfl (pc0 := 218) (pc' := 244) rfl (hb hby at_218) rfl (tlt hc83).1 (by decide) (by decide) ?_
            exact k
        · skip
          have ohc83 : 2 ≤ nf.toInt := own_nlt.mp hc83
          obtain ⟨_, _, ⟨T85, L85, k85, n85⟩, -, X85, ⟨Lc85, hQ85, l85, y85, z85⟩, st85⟩ := Jvm.LawKit.callS X80 hx (y := (⟨"com/example/cranfield/cranfield/search/OccurrencesFollowedWithinPinLaw", "row", "(IIIIIII)Z"⟩ : MethodName)) hown (mvT hZ (hw _ (List.mem_of_getElem? (i := 9) rfl))) (mvT hZ (hw _ (List.mem_of_getElem? (i := 10) rfl))) (mvT hZ (hw _ (List.mem_of_getElem? (i := 11) rfl))) (mvT hZ (hw _ (List.mem_of_getElem? (i := 12) rfl))) (by decide) (backOf (W := 0) (rm3 l Z a0 hw [] f1 ns s0 s1 s2 p3 p4  hh29 n0 Z29 ) hZ (hw _ (List.mem_of_getElem? (i := 12) rfl)) (hw _ (List.mem_of_getElem? (i := 11) rfl)) (by decide) (by decide)) (g := (mkF m 235 #[.val (.long q0), .second, .val (.long q1), .second, .val (.int p2), .val (.int p3), .val (.int p4), .val (.int p5), .val (.int nf), .val (.int ns), .val (.int (q0.toInt32)), .val (.int (((q0.toUInt64 >>> ((32 : Int32) &&& 0x3f).toInt64.toUInt64).toInt64).toInt32)), .val (.int f0), .val (.int f1), .val (.int (q1.toInt32)), .val (.int (((q1.toUInt64 >>> ((32 : Int32) &&& 0x3f).toInt64.toUInt64).toInt64).toInt32)), .val (.int vlo), .val (.int vhi), .val (.int s0), .val (.int vt), .val (.int s1), .val (.int s2), .val (.ref bf), .val (.ref bg), .val (.int (0 : Int32)), .unset] [(.int p4), (.int p3), (.int s2), (.int s1), (.int s0), (.int ns), (.int f1)])) rfl (by rw [hml]; rfl) (argsL := [(.int f1), (.int ns), (.int s0), (.int s1), (.int s2), (.int p3), (.int p4)]) (rest := []) (lenOf pd_2 rfl) rfl (by show 2 * 0 + _ ≤ _; exact Nat.le_of_eq rfl) (hb hby at_235) (fun _ _ => ⟨rfl, e80, (by decide : 2 + 0 ≤ _), (by decide : 5 + 0 ≤ _)⟩)
          dsimp only [Pt.U, Pt.locs, Pt.cells, Pt.slots] at X85 l85 y85 z85 st85 hQ85
          subst l85 y85 z85
          obtain ⟨rfl, Nq85, e85⟩ := hQ85
          have N85 := Fr.app N80 Nq85
          have pre87 : ∀ t, Steps p.tables e below (T85.setTop (mkF m 238 #[.val (.long q0), .second, .val (.long q1), .second, .val (.int p2), .val (.int p3), .val (.int p4), .val (.int p5), .val (.int nf), .val (.int ns), .val (.int (q0.toInt32)), .val (.int (((q0.toUInt64 >>> ((32 : Int32) &&& 0x3f).toInt64.toUInt64).toInt64).toInt32)), .val (.int f0), .val (.int f1), .val (.int (q1.toInt32)), .val (.int (((q1.toUInt64 >>> ((32 : Int32) &&& 0x3f).toInt64.toUInt64).toInt64).toInt32)), .val (.int vlo), .val (.int vhi), .val (.int s0), .val (.int vt), .val (.int s1), .val (.int s2), .val (.ref bf), .val (.ref bg), .val (.int (0 : Int32)), .unset] [(.int (bI ((1 ≤ ns.toInt ∧ f1.toInt + p3.toInt ≤ s0.toInt ∧ s0.toInt ≤ f1.toInt + p3.toInt + p4.toInt) ∨ (2 ≤ ns.toInt ∧ f1.toInt + p3.toInt ≤ s1.toInt ∧ s1.toInt ≤ f1.toInt + p3.toInt + p4.toInt) ∨ (3 ≤ ns.toInt ∧ f1.toInt + p3.toInt ≤ s2.toInt ∧ s2.toInt ≤ f1.toInt + p3.toInt + p4.toInt))))])) t → Steps p.tables e below (s₁.setTop (mkF m 0 #[.val (.long q0), .second, .val (.long q1), .second, .val (.int p2), .val (.int p3), .val (.int p4), .val (.int p5), .unset, .unset, .unset, .unset, .unset, .unset, .unset, .unset, .unset, .unset, .unset, .unset, .unset, .unset, .unset, .unset, .unset, .unset] [])) t := fun t k => pre84 t (by
            show Steps p.tables e below (T80.setTop (mkF m 218 #[.val (.long q0), .second, .val (.long q1), .second, .val (.int p2), .val (.int p3), .val (.int p4), .val (.int p5), .val (.int nf), .val (.int ns), .val (.int (q0.toInt32)), .val (.int (((q0.toUInt64 >>> ((32 : Int32) &&& 0x3f).toInt64.toUInt64).toInt64).toInt32)), .val (.int f0), .val (.int f1), .val (.int (q1.toInt32)), .val (.int (((q1.toUInt64 >>> ((32 : Int32) &&& 0x3f).toInt64.toUInt64).toInt64).toInt32)), .val (.int vlo), .val (.int vhi), .val (.int s0), .val (.int vt), .val (.int s1), .val (.int s2), .val (.ref bf), .val (.ref bg), .val (.int (0 : Int32)), .unset] [(.int (2 : Int32)), (.int nf)])) _
            refine XS.icmpNo X80.here hx rfl (hb hby at_218) rfl (flt hc83).1 ?_
            show Steps p.tables e below (T80.setTop (mkF m 221 #[.val (.long q0), .second, .val (.long q1), .second, .val (.int p2), .val (.int p3), .val (.int p4), .val (.int p5), .val (.int nf), .val (.int ns), .val (.int (q0.toInt32)), .val (.int (((q0.toUInt64 >>> ((32 : Int32) &&& 0x3f).toInt64.toUInt64).toInt64).toInt32)), .val (.int f0), .val (.int f1), .val (.int (q1.toInt32)), .val (.int (((q1.toUInt64 >>> ((32 : Int32) &&& 0x3f).toInt64.toUInt64).toInt64).toInt32)), .val (.int vlo), .val (.int vhi), .val (.int s0), .val (.int vt), .val (.int s1), .val (.int s2), .val (.ref bf), .val (.ref bg), .val (.int (0 : Int32)), .unset] [])) _
            refine XS.iload X80.here hx rfl (hb hby at_221) rfl ?_
            show Steps p.tables e below (T80.setTop (mkF m 223 #[.val (.long q0), .second, .val (.long q1), .second, .val (.int p2), .val (.int p3), .val (.int p4), .val (.int p5), .val (.int nf), .val (.int ns), .val (.int (q0.toInt32)), .val (.int (((q0.toUInt64 >>> ((32 : Int32) &&& 0x3f).toInt64.toUInt64).toInt64).toInt32)), .val (.int f0), .val (.int f1), .val (.int (q1.toInt32)), .val (.int (((q1.toUInt64 >>> ((32 : Int32) &&& 0x3f).toInt64.toUInt64).toInt64).toInt32)), .val (.int vlo), .val (.int vhi), .val (.int s0), .val (.int vt), .val (.int s1), .val (.int s2), .val (.ref bf), .val (.ref bg), .val (.int (0 : Int32)), .unset] [(.int f1)])) _
            refine XS.iload X80.here hx rfl (hb hby at_223) rfl ?_
            show Steps p.tables e below (T80.setTop (mkF m 225 #[.val (.long q0), .second, .val (.long q1), .second, .val (.int p2), .val (.int p3), .val (.int p4), .val (.int p5), .val (.int nf), .val (.int ns), .val (.int (q0.toInt32)), .val (.int (((q0.toUInt64 >>> ((32 : Int32) &&& 0x3f).toInt64.toUInt64).toInt64).toInt32)), .val (.int f0), .val (.int f1), .val (.int (q1.toInt32)), .val (.int (((q1.toUInt64 >>> ((32 : Int32) &&& 0x3f).toInt64.toUInt64).toInt64).toInt32)), .val (.int vlo), .val (.int vhi), .val (.int s0), .val (.int vt), .val (.int s1), .val (.int s2), .val (.ref bf), .val (.ref bg), .val (.int (0 : Int32)), .unset] [(.int ns), (.int f1)])) _
            refine XS.iload X80.here hx rfl (hb hby at_225) rfl ?_
            show Steps p.tables e below (T80.setTop (mkF m 227 #[.val (.long q0), .second, .val (.long q1), .second, .val (.int p2), .val (.int p3), .val (.int p4), .val (.int p5), .val (.int nf), .val (.int ns), .val (.int (q0.toInt32)), .val (.int (((q0.toUInt64 >>> ((32 : Int32) &&& 0x3f).toInt64.toUInt64).toInt64).toInt32)), .val (.int f0), .val (.int f1), .val (.int (q1.toInt32)), .val (.int (((q1.toUInt64 >>> ((32 : Int32) &&& 0x3f).toInt64.toUInt64).toInt64).toInt32)), .val (.int vlo), .val (.int vhi), .val (.int s0), .val (.int vt), .val (.int s1), .val (.int s2), .val (.ref bf), .val (.ref bg), .val (.int (0 : Int32)), .unset] [(.int s0), (.int ns), (.int f1)])) _
            refine XS.iload X80.here hx rfl (hb hby at_227) rfl ?_
            show Steps p.tables e below (T80.setTop (mkF m 229 #[.val (.long q0), .second, .val (.long q1), .second, .val (.int p2), .val (.int p3), .val (.int p4), .val (.int p5), .val (.int nf), .val (.int ns), .val (.int (q0.toInt32)), .val (.int (((q0.toUInt64 >>> ((32 : Int32) &&& 0x3f).toInt64.toUInt64).toInt64).toInt32)), .val (.int f0), .val (.int f1), .val (.int (q1.toInt32)), .val (.int (((q1.toUInt64 >>> ((32 : Int32) &&& 0x3f).toInt64.toUInt64).toInt64).toInt32)), .val (.int vlo), .val (.int vhi), .val (.int s0), .val (.int vt), .val (.int s1), .val (.int s2), .val (.ref bf), .val (.ref bg), .val (.int (0 : Int32)), .unset] [(.int s1), (.int s0), (.int ns), (.int f1)])) _
            refine XS.iload X80.here hx rfl (hb hby at_229) rfl ?_
            show Steps p.tables e below (T80.setTop (mkF m 231 #[.val (.long q0), .second, .val (.long q1), .second, .val (.int p2), .val (.int p3), .val (.int p4), .val (.int p5), .val (.int nf), .val (.int ns), .val (.int (q0.toInt32)), .val (.int (((q0.toUInt64 >>> ((32 : Int32) &&& 0x3f).toInt64.toUInt64).toInt64).toInt32)), .val (.int f0), .val (.int f1), .val (.int (q1.toInt32)), .val (.int (((q1.toUInt64 >>> ((32 : Int32) &&& 0x3f).toInt64.toUInt64).toInt64).toInt32)), .val (.int vlo), .val (.int vhi), .val (.int s0), .val (.int vt), .val (.int s1), .val (.int s2), .val (.ref bf), .val (.ref bg), .val (.int (0 : Int32)), .unset] [(.int s2), (.int s1), (.int s0), (.int ns), (.int f1)])) _
            refine XS.iload X80.here hx rfl (hb hby at_231) rfl ?_
            show Steps p.tables e below (T80.setTop (mkF m 233 #[.val (.long q0), .second, .val (.long q1), .second, .val (.int p2), .val (.int p3), .val (.int p4), .val (.int p5), .val (.int nf), .val (.int ns), .val (.int (q0.toInt32)), .val (.int (((q0.toUInt64 >>> ((32 : Int32) &&& 0x3f).toInt64.toUInt64).toInt64).toInt32)), .val (.int f0), .val (.int f1), .val (.int (q1.toInt32)), .val (.int (((q1.toUInt64 >>> ((32 : Int32) &&& 0x3f).toInt64.toUInt64).toInt64).toInt32)), .val (.int vlo), .val (.int vhi), .val (.int s0), .val (.int vt), .val (.int s1), .val (.int s2), .val (.ref bf), .val (.ref bg), .val (.int (0 : Int32)), .unset] [(.int p3), (.int s2), (.int s1), (.int s0), (.int ns), (.int f1)])) _
            refine XS.iload X80.here hx rfl (hb hby at_233) rfl ?_
            show Steps p.tables e below (T80.setTop (mkF m 235 #[.val (.long q0), .second, .val (.long q1), .second, .val (.int p2), .val (.int p3), .val (.int p4), .val (.int p5), .val (.int nf), .val (.int ns), .val (.int (q0.toInt32)), .val (.int (((q0.toUInt64 >>> ((32 : Int32) &&& 0x3f).toInt64.toUInt64).toInt64).toInt32)), .val (.int f0), .val (.int f1), .val (.int (q1.toInt32)), .val (.int (((q1.toUInt64 >>> ((32 : Int32) &&& 0x3f).toInt64.toUInt64).toInt64).toInt32)), .val (.int vlo), .val (.int vhi), .val (.int s0), .val (.int vt), .val (.int s1), .val (.int s2), .val (.ref bf), .val (.ref bg), .val (.int (0 : Int32)), .unset] [(.int p4), (.int p3), (.int s2), (.int s1), (.int s0), (.int ns), (.int f1)])) _
            refine st85 _ ?_
            exact k)
          by_cases hc86 : (bI ((1 ≤ ns.toInt ∧ f1.toInt + p3.toInt ≤ s0.toInt ∧ s0.toInt ≤ f1.toInt + p3.toInt + p4.toInt) ∨ (2 ≤ ns.toInt ∧ f1.toInt + p3.toInt ≤ s1.toInt ∧ s1.toInt ≤ f1.toInt + p3.toInt + p4.toInt) ∨ (3 ≤ ns.toInt ∧ f1.toInt + p3.toInt ≤ s2.toInt ∧ s2.toInt ≤ f1.toInt + p3.toInt + p4.toInt))) = (0 : Int32)
          · skip
            have ohc86 : (bI ((1 ≤ ns.toInt ∧ f1.toInt + p3.toInt ≤ s0.toInt ∧ s0.toInt ≤ f1.toInt + p3.toInt + p4.toInt) ∨ (2 ≤ ns.toInt ∧ f1.toInt + p3.toInt ≤ s1.toInt ∧ s1.toInt ≤ f1.toInt + p3.toInt + p4.toInt) ∨ (3 ≤ ns.toInt ∧ f1.toInt + p3.toInt ≤ s2.toInt ∧ s2.toInt ≤ f1.toInt + p3.toInt + p4.toInt))).toInt = 0 := own_eq.mp hc86
            refine ⟨(0 : Int32), T85, _, ?_, X85, e85, N85, fun t k => pre87 t ?_⟩
            · exact own_c0 (fun q => q.elim (fun q => own_z ohc81 q.2) (fun q => own_z ohc86 q.2))
            · skip
              show Steps p.tables e below (T85.setTop (mkF m 238 #[.val (.long q0), .second, .val (.long q1), .second, .val (.int p2), .val (.int p3), .val (.int p4), .val (.int p5), .val (.int nf), .val (.int ns), .val (.int (q0.toInt32)), .val (.int (((q0.toUInt64 >>> ((32 : Int32) &&& 0x3f).toInt64.toUInt64).toInt64).toInt32)), .val (.int f0), .val (.int f1), .val (.int (q1.toInt32)), .val (.int (((q1.toUInt64 >>> ((32 : Int32) &&& 0x3f).toInt64.toUInt64).toInt64).toInt32)), .val (.int vlo), .val (.int vhi), .val (.int s0), .val (.int vt), .val (.int s1), .val (.int s2), .val (.ref bf), .val (.ref bg), .val (.int (0 : Int32)), .unset] [(.int (bI ((1 ≤ ns.toInt ∧ f1.toInt + p3.toInt ≤ s0.toInt ∧ s0.toInt ≤ f1.toInt + p3.toInt + p4.toInt) ∨ (2 ≤ ns.toInt ∧ f1.toInt + p3.toInt ≤ s1.toInt ∧ s1.toInt ≤ f1.toInt + p3.toInt + p4.toInt) ∨ (3 ≤ ns.toInt ∧ f1.toInt + p3.toInt ≤ s2.toInt ∧ s2.toInt ≤ f1.toInt + p3.toInt + p4.toInt))))])) _
              refine XS.ifYes X85.here hx rfl (pc0 := 238) (pc' := 244) rfl (hb hby at_238) rfl ((if0 _ _).trans (teq hc86).1) (by decide) (by decide) ?_
              exact k
          · skip
            have ohc86 : ¬ ((bI ((1 ≤ ns.toInt ∧ f1.toInt + p3.toInt ≤ s0.toInt ∧ s0.toInt ≤ f1.toInt + p3.toInt + p4.toInt) ∨ (2 ≤ ns.toInt ∧ f1.toInt + p3.toInt ≤ s1.toInt ∧ s1.toInt ≤ f1.toInt + p3.toInt + p4.toInt) ∨ (3 ≤ ns.toInt ∧ f1.toInt + p3.toInt ≤ s2.toInt ∧ s2.toInt ≤ f1.toInt + p3.toInt + p4.toInt))).toInt = 0) := own_neq.mp hc86
            refine ⟨(1 : Int32), T85, _, ?_, X85, e85, N85, fun t k => pre87 t ?_⟩
            · exact own_c1 (Or.inr ⟨by omega, own_o ohc86⟩)
            · skip
              show Steps p.tables e below (T85.setTop (mkF m 238 #[.val (.long q0), .second, .val (.long q1), .second, .val (.int p2), .val (.int p3), .val (.int p4), .val (.int p5), .val (.int nf), .val (.int ns), .val (.int (q0.toInt32)), .val (.int (((q0.toUInt64 >>> ((32 : Int32) &&& 0x3f).toInt64.toUInt64).toInt64).toInt32)), .val (.int f0), .val (.int f1), .val (.int (q1.toInt32)), .val (.int (((q1.toUInt64 >>> ((32 : Int32) &&& 0x3f).toInt64.toUInt64).toInt64).toInt32)), .val (.int vlo), .val (.int vhi), .val (.int s0), .val (.int vt), .val (.int s1), .val (.int s2), .val (.ref bf), .val (.ref bg), .val (.int (0 : Int32)), .unset] [(.int (bI ((1 ≤ ns.toInt ∧ f1.toInt + p3.toInt ≤ s0.toInt ∧ s0.toInt ≤ f1.toInt + p3.toInt + p4.toInt) ∨ (2 ≤ ns.toInt ∧ f1.toInt + p3.toInt ≤ s1.toInt ∧ s1.toInt ≤ f1.toInt + p3.toInt + p4.toInt) ∨ (3 ≤ ns.toInt ∧ f1.toInt + p3.toInt ≤ s2.toInt ∧ s2.toInt ≤ f1.toInt + p3.toInt + p4.toInt))))])) _
              refine XS.ifNo X85.here hx rfl (hb hby at_238) rfl ((if0 _ _).trans (feq hc86).1) ?_
              show Steps p.tables e below (T85.setTop (mkF m 241 #[.val (.long q0), .second, .val (.long q1), .second, .val (.int p2), .val (.int p3), .val (.int p4), .val (.int p5), .val (.int nf), .val (.int ns), .val (.int (q0.toInt32)), .val (.int (((q0.toUInt64 >>> ((32 : Int32) &&& 0x3f).toInt64.toUInt64).toInt64).toInt32)), .val (.int f0), .val (.int f1), .val (.int (q1.toInt32)), .val (.int (((q1.toUInt64 >>> ((32 : Int32) &&& 0x3f).toInt64.toUInt64).toInt64).toInt32)), .val (.int vlo), .val (.int vhi), .val (.int s0), .val (.int vt), .val (.int s1), .val (.int s2), .val (.ref bf), .val (.ref bg), .val (.int (0 : Int32)), .unset] [])) _
              refine XS.iconst X85.here hx rfl (hb hby at_241) ?_
              show Steps p.tables e below (T85.setTop (mkF m 242 #[.val (.long q0), .second, .val (.long q1), .second, .val (.int p2), .val (.int p3), .val (.int p4), .val (.int p5), .val (.int nf), .val (.int ns), .val (.int (q0.toInt32)), .val (.int (((q0.toUInt64 >>> ((32 : Int32) &&& 0x3f).toInt64.toUInt64).toInt64).toInt32)), .val (.int f0), .val (.int f1), .val (.int (q1.toInt32)), .val (.int (((q1.toUInt64 >>> ((32 : Int32) &&& 0x3f).toInt64.toUInt64).toInt64).toInt32)), .val (.int vlo), .val (.int vhi), .val (.int s0), .val (.int vt), .val (.int s1), .val (.int s2), .val (.ref bf), .val (.ref bg), .val (.int (0 : Int32)), .unset] [(.int (1 : Int32))])) _
              refine XS.istore X85.here hx rfl (hb hby at_242) rfl (l' := #[.val (.long q0), .second, .val (.long q1), .second, .val (.int p2), .val (.int p3), .val (.int p4), .val (.int p5), .val (.int nf), .val (.int ns), .val (.int (q0.toInt32)), .val (.int (((q0.toUInt64 >>> ((32 : Int32) &&& 0x3f).toInt64.toUInt64).toInt64).toInt32)), .val (.int f0), .val (.int f1), .val (.int (q1.toInt32)), .val (.int (((q1.toUInt64 >>> ((32 : Int32) &&& 0x3f).toInt64.toUInt64).toInt64).toInt32)), .val (.int vlo), .val (.int vhi), .val (.int s0), .val (.int vt), .val (.int s1), .val (.int s2), .val (.ref bf), .val (.ref bg), .val (.int (1 : Int32)), .unset]) rfl ?_
              exact k
      · skip
        have ohc81 : ¬ ((bI ((1 ≤ ns.toInt ∧ f0.toInt + p3.toInt ≤ s0.toInt ∧ s0.toInt ≤ f0.toInt + p3.toInt + p4.toInt) ∨ (2 ≤ ns.toInt ∧ f0.toInt + p3.toInt ≤ s1.toInt ∧ s1.toInt ≤ f0.toInt + p3.toInt + p4.toInt) ∨ (3 ≤ ns.toInt ∧ f0.toInt + p3.toInt ≤ s2.toInt ∧ s2.toInt ≤ f0.toInt + p3.toInt + p4.toInt))).toInt = 0) := own_neq.mp hc81
        have pre89 : ∀ t, Steps p.tables e below (T80.setTop (mkF m 218 #[.val (.long q0), .second, .val (.long q1), .second, .val (.int p2), .val (.int p3), .val (.int p4), .val (.int p5), .val (.int nf), .val (.int ns), .val (.int (q0.toInt32)), .val (.int (((q0.toUInt64 >>> ((32 : Int32) &&& 0x3f).toInt64.toUInt64).toInt64).toInt32)), .val (.int f0), .val (.int f1), .val (.int (q1.toInt32)), .val (.int (((q1.toUInt64 >>> ((32 : Int32) &&& 0x3f).toInt64.toUInt64).toInt64).toInt32)), .val (.int vlo), .val (.int vhi), .val (.int s0), .val (.int vt), .val (.int s1), .val (.int s2), .val (.ref bf), .val (.ref bg), .val (.int (1 : Int32)), .unset] [(.int (2 : Int32)), (.int nf)])) t → Steps p.tables e below (s₁.setTop (mkF m 0 #[.val (.long q0), .second, .val (.long q1), .second, .val (.int p2), .val (.int p3), .val (.int p4), .val (.int p5), .unset, .unset, .unset, .unset, .unset, .unset, .unset, .unset, .unset, .unset, .unset, .unset, .unset, .unset, .unset, .unset, .unset, .unset] [])) t := fun t k => pre82 t (by
          show Steps p.tables e below (T80.setTop (mkF m 209 #[.val (.long q0), .second, .val (.long q1), .second, .val (.int p2), .val (.int p3), .val (.int p4), .val (.int p5), .val (.int nf), .val (.int ns), .val (.int (q0.toInt32)), .val (.int (((q0.toUInt64 >>> ((32 : Int32) &&& 0x3f).toInt64.toUInt64).toInt64).toInt32)), .val (.int f0), .val (.int f1), .val (.int (q1.toInt32)), .val (.int (((q1.toUInt64 >>> ((32 : Int32) &&& 0x3f).toInt64.toUInt64).toInt64).toInt32)), .val (.int vlo), .val (.int vhi), .val (.int s0), .val (.int vt), .val (.int s1), .val (.int s2), .val (.ref bf), .val (.ref bg), .val (.int (0 : Int32)), .unset] [(.int (bI ((1 ≤ ns.toInt ∧ f0.toInt + p3.toInt ≤ s0.toInt ∧ s0.toInt ≤ f0.toInt + p3.toInt + p4.toInt) ∨ (2 ≤ ns.toInt ∧ f0.toInt + p3.toInt ≤ s1.toInt ∧ s1.toInt ≤ f0.toInt + p3.toInt + p4.toInt) ∨ (3 ≤ ns.toInt ∧ f0.toInt + p3.toInt ≤ s2.toInt ∧ s2.toInt ≤ f0.toInt + p3.toInt + p4.toInt))))])) _
          refine XS.ifNo X80.here hx rfl (hb hby at_209) rfl ((if0 _ _).trans (feq hc81).1) ?_
          show Steps p.tables e below (T80.setTop (mkF m 212 #[.val (.long q0), .second, .val (.long q1), .second, .val (.int p2), .val (.int p3), .val (.int p4), .val (.int p5), .val (.int nf), .val (.int ns), .val (.int (q0.toInt32)), .val (.int (((q0.toUInt64 >>> ((32 : Int32) &&& 0x3f).toInt64.toUInt64).toInt64).toInt32)), .val (.int f0), .val (.int f1), .val (.int (q1.toInt32)), .val (.int (((q1.toUInt64 >>> ((32 : Int32) &&& 0x3f).toInt64.toUInt64).toInt64).toInt32)), .val (.int vlo), .val (.int vhi), .val (.int s0), .val (.int vt), .val (.int s1), .val (.int s2), .val (.ref bf), .val (.ref bg), .val (.int (0 : Int32)), .unset] [])) _
          refine XS.iconst X80.here hx rfl (hb hby at_212) ?_
          show Steps p.tables e below (T80.setTop (mkF m 213 #[.val (.long q0), .second, .val (.long q1), .second, .val (.int p2), .val (.int p3), .val (.int p4), .val (.int p5), .val (.int nf), .val (.int ns), .val (.int (q0.toInt32)), .val (.int (((q0.toUInt64 >>> ((32 : Int32) &&& 0x3f).toInt64.toUInt64).toInt64).toInt32)), .val (.int f0), .val (.int f1), .val (.int (q1.toInt32)), .val (.int (((q1.toUInt64 >>> ((32 : Int32) &&& 0x3f).toInt64.toUInt64).toInt64).toInt32)), .val (.int vlo), .val (.int vhi), .val (.int s0), .val (.int vt), .val (.int s1), .val (.int s2), .val (.ref bf), .val (.ref bg), .val (.int (0 : Int32)), .unset] [(.int (1 : Int32))])) _
          refine XS.istore X80.here hx rfl (hb hby at_213) rfl (l' := #[.val (.long q0), .second, .val (.long q1), .second, .val (.int p2), .val (.int p3), .val (.int p4), .val (.int p5), .val (.int nf), .val (.int ns), .val (.int (q0.toInt32)), .val (.int (((q0.toUInt64 >>> ((32 : Int32) &&& 0x3f).toInt64.toUInt64).toInt64).toInt32)), .val (.int f0), .val (.int f1), .val (.int (q1.toInt32)), .val (.int (((q1.toUInt64 >>> ((32 : Int32) &&& 0x3f).toInt64.toUInt64).toInt64).toInt32)), .val (.int vlo), .val (.int vhi), .val (.int s0), .val (.int vt), .val (.int s1), .val (.int s2), .val (.ref bf), .val (.ref bg), .val (.int (1 : Int32)), .unset]) rfl ?_
          show Steps p.tables e below (T80.setTop (mkF m 215 #[.val (.long q0), .second, .val (.long q1), .second, .val (.int p2), .val (.int p3), .val (.int p4), .val (.int p5), .val (.int nf), .val (.int ns), .val (.int (q0.toInt32)), .val (.int (((q0.toUInt64 >>> ((32 : Int32) &&& 0x3f).toInt64.toUInt64).toInt64).toInt32)), .val (.int f0), .val (.int f1), .val (.int (q1.toInt32)), .val (.int (((q1.toUInt64 >>> ((32 : Int32) &&& 0x3f).toInt64.toUInt64).toInt64).toInt32)), .val (.int vlo), .val (.int vhi), .val (.int s0), .val (.int vt), .val (.int s1), .val (.int s2), .val (.ref bf), .val (.ref bg), .val (.int (1 : Int32)), .unset] [])) _
          refine XS.iload X80.here hx rfl (hb hby at_215) rfl ?_
          show Steps p.tables e below (T80.setTop (mkF m 217 #[.val (.long q0), .second, .val (.long q1), .second, .val (.int p2), .val (.int p3), .val (.int p4), .val (.int p5), .val (.int nf), .val (.int ns), .val (.int (q0.toInt32)), .val (.int (((q0.toUInt64 >>> ((32 : Int32) &&& 0x3f).toInt64.toUInt64).toInt64).toInt32)), .val (.int f0), .val (.int f1), .val (.int (q1.toInt32)), .val (.int (((q1.toUInt64 >>> ((32 : Int32) &&& 0x3f).toInt64.toUInt64).toInt64).toInt32)), .val (.int vlo), .val (.int vhi), .val (.int s0), .val (.int vt), .val (.int s1), .val (.int s2), .val (.ref bf), .val (.ref bg), .val (.int (1 : Int32)), .unset] [(.int nf)])) _
          refine XS.iconst X80.here hx rfl (hb hby at_217) ?_
          exact k)
        by_cases hc88 : nf < (2 : Int32)
        · skip
          have ohc88 : nf.toInt < 2 := own_lt.mp hc88
          refine ⟨(1 : Int32), T80, _, ?_, X80, e80, N80, fun t k => pre89 t ?_⟩
          · exact own_c1 (Or.inl ⟨by omega, own_o ohc81⟩)
          · skip
            show Steps p.tables e below (T80.setTop (mkF m 218 #[.val (.long q0), .second, .val (.long q1), .second, .val (.int p2), .val (.int p3), .val (.int p4), .val (.int p5), .val (.int nf), .val (.int ns), .val (.int (q0.toInt32)), .val (.int (((q0.toUInt64 >>> ((32 : Int32) &&& 0x3f).toInt64.toUInt64).toInt64).toInt32)), .val (.int f0), .val (.int f1), .val (.int (q1.toInt32)), .val (.int (((q1.toUInt64 >>> ((32 : Int32) &&& 0x3f).toInt64.toUInt64).toInt64).toInt32)), .val (.int vlo), .val (.int vhi), .val (.int s0), .val (.int vt), .val (.int s1), .val (.int s2), .val (.ref bf), .val (.ref bg), .val (.int (1 : Int32)), .unset] [(.int (2 : Int32)), (.int nf)])) _
            refine XS.icmpYes X80.here hx rfl (pc0 := 218) (pc' := 244) rfl (hb hby at_218) rfl (tlt hc88).1 (by decide) (by decide) ?_
            exact k
        · skip
          have ohc88 : 2 ≤ nf.toInt := own_nlt.mp hc88
          obtain ⟨_, _, ⟨T90, L90, k90, n90⟩, -, X90, ⟨Lc90, hQ90, l90, y90, z90⟩, st90⟩ := Jvm.LawKit.callS X80 hx (y := (⟨"com/example/cranfield/cranfield/search/OccurrencesFollowedWithinPinLaw", "row", "(IIIIIII)Z"⟩ : MethodName)) hown (mvT hZ (hw _ (List.mem_of_getElem? (i := 9) rfl))) (mvT hZ (hw _ (List.mem_of_getElem? (i := 10) rfl))) (mvT hZ (hw _ (List.mem_of_getElem? (i := 11) rfl))) (mvT hZ (hw _ (List.mem_of_getElem? (i := 12) rfl))) (by decide) (backOf (W := 0) (rm3 l Z a0 hw [] f1 ns s0 s1 s2 p3 p4  hh29 n0 Z29 ) hZ (hw _ (List.mem_of_getElem? (i := 12) rfl)) (hw _ (List.mem_of_getElem? (i := 11) rfl)) (by decide) (by decide)) (g := (mkF m 235 #[.val (.long q0), .second, .val (.long q1), .second, .val (.int p2), .val (.int p3), .val (.int p4), .val (.int p5), .val (.int nf), .val (.int ns), .val (.int (q0.toInt32)), .val (.int (((q0.toUInt64 >>> ((32 : Int32) &&& 0x3f).toInt64.toUInt64).toInt64).toInt32)), .val (.int f0), .val (.int f1), .val (.int (q1.toInt32)), .val (.int (((q1.toUInt64 >>> ((32 : Int32) &&& 0x3f).toInt64.toUInt64).toInt64).toInt32)), .val (.int vlo), .val (.int vhi), .val (.int s0), .val (.int vt), .val (.int s1), .val (.int s2), .val (.ref bf), .val (.ref bg), .val (.int (1 : Int32)), .unset] [(.int p4), (.int p3), (.int s2), (.int s1), (.int s0), (.int ns), (.int f1)])) rfl (by rw [hml]; rfl) (argsL := [(.int f1), (.int ns), (.int s0), (.int s1), (.int s2), (.int p3), (.int p4)]) (rest := []) (lenOf pd_2 rfl) rfl (by show 2 * 0 + _ ≤ _; exact Nat.le_of_eq rfl) (hb hby at_235) (fun _ _ => ⟨rfl, e80, (by decide : 2 + 0 ≤ _), (by decide : 5 + 0 ≤ _)⟩)
          dsimp only [Pt.U, Pt.locs, Pt.cells, Pt.slots] at X90 l90 y90 z90 st90 hQ90
          subst l90 y90 z90
          obtain ⟨rfl, Nq90, e90⟩ := hQ90
          have N90 := Fr.app N80 Nq90
          have pre92 : ∀ t, Steps p.tables e below (T90.setTop (mkF m 238 #[.val (.long q0), .second, .val (.long q1), .second, .val (.int p2), .val (.int p3), .val (.int p4), .val (.int p5), .val (.int nf), .val (.int ns), .val (.int (q0.toInt32)), .val (.int (((q0.toUInt64 >>> ((32 : Int32) &&& 0x3f).toInt64.toUInt64).toInt64).toInt32)), .val (.int f0), .val (.int f1), .val (.int (q1.toInt32)), .val (.int (((q1.toUInt64 >>> ((32 : Int32) &&& 0x3f).toInt64.toUInt64).toInt64).toInt32)), .val (.int vlo), .val (.int vhi), .val (.int s0), .val (.int vt), .val (.int s1), .val (.int s2), .val (.ref bf), .val (.ref bg), .val (.int (1 : Int32)), .unset] [(.int (bI ((1 ≤ ns.toInt ∧ f1.toInt + p3.toInt ≤ s0.toInt ∧ s0.toInt ≤ f1.toInt + p3.toInt + p4.toInt) ∨ (2 ≤ ns.toInt ∧ f1.toInt + p3.toInt ≤ s1.toInt ∧ s1.toInt ≤ f1.toInt + p3.toInt + p4.toInt) ∨ (3 ≤ ns.toInt ∧ f1.toInt + p3.toInt ≤ s2.toInt ∧ s2.toInt ≤ f1.toInt + p3.toInt + p4.toInt))))])) t → Steps p.tables e below (s₁.setTop (mkF m 0 #[.val (.long q0), .second, .val (.long q1), .second, .val (.int p2), .val (.int p3), .val (.int p4), .val (.int p5), .unset, .unset, .unset, .unset, .unset, .unset, .unset, .unset, .unset, .unset, .unset, .unset, .unset, .unset, .unset, .unset, .unset, .unset] [])) t := fun t k => pre89 t (by
            show Steps p.tables e below (T80.setTop (mkF m 218 #[.val (.long q0), .second, .val (.long q1), .second, .val (.int p2), .val (.int p3), .val (.int p4), .val (.int p5), .val (.int nf), .val (.int ns), .val (.int (q0.toInt32)), .val (.int (((q0.toUInt64 >>> ((32 : Int32) &&& 0x3f).toInt64.toUInt64).toInt64).toInt32)), .val (.int f0), .val (.int f1), .val (.int (q1.toInt32)), .val (.int (((q1.toUInt64 >>> ((32 : Int32) &&& 0x3f).toInt64.toUInt64).toInt64).toInt32)), .val (.int vlo), .val (.int vhi), .val (.int s0), .val (.int vt), .val (.int s1), .val (.int s2), .val (.ref bf), .val (.ref bg), .val (.int (1 : Int32)), .unset] [(.int (2 : Int32)), (.int nf)])) _
            refine XS.icmpNo X80.here hx rfl (hb hby at_218) rfl (flt hc88).1 ?_
            show Steps p.tables e below (T80.setTop (mkF m 221 #[.val (.long q0), .second, .val (.long q1), .second, .val (.int p2), .val (.int p3), .val (.int p4), .val (.int p5), .val (.int nf), .val (.int ns), .val (.int (q0.toInt32)), .val (.int (((q0.toUInt64 >>> ((32 : Int32) &&& 0x3f).toInt64.toUInt64).toInt64).toInt32)), .val (.int f0), .val (.int f1), .val (.int (q1.toInt32)), .val (.int (((q1.toUInt64 >>> ((32 : Int32) &&& 0x3f).toInt64.toUInt64).toInt64).toInt32)), .val (.int vlo), .val (.int vhi), .val (.int s0), .val (.int vt), .val (.int s1), .val (.int s2), .val (.ref bf), .val (.ref bg), .val (.int (1 : Int32)), .unset] [])) _
            refine XS.iload X80.here hx rfl (hb hby at_221) rfl ?_
            show Steps p.tables e below (T80.setTop (mkF m 223 #[.val (.long q0), .second, .val (.long q1), .second, .val (.int p2), .val (.int p3), .val (.int p4), .val (.int p5), .val (.int nf), .val (.int ns), .val (.int (q0.toInt32)), .val (.int (((q0.toUInt64 >>> ((32 : Int32) &&& 0x3f).toInt64.toUInt64).toInt64).toInt32)), .val (.int f0), .val (.int f1), .val (.int (q1.toInt32)), .val (.int (((q1.toUInt64 >>> ((32 : Int32) &&& 0x3f).toInt64.toUInt64).toInt64).toInt32)), .val (.int vlo), .val (.int vhi), .val (.int s0), .val (.int vt), .val (.int s1), .val (.int s2), .val (.ref bf), .val (.ref bg), .val (.int (1 : Int32)), .unset] [(.int f1)])) _
            refine XS.iload X80.here hx rfl (hb hby at_223) rfl ?_
            show Steps p.tables e below (T80.setTop (mkF m 225 #[.val (.long q0), .second, .val (.long q1), .second, .val (.int p2), .val (.int p3), .val (.int p4), .val (.int p5), .val (.int nf), .val (.int ns), .val (.int (q0.toInt32)), .val (.int (((q0.toUInt64 >>> ((32 : Int32) &&& 0x3f).toInt64.toUInt64).toInt64).toInt32)), .val (.int f0), .val (.int f1), .val (.int (q1.toInt32)), .val (.int (((q1.toUInt64 >>> ((32 : Int32) &&& 0x3f).toInt64.toUInt64).toInt64).toInt32)), .val (.int vlo), .val (.int vhi), .val (.int s0), .val (.int vt), .val (.int s1), .val (.int s2), .val (.ref bf), .val (.ref bg), .val (.int (1 : Int32)), .unset] [(.int ns), (.int f1)])) _
            refine XS.iload X80.here hx rfl (hb hby at_225) rfl ?_
            show Steps p.tables e below (T80.setTop (mkF m 227 #[.val (.long q0), .second, .val (.long q1), .second, .val (.int p2), .val (.int p3), .val (.int p4), .val (.int p5), .val (.int nf), .val (.int ns), .val (.int (q0.toInt32)), .val (.int (((q0.toUInt64 >>> ((32 : Int32) &&& 0x3f).toInt64.toUInt64).toInt64).toInt32)), .val (.int f0), .val (.int f1), .val (.int (q1.toInt32)), .val (.int (((q1.toUInt64 >>> ((32 : Int32) &&& 0x3f).toInt64.toUInt64).toInt64).toInt32)), .val (.int vlo), .val (.int vhi), .val (.int s0), .val (.int vt), .val (.int s1), .val (.int s2), .val (.ref bf), .val (.ref bg), .val (.int (1 : Int32)), .unset] [(.int s0), (.int ns), (.int f1)])) _
            refine XS.iload X80.here hx rfl (hb hby at_227) rfl ?_
            show Steps p.tables e below (T80.setTop (mkF m 229 #[.val (.long q0), .second, .val (.long q1), .second, .val (.int p2), .val (.int p3), .val (.int p4), .val (.int p5), .val (.int nf), .val (.int ns), .val (.int (q0.toInt32)), .val (.int (((q0.toUInt64 >>> ((32 : Int32) &&& 0x3f).toInt64.toUInt64).toInt64).toInt32)), .val (.int f0), .val (.int f1), .val (.int (q1.toInt32)), .val (.int (((q1.toUInt64 >>> ((32 : Int32) &&& 0x3f).toInt64.toUInt64).toInt64).toInt32)), .val (.int vlo), .val (.int vhi), .val (.int s0), .val (.int vt), .val (.int s1), .val (.int s2), .val (.ref bf), .val (.ref bg), .val (.int (1 : Int32)), .unset] [(.int s1), (.int s0), (.int ns), (.int f1)])) _
            refine XS.iload X80.here hx rfl (hb hby at_229) rfl ?_
            show Steps p.tables e below (T80.setTop (mkF m 231 #[.val (.long q0), .second, .val (.long q1), .second, .val (.int p2), .val (.int p3), .val (.int p4), .val (.int p5), .val (.int nf), .val (.int ns), .val (.int (q0.toInt32)), .val (.int (((q0.toUInt64 >>> ((32 : Int32) &&& 0x3f).toInt64.toUInt64).toInt64).toInt32)), .val (.int f0), .val (.int f1), .val (.int (q1.toInt32)), .val (.int (((q1.toUInt64 >>> ((32 : Int32) &&& 0x3f).toInt64.toUInt64).toInt64).toInt32)), .val (.int vlo), .val (.int vhi), .val (.int s0), .val (.int vt), .val (.int s1), .val (.int s2), .val (.ref bf), .val (.ref bg), .val (.int (1 : Int32)), .unset] [(.int s2), (.int s1), (.int s0), (.int ns), (.int f1)])) _
            refine XS.iload X80.here hx rfl (hb hby at_231) rfl ?_
            show Steps p.tables e below (T80.setTop (mkF m 233 #[.val (.long q0), .second, .val (.long q1), .second, .val (.int p2), .val (.int p3), .val (.int p4), .val (.int p5), .val (.int nf), .val (.int ns), .val (.int (q0.toInt32)), .val (.int (((q0.toUInt64 >>> ((32 : Int32) &&& 0x3f).toInt64.toUInt64).toInt64).toInt32)), .val (.int f0), .val (.int f1), .val (.int (q1.toInt32)), .val (.int (((q1.toUInt64 >>> ((32 : Int32) &&& 0x3f).toInt64.toUInt64).toInt64).toInt32)), .val (.int vlo), .val (.int vhi), .val (.int s0), .val (.int vt), .val (.int s1), .val (.int s2), .val (.ref bf), .val (.ref bg), .val (.int (1 : Int32)), .unset] [(.int p3), (.int s2), (.int s1), (.int s0), (.int ns), (.int f1)])) _
            refine XS.iload X80.here hx rfl (hb hby at_233) rfl ?_
            show Steps p.tables e below (T80.setTop (mkF m 235 #[.val (.long q0), .second, .val (.long q1), .second, .val (.int p2), .val (.int p3), .val (.int p4), .val (.int p5), .val (.int nf), .val (.int ns), .val (.int (q0.toInt32)), .val (.int (((q0.toUInt64 >>> ((32 : Int32) &&& 0x3f).toInt64.toUInt64).toInt64).toInt32)), .val (.int f0), .val (.int f1), .val (.int (q1.toInt32)), .val (.int (((q1.toUInt64 >>> ((32 : Int32) &&& 0x3f).toInt64.toUInt64).toInt64).toInt32)), .val (.int vlo), .val (.int vhi), .val (.int s0), .val (.int vt), .val (.int s1), .val (.int s2), .val (.ref bf), .val (.ref bg), .val (.int (1 : Int32)), .unset] [(.int p4), (.int p3), (.int s2), (.int s1), (.int s0), (.int ns), (.int f1)])) _
            refine st90 _ ?_
            exact k)
          by_cases hc91 : (bI ((1 ≤ ns.toInt ∧ f1.toInt + p3.toInt ≤ s0.toInt ∧ s0.toInt ≤ f1.toInt + p3.toInt + p4.toInt) ∨ (2 ≤ ns.toInt ∧ f1.toInt + p3.toInt ≤ s1.toInt ∧ s1.toInt ≤ f1.toInt + p3.toInt + p4.toInt) ∨ (3 ≤ ns.toInt ∧ f1.toInt + p3.toInt ≤ s2.toInt ∧ s2.toInt ≤ f1.toInt + p3.toInt + p4.toInt))) = (0 : Int32)
          · skip
            have ohc91 : (bI ((1 ≤ ns.toInt ∧ f1.toInt + p3.toInt ≤ s0.toInt ∧ s0.toInt ≤ f1.toInt + p3.toInt + p4.toInt) ∨ (2 ≤ ns.toInt ∧ f1.toInt + p3.toInt ≤ s1.toInt ∧ s1.toInt ≤ f1.toInt + p3.toInt + p4.toInt) ∨ (3 ≤ ns.toInt ∧ f1.toInt + p3.toInt ≤ s2.toInt ∧ s2.toInt ≤ f1.toInt + p3.toInt + p4.toInt))).toInt = 0 := own_eq.mp hc91
            refine ⟨(1 : Int32), T90, _, ?_, X90, e90, N90, fun t k => pre92 t ?_⟩
            · exact own_c1 (Or.inl ⟨by omega, own_o ohc81⟩)
            · skip
              show Steps p.tables e below (T90.setTop (mkF m 238 #[.val (.long q0), .second, .val (.long q1), .second, .val (.int p2), .val (.int p3), .val (.int p4), .val (.int p5), .val (.int nf), .val (.int ns), .val (.int (q0.toInt32)), .val (.int (((q0.toUInt64 >>> ((32 : Int32) &&& 0x3f).toInt64.toUInt64).toInt64).toInt32)), .val (.int f0), .val (.int f1), .val (.int (q1.toInt32)), .val (.int (((q1.toUInt64 >>> ((32 : Int32) &&& 0x3f).toInt64.toUInt64).toInt64).toInt32)), .val (.int vlo), .val (.int vhi), .val (.int s0), .val (.int vt), .val (.int s1), .val (.int s2), .val (.ref bf), .val (.ref bg), .val (.int (1 : Int32)), .unset] [(.int (bI ((1 ≤ ns.toInt ∧ f1.toInt + p3.toInt ≤ s0.toInt ∧ s0.toInt ≤ f1.toInt + p3.toInt + p4.toInt) ∨ (2 ≤ ns.toInt ∧ f1.toInt + p3.toInt ≤ s1.toInt ∧ s1.toInt ≤ f1.toInt + p3.toInt + p4.toInt) ∨ (3 ≤ ns.toInt ∧ f1.toInt + p3.toInt ≤ s2.toInt ∧ s2.toInt ≤ f1.toInt + p3.toInt + p4.toInt))))])) _
              refine XS.ifYes X90.here hx rfl (pc0 := 238) (pc' := 244) rfl (hb hby at_238) rfl ((if0 _ _).trans (teq hc91).1) (by decide) (by decide) ?_
              exact k
          · skip
            have ohc91 : ¬ ((bI ((1 ≤ ns.toInt ∧ f1.toInt + p3.toInt ≤ s0.toInt ∧ s0.toInt ≤ f1.toInt + p3.toInt + p4.toInt) ∨ (2 ≤ ns.toInt ∧ f1.toInt + p3.toInt ≤ s1.toInt ∧ s1.toInt ≤ f1.toInt + p3.toInt + p4.toInt) ∨ (3 ≤ ns.toInt ∧ f1.toInt + p3.toInt ≤ s2.toInt ∧ s2.toInt ≤ f1.toInt + p3.toInt + p4.toInt))).toInt = 0) := own_neq.mp hc91
            refine ⟨(1 : Int32), T90, _, ?_, X90, e90, N90, fun t k => pre92 t ?_⟩
            · exact own_c1 (Or.inl ⟨by omega, own_o ohc81⟩)
            · skip
              show Steps p.tables e below (T90.setTop (mkF m 238 #[.val (.long q0), .second, .val (.long q1), .second, .val (.int p2), .val (.int p3), .val (.int p4), .val (.int p5), .val (.int nf), .val (.int ns), .val (.int (q0.toInt32)), .val (.int (((q0.toUInt64 >>> ((32 : Int32) &&& 0x3f).toInt64.toUInt64).toInt64).toInt32)), .val (.int f0), .val (.int f1), .val (.int (q1.toInt32)), .val (.int (((q1.toUInt64 >>> ((32 : Int32) &&& 0x3f).toInt64.toUInt64).toInt64).toInt32)), .val (.int vlo), .val (.int vhi), .val (.int s0), .val (.int vt), .val (.int s1), .val (.int s2), .val (.ref bf), .val (.ref bg), .val (.int (1 : Int32)), .unset] [(.int (bI ((1 ≤ ns.toInt ∧ f1.toInt + p3.toInt ≤ s0.toInt ∧ s0.toInt ≤ f1.toInt + p3.toInt + p4.toInt) ∨ (2 ≤ ns.toInt ∧ f1.toInt + p3.toInt ≤ s1.toInt ∧ s1.toInt ≤ f1.toInt + p3.toInt + p4.toInt) ∨ (3 ≤ ns.toInt ∧ f1.toInt + p3.toInt ≤ s2.toInt ∧ s2.toInt ≤ f1.toInt + p3.toInt + p4.toInt))))])) _
              refine XS.ifNo X90.here hx rfl (hb hby at_238) rfl ((if0 _ _).trans (feq hc91).1) ?_
              show Steps p.tables e below (T90.setTop (mkF m 241 #[.val (.long q0), .second, .val (.long q1), .second, .val (.int p2), .val (.int p3), .val (.int p4), .val (.int p5), .val (.int nf), .val (.int ns), .val (.int (q0.toInt32)), .val (.int (((q0.toUInt64 >>> ((32 : Int32) &&& 0x3f).toInt64.toUInt64).toInt64).toInt32)), .val (.int f0), .val (.int f1), .val (.int (q1.toInt32)), .val (.int (((q1.toUInt64 >>> ((32 : Int32) &&& 0x3f).toInt64.toUInt64).toInt64).toInt32)), .val (.int vlo), .val (.int vhi), .val (.int s0), .val (.int vt), .val (.int s1), .val (.int s2), .val (.ref bf), .val (.ref bg), .val (.int (1 : Int32)), .unset] [])) _
              refine XS.iconst X90.here hx rfl (hb hby at_241) ?_
              show Steps p.tables e below (T90.setTop (mkF m 242 #[.val (.long q0), .second, .val (.long q1), .second, .val (.int p2), .val (.int p3), .val (.int p4), .val (.int p5), .val (.int nf), .val (.int ns), .val (.int (q0.toInt32)), .val (.int (((q0.toUInt64 >>> ((32 : Int32) &&& 0x3f).toInt64.toUInt64).toInt64).toInt32)), .val (.int f0), .val (.int f1), .val (.int (q1.toInt32)), .val (.int (((q1.toUInt64 >>> ((32 : Int32) &&& 0x3f).toInt64.toUInt64).toInt64).toInt32)), .val (.int vlo), .val (.int vhi), .val (.int s0), .val (.int vt), .val (.int s1), .val (.int s2), .val (.ref bf), .val (.ref bg), .val (.int (1 : Int32)), .unset] [(.int (1 : Int32))])) _
              refine XS.istore X90.here hx rfl (hb hby at_242) rfl (l' := #[.val (.long q0), .second, .val (.long q1), .second, .val (.int p2), .val (.int p3), .val (.int p4), .val (.int p5), .val (.int nf), .val (.int ns), .val (.int (q0.toInt32)), .val (.int (((q0.toUInt64 >>> ((32 : Int32) &&& 0x3f).toInt64.toUInt64).toInt64).toInt32)), .val (.int f0), .val (.int f1), .val (.int (q1.toInt32)), .val (.int (((q1.toUInt64 >>> ((32 : Int32) &&& 0x3f).toInt64.toUInt64).toInt64).toInt32)), .val (.int vlo), .val (.int vhi), .val (.int s0), .val (.int vt), .val (.int s1), .val (.int s2), .val (.ref bf), .val (.ref bg), .val (.int (1 : Int32)), .unset]) rfl ?_
              exact k
  obtain ⟨_, _, ⟨T93, L93, k93, n93⟩, -, X93, ⟨Lc93, hQ93, l93, y93, z93⟩, st93⟩ := Jvm.LawKit.callS X72 hx (y := (⟨"com/example/cranfield/cranfield/search/Occurrences", "followedWithin", "([II[II)Z"⟩ : MethodName)) hown (mvT hZ (hw _ (List.mem_of_getElem? (i := 13) rfl))) (mvT hZ (hw _ (List.mem_of_getElem? (i := 14) rfl))) (mvT hZ (hw _ (List.mem_of_getElem? (i := 15) rfl))) (mvT hZ (hw _ (List.mem_of_getElem? (i := 16) rfl))) (by decide) (backOf (W := 0) (rm4 l Z a0 hw [] bf p3 bg p4 cf cg nf ns (own_G f0 f1 f1) (own_G s0 s1 s2) hh29 n0 Z29 (by omega) Af Sf Mf Hf (show f0.toInt ≤ f1.toInt by omega) Ag Sg Mg Hg (own_Gs (by omega) (by omega))) hZ (hw _ (List.mem_of_getElem? (i := 16) rfl)) (hw _ (List.mem_of_getElem? (i := 15) rfl)) (by decide) (by decide)) (g := (mkF m 252 #[.val (.long q0), .second, .val (.long q1), .second, .val (.int p2), .val (.int p3), .val (.int p4), .val (.int p5), .val (.int nf), .val (.int ns), .val (.int (q0.toInt32)), .val (.int (((q0.toUInt64 >>> ((32 : Int32) &&& 0x3f).toInt64.toUInt64).toInt64).toInt32)), .val (.int f0), .val (.int f1), .val (.int (q1.toInt32)), .val (.int (((q1.toUInt64 >>> ((32 : Int32) &&& 0x3f).toInt64.toUInt64).toInt64).toInt32)), .val (.int vlo), .val (.int vhi), .val (.int s0), .val (.int vt), .val (.int s1), .val (.int s2), .val (.ref bf), .val (.ref bg), .val (.int (bI ((1 ≤ nf.toInt ∧ ((1 ≤ ns.toInt ∧ f0.toInt + p3.toInt ≤ s0.toInt ∧ s0.toInt ≤ f0.toInt + p3.toInt + p4.toInt) ∨ (2 ≤ ns.toInt ∧ f0.toInt + p3.toInt ≤ s1.toInt ∧ s1.toInt ≤ f0.toInt + p3.toInt + p4.toInt) ∨ (3 ≤ ns.toInt ∧ f0.toInt + p3.toInt ≤ s2.toInt ∧ s2.toInt ≤ f0.toInt + p3.toInt + p4.toInt))) ∨ (2 ≤ nf.toInt ∧ ((1 ≤ ns.toInt ∧ f1.toInt + p3.toInt ≤ s0.toInt ∧ s0.toInt ≤ f1.toInt + p3.toInt + p4.toInt) ∨ (2 ≤ ns.toInt ∧ f1.toInt + p3.toInt ≤ s1.toInt ∧ s1.toInt ≤ f1.toInt + p3.toInt + p4.toInt) ∨ (3 ≤ ns.toInt ∧ f1.toInt + p3.toInt ≤ s2.toInt ∧ s2.toInt ≤ f1.toInt + p3.toInt + p4.toInt)))))), .unset] [(.int p4), (.ref bg), (.int p3), (.ref bf)])) rfl (by rw [hml]; rfl) (argsL := [(.ref bf), (.int p3), (.ref bg), (.int p4)]) (rest := []) (lenOf pd_3 rfl) rfl (by show 2 * 0 + _ ≤ _; exact Nat.le_of_eq rfl) (hb hby at_252) (fun _ _ => ⟨rfl, e72, (by decide : 2 + 0 ≤ _), (by decide : 5 + 0 ≤ _)⟩)
  dsimp only [Pt.U, Pt.locs, Pt.cells, Pt.slots] at X93 l93 y93 z93 st93 hQ93
  subst l93 y93 z93
  obtain ⟨z93v, rfl, Nq93, e93, hz⟩ := hQ93
  have N93 := Fr.app N72 Nq93
  have hc94 : z93v = (bI ((1 ≤ nf.toInt ∧ ((1 ≤ ns.toInt ∧ f0.toInt + p3.toInt ≤ s0.toInt ∧ s0.toInt ≤ f0.toInt + p3.toInt + p4.toInt) ∨ (2 ≤ ns.toInt ∧ f0.toInt + p3.toInt ≤ s1.toInt ∧ s1.toInt ≤ f0.toInt + p3.toInt + p4.toInt) ∨ (3 ≤ ns.toInt ∧ f0.toInt + p3.toInt ≤ s2.toInt ∧ s2.toInt ≤ f0.toInt + p3.toInt + p4.toInt))) ∨ (2 ≤ nf.toInt ∧ ((1 ≤ ns.toInt ∧ f1.toInt + p3.toInt ≤ s0.toInt ∧ s0.toInt ≤ f1.toInt + p3.toInt + p4.toInt) ∨ (2 ≤ ns.toInt ∧ f1.toInt + p3.toInt ≤ s1.toInt ∧ s1.toInt ≤ f1.toInt + p3.toInt + p4.toInt) ∨ (3 ≤ ns.toInt ∧ f1.toInt + p3.toInt ≤ s2.toInt ∧ s2.toInt ≤ f1.toInt + p3.toInt + p4.toInt))))) := own_eq.mpr (own_fin nf ns f0 f1 s0 s1 s2 p3 p4 z93v (by omega) (by omega) hz)
  have ohc94 : z93v.toInt = (bI ((1 ≤ nf.toInt ∧ ((1 ≤ ns.toInt ∧ f0.toInt + p3.toInt ≤ s0.toInt ∧ s0.toInt ≤ f0.toInt + p3.toInt + p4.toInt) ∨ (2 ≤ ns.toInt ∧ f0.toInt + p3.toInt ≤ s1.toInt ∧ s1.toInt ≤ f0.toInt + p3.toInt + p4.toInt) ∨ (3 ≤ ns.toInt ∧ f0.toInt + p3.toInt ≤ s2.toInt ∧ s2.toInt ≤ f0.toInt + p3.toInt + p4.toInt))) ∨ (2 ≤ nf.toInt ∧ ((1 ≤ ns.toInt ∧ f1.toInt + p3.toInt ≤ s0.toInt ∧ s0.toInt ≤ f1.toInt + p3.toInt + p4.toInt) ∨ (2 ≤ ns.toInt ∧ f1.toInt + p3.toInt ≤ s1.toInt ∧ s1.toInt ≤ f1.toInt + p3.toInt + p4.toInt) ∨ (3 ≤ ns.toInt ∧ f1.toInt + p3.toInt ≤ s2.toInt ∧ s2.toInt ≤ f1.toInt + p3.toInt + p4.toInt))))).toInt := own_eq.mp hc94
  obtain ⟨fs, hr, hrun, hended, hW, hsame⟩ := X93.leave (v := some (.int (1 : Int32))) (fun h => by rw [Bd.returns] at h; cases h)
  refine ⟨_, _, pre0 _ (pre72 _ ?_), hrun, hended, _, _, rfl, ?_, ⟨_, rfl⟩, hW, hsame.mono (by decide) (by decide)⟩
  · skip
    show Steps p.tables e below (T72.setTop (mkF m 244 #[.val (.long q0), .second, .val (.long q1), .second, .val (.int p2), .val (.int p3), .val (.int p4), .val (.int p5), .val (.int nf), .val (.int ns), .val (.int (q0.toInt32)), .val (.int (((q0.toUInt64 >>> ((32 : Int32) &&& 0x3f).toInt64.toUInt64).toInt64).toInt32)), .val (.int f0), .val (.int f1), .val (.int (q1.toInt32)), .val (.int (((q1.toUInt64 >>> ((32 : Int32) &&& 0x3f).toInt64.toUInt64).toInt64).toInt32)), .val (.int vlo), .val (.int vhi), .val (.int s0), .val (.int vt), .val (.int s1), .val (.int s2), .val (.ref bf), .val (.ref bg), .val (.int (bI ((1 ≤ nf.toInt ∧ ((1 ≤ ns.toInt ∧ f0.toInt + p3.toInt ≤ s0.toInt ∧ s0.toInt ≤ f0.toInt + p3.toInt + p4.toInt) ∨ (2 ≤ ns.toInt ∧ f0.toInt + p3.toInt ≤ s1.toInt ∧ s1.toInt ≤ f0.toInt + p3.toInt + p4.toInt) ∨ (3 ≤ ns.toInt ∧ f0.toInt + p3.toInt ≤ s2.toInt ∧ s2.toInt ≤ f0.toInt + p3.toInt + p4.toInt))) ∨ (2 ≤ nf.toInt ∧ ((1 ≤ ns.toInt ∧ f1.toInt + p3.toInt ≤ s0.toInt ∧ s0.toInt ≤ f1.toInt + p3.toInt + p4.toInt) ∨ (2 ≤ ns.toInt ∧ f1.toInt + p3.toInt ≤ s1.toInt ∧ s1.toInt ≤ f1.toInt + p3.toInt + p4.toInt) ∨ (3 ≤ ns.toInt ∧ f1.toInt + p3.toInt ≤ s2.toInt ∧ s2.toInt ≤ f1.toInt + p3.toInt + p4.toInt)))))), .unset] [])) _
    refine XS.aload X72.here hx rfl (hb hby at_244) rfl rfl ?_
    show Steps p.tables e below (T72.setTop (mkF m 246 #[.val (.long q0), .second, .val (.long q1), .second, .val (.int p2), .val (.int p3), .val (.int p4), .val (.int p5), .val (.int nf), .val (.int ns), .val (.int (q0.toInt32)), .val (.int (((q0.toUInt64 >>> ((32 : Int32) &&& 0x3f).toInt64.toUInt64).toInt64).toInt32)), .val (.int f0), .val (.int f1), .val (.int (q1.toInt32)), .val (.int (((q1.toUInt64 >>> ((32 : Int32) &&& 0x3f).toInt64.toUInt64).toInt64).toInt32)), .val (.int vlo), .val (.int vhi), .val (.int s0), .val (.int vt), .val (.int s1), .val (.int s2), .val (.ref bf), .val (.ref bg), .val (.int (bI ((1 ≤ nf.toInt ∧ ((1 ≤ ns.toInt ∧ f0.toInt + p3.toInt ≤ s0.toInt ∧ s0.toInt ≤ f0.toInt + p3.toInt + p4.toInt) ∨ (2 ≤ ns.toInt ∧ f0.toInt + p3.toInt ≤ s1.toInt ∧ s1.toInt ≤ f0.toInt + p3.toInt + p4.toInt) ∨ (3 ≤ ns.toInt ∧ f0.toInt + p3.toInt ≤ s2.toInt ∧ s2.toInt ≤ f0.toInt + p3.toInt + p4.toInt))) ∨ (2 ≤ nf.toInt ∧ ((1 ≤ ns.toInt ∧ f1.toInt + p3.toInt ≤ s0.toInt ∧ s0.toInt ≤ f1.toInt + p3.toInt + p4.toInt) ∨ (2 ≤ ns.toInt ∧ f1.toInt + p3.toInt ≤ s1.toInt ∧ s1.toInt ≤ f1.toInt + p3.toInt + p4.toInt) ∨ (3 ≤ ns.toInt ∧ f1.toInt + p3.toInt ≤ s2.toInt ∧ s2.toInt ≤ f1.toInt + p3.toInt + p4.toInt)))))), .unset] [(.ref bf)])) _
    refine XS.iload X72.here hx rfl (hb hby at_246) rfl ?_
    show Steps p.tables e below (T72.setTop (mkF m 248 #[.val (.long q0), .second, .val (.long q1), .second, .val (.int p2), .val (.int p3), .val (.int p4), .val (.int p5), .val (.int nf), .val (.int ns), .val (.int (q0.toInt32)), .val (.int (((q0.toUInt64 >>> ((32 : Int32) &&& 0x3f).toInt64.toUInt64).toInt64).toInt32)), .val (.int f0), .val (.int f1), .val (.int (q1.toInt32)), .val (.int (((q1.toUInt64 >>> ((32 : Int32) &&& 0x3f).toInt64.toUInt64).toInt64).toInt32)), .val (.int vlo), .val (.int vhi), .val (.int s0), .val (.int vt), .val (.int s1), .val (.int s2), .val (.ref bf), .val (.ref bg), .val (.int (bI ((1 ≤ nf.toInt ∧ ((1 ≤ ns.toInt ∧ f0.toInt + p3.toInt ≤ s0.toInt ∧ s0.toInt ≤ f0.toInt + p3.toInt + p4.toInt) ∨ (2 ≤ ns.toInt ∧ f0.toInt + p3.toInt ≤ s1.toInt ∧ s1.toInt ≤ f0.toInt + p3.toInt + p4.toInt) ∨ (3 ≤ ns.toInt ∧ f0.toInt + p3.toInt ≤ s2.toInt ∧ s2.toInt ≤ f0.toInt + p3.toInt + p4.toInt))) ∨ (2 ≤ nf.toInt ∧ ((1 ≤ ns.toInt ∧ f1.toInt + p3.toInt ≤ s0.toInt ∧ s0.toInt ≤ f1.toInt + p3.toInt + p4.toInt) ∨ (2 ≤ ns.toInt ∧ f1.toInt + p3.toInt ≤ s1.toInt ∧ s1.toInt ≤ f1.toInt + p3.toInt + p4.toInt) ∨ (3 ≤ ns.toInt ∧ f1.toInt + p3.toInt ≤ s2.toInt ∧ s2.toInt ≤ f1.toInt + p3.toInt + p4.toInt)))))), .unset] [(.int p3), (.ref bf)])) _
    refine XS.aload X72.here hx rfl (hb hby at_248) rfl rfl ?_
    show Steps p.tables e below (T72.setTop (mkF m 250 #[.val (.long q0), .second, .val (.long q1), .second, .val (.int p2), .val (.int p3), .val (.int p4), .val (.int p5), .val (.int nf), .val (.int ns), .val (.int (q0.toInt32)), .val (.int (((q0.toUInt64 >>> ((32 : Int32) &&& 0x3f).toInt64.toUInt64).toInt64).toInt32)), .val (.int f0), .val (.int f1), .val (.int (q1.toInt32)), .val (.int (((q1.toUInt64 >>> ((32 : Int32) &&& 0x3f).toInt64.toUInt64).toInt64).toInt32)), .val (.int vlo), .val (.int vhi), .val (.int s0), .val (.int vt), .val (.int s1), .val (.int s2), .val (.ref bf), .val (.ref bg), .val (.int (bI ((1 ≤ nf.toInt ∧ ((1 ≤ ns.toInt ∧ f0.toInt + p3.toInt ≤ s0.toInt ∧ s0.toInt ≤ f0.toInt + p3.toInt + p4.toInt) ∨ (2 ≤ ns.toInt ∧ f0.toInt + p3.toInt ≤ s1.toInt ∧ s1.toInt ≤ f0.toInt + p3.toInt + p4.toInt) ∨ (3 ≤ ns.toInt ∧ f0.toInt + p3.toInt ≤ s2.toInt ∧ s2.toInt ≤ f0.toInt + p3.toInt + p4.toInt))) ∨ (2 ≤ nf.toInt ∧ ((1 ≤ ns.toInt ∧ f1.toInt + p3.toInt ≤ s0.toInt ∧ s0.toInt ≤ f1.toInt + p3.toInt + p4.toInt) ∨ (2 ≤ ns.toInt ∧ f1.toInt + p3.toInt ≤ s1.toInt ∧ s1.toInt ≤ f1.toInt + p3.toInt + p4.toInt) ∨ (3 ≤ ns.toInt ∧ f1.toInt + p3.toInt ≤ s2.toInt ∧ s2.toInt ≤ f1.toInt + p3.toInt + p4.toInt)))))), .unset] [(.ref bg), (.int p3), (.ref bf)])) _
    refine XS.iload X72.here hx rfl (hb hby at_250) rfl ?_
    show Steps p.tables e below (T72.setTop (mkF m 252 #[.val (.long q0), .second, .val (.long q1), .second, .val (.int p2), .val (.int p3), .val (.int p4), .val (.int p5), .val (.int nf), .val (.int ns), .val (.int (q0.toInt32)), .val (.int (((q0.toUInt64 >>> ((32 : Int32) &&& 0x3f).toInt64.toUInt64).toInt64).toInt32)), .val (.int f0), .val (.int f1), .val (.int (q1.toInt32)), .val (.int (((q1.toUInt64 >>> ((32 : Int32) &&& 0x3f).toInt64.toUInt64).toInt64).toInt32)), .val (.int vlo), .val (.int vhi), .val (.int s0), .val (.int vt), .val (.int s1), .val (.int s2), .val (.ref bf), .val (.ref bg), .val (.int (bI ((1 ≤ nf.toInt ∧ ((1 ≤ ns.toInt ∧ f0.toInt + p3.toInt ≤ s0.toInt ∧ s0.toInt ≤ f0.toInt + p3.toInt + p4.toInt) ∨ (2 ≤ ns.toInt ∧ f0.toInt + p3.toInt ≤ s1.toInt ∧ s1.toInt ≤ f0.toInt + p3.toInt + p4.toInt) ∨ (3 ≤ ns.toInt ∧ f0.toInt + p3.toInt ≤ s2.toInt ∧ s2.toInt ≤ f0.toInt + p3.toInt + p4.toInt))) ∨ (2 ≤ nf.toInt ∧ ((1 ≤ ns.toInt ∧ f1.toInt + p3.toInt ≤ s0.toInt ∧ s0.toInt ≤ f1.toInt + p3.toInt + p4.toInt) ∨ (2 ≤ ns.toInt ∧ f1.toInt + p3.toInt ≤ s1.toInt ∧ s1.toInt ≤ f1.toInt + p3.toInt + p4.toInt) ∨ (3 ≤ ns.toInt ∧ f1.toInt + p3.toInt ≤ s2.toInt ∧ s2.toInt ≤ f1.toInt + p3.toInt + p4.toInt)))))), .unset] [(.int p4), (.ref bg), (.int p3), (.ref bf)])) _
    refine st93 _ ?_
    show Steps p.tables e below (T93.setTop (mkF m 255 #[.val (.long q0), .second, .val (.long q1), .second, .val (.int p2), .val (.int p3), .val (.int p4), .val (.int p5), .val (.int nf), .val (.int ns), .val (.int (q0.toInt32)), .val (.int (((q0.toUInt64 >>> ((32 : Int32) &&& 0x3f).toInt64.toUInt64).toInt64).toInt32)), .val (.int f0), .val (.int f1), .val (.int (q1.toInt32)), .val (.int (((q1.toUInt64 >>> ((32 : Int32) &&& 0x3f).toInt64.toUInt64).toInt64).toInt32)), .val (.int vlo), .val (.int vhi), .val (.int s0), .val (.int vt), .val (.int s1), .val (.int s2), .val (.ref bf), .val (.ref bg), .val (.int (bI ((1 ≤ nf.toInt ∧ ((1 ≤ ns.toInt ∧ f0.toInt + p3.toInt ≤ s0.toInt ∧ s0.toInt ≤ f0.toInt + p3.toInt + p4.toInt) ∨ (2 ≤ ns.toInt ∧ f0.toInt + p3.toInt ≤ s1.toInt ∧ s1.toInt ≤ f0.toInt + p3.toInt + p4.toInt) ∨ (3 ≤ ns.toInt ∧ f0.toInt + p3.toInt ≤ s2.toInt ∧ s2.toInt ≤ f0.toInt + p3.toInt + p4.toInt))) ∨ (2 ≤ nf.toInt ∧ ((1 ≤ ns.toInt ∧ f1.toInt + p3.toInt ≤ s0.toInt ∧ s0.toInt ≤ f1.toInt + p3.toInt + p4.toInt) ∨ (2 ≤ ns.toInt ∧ f1.toInt + p3.toInt ≤ s1.toInt ∧ s1.toInt ≤ f1.toInt + p3.toInt + p4.toInt) ∨ (3 ≤ ns.toInt ∧ f1.toInt + p3.toInt ≤ s2.toInt ∧ s2.toInt ≤ f1.toInt + p3.toInt + p4.toInt)))))), .unset] [(.int z93v)])) _
    refine XS.istore X93.here hx rfl (hb hby at_255) rfl (l' := #[.val (.long q0), .second, .val (.long q1), .second, .val (.int p2), .val (.int p3), .val (.int p4), .val (.int p5), .val (.int nf), .val (.int ns), .val (.int (q0.toInt32)), .val (.int (((q0.toUInt64 >>> ((32 : Int32) &&& 0x3f).toInt64.toUInt64).toInt64).toInt32)), .val (.int f0), .val (.int f1), .val (.int (q1.toInt32)), .val (.int (((q1.toUInt64 >>> ((32 : Int32) &&& 0x3f).toInt64.toUInt64).toInt64).toInt32)), .val (.int vlo), .val (.int vhi), .val (.int s0), .val (.int vt), .val (.int s1), .val (.int s2), .val (.ref bf), .val (.ref bg), .val (.int (bI ((1 ≤ nf.toInt ∧ ((1 ≤ ns.toInt ∧ f0.toInt + p3.toInt ≤ s0.toInt ∧ s0.toInt ≤ f0.toInt + p3.toInt + p4.toInt) ∨ (2 ≤ ns.toInt ∧ f0.toInt + p3.toInt ≤ s1.toInt ∧ s1.toInt ≤ f0.toInt + p3.toInt + p4.toInt) ∨ (3 ≤ ns.toInt ∧ f0.toInt + p3.toInt ≤ s2.toInt ∧ s2.toInt ≤ f0.toInt + p3.toInt + p4.toInt))) ∨ (2 ≤ nf.toInt ∧ ((1 ≤ ns.toInt ∧ f1.toInt + p3.toInt ≤ s0.toInt ∧ s0.toInt ≤ f1.toInt + p3.toInt + p4.toInt) ∨ (2 ≤ ns.toInt ∧ f1.toInt + p3.toInt ≤ s1.toInt ∧ s1.toInt ≤ f1.toInt + p3.toInt + p4.toInt) ∨ (3 ≤ ns.toInt ∧ f1.toInt + p3.toInt ≤ s2.toInt ∧ s2.toInt ≤ f1.toInt + p3.toInt + p4.toInt)))))), .val (.int z93v)]) rfl ?_
    show Steps p.tables e below (T93.setTop (mkF m 257 #[.val (.long q0), .second, .val (.long q1), .second, .val (.int p2), .val (.int p3), .val (.int p4), .val (.int p5), .val (.int nf), .val (.int ns), .val (.int (q0.toInt32)), .val (.int (((q0.toUInt64 >>> ((32 : Int32) &&& 0x3f).toInt64.toUInt64).toInt64).toInt32)), .val (.int f0), .val (.int f1), .val (.int (q1.toInt32)), .val (.int (((q1.toUInt64 >>> ((32 : Int32) &&& 0x3f).toInt64.toUInt64).toInt64).toInt32)), .val (.int vlo), .val (.int vhi), .val (.int s0), .val (.int vt), .val (.int s1), .val (.int s2), .val (.ref bf), .val (.ref bg), .val (.int (bI ((1 ≤ nf.toInt ∧ ((1 ≤ ns.toInt ∧ f0.toInt + p3.toInt ≤ s0.toInt ∧ s0.toInt ≤ f0.toInt + p3.toInt + p4.toInt) ∨ (2 ≤ ns.toInt ∧ f0.toInt + p3.toInt ≤ s1.toInt ∧ s1.toInt ≤ f0.toInt + p3.toInt + p4.toInt) ∨ (3 ≤ ns.toInt ∧ f0.toInt + p3.toInt ≤ s2.toInt ∧ s2.toInt ≤ f0.toInt + p3.toInt + p4.toInt))) ∨ (2 ≤ nf.toInt ∧ ((1 ≤ ns.toInt ∧ f1.toInt + p3.toInt ≤ s0.toInt ∧ s0.toInt ≤ f1.toInt + p3.toInt + p4.toInt) ∨ (2 ≤ ns.toInt ∧ f1.toInt + p3.toInt ≤ s1.toInt ∧ s1.toInt ≤ f1.toInt + p3.toInt + p4.toInt) ∨ (3 ≤ ns.toInt ∧ f1.toInt + p3.toInt ≤ s2.toInt ∧ s2.toInt ≤ f1.toInt + p3.toInt + p4.toInt)))))), .val (.int z93v)] [])) _
    refine XS.iload X93.here hx rfl (hb hby at_257) rfl ?_
    show Steps p.tables e below (T93.setTop (mkF m 259 #[.val (.long q0), .second, .val (.long q1), .second, .val (.int p2), .val (.int p3), .val (.int p4), .val (.int p5), .val (.int nf), .val (.int ns), .val (.int (q0.toInt32)), .val (.int (((q0.toUInt64 >>> ((32 : Int32) &&& 0x3f).toInt64.toUInt64).toInt64).toInt32)), .val (.int f0), .val (.int f1), .val (.int (q1.toInt32)), .val (.int (((q1.toUInt64 >>> ((32 : Int32) &&& 0x3f).toInt64.toUInt64).toInt64).toInt32)), .val (.int vlo), .val (.int vhi), .val (.int s0), .val (.int vt), .val (.int s1), .val (.int s2), .val (.ref bf), .val (.ref bg), .val (.int (bI ((1 ≤ nf.toInt ∧ ((1 ≤ ns.toInt ∧ f0.toInt + p3.toInt ≤ s0.toInt ∧ s0.toInt ≤ f0.toInt + p3.toInt + p4.toInt) ∨ (2 ≤ ns.toInt ∧ f0.toInt + p3.toInt ≤ s1.toInt ∧ s1.toInt ≤ f0.toInt + p3.toInt + p4.toInt) ∨ (3 ≤ ns.toInt ∧ f0.toInt + p3.toInt ≤ s2.toInt ∧ s2.toInt ≤ f0.toInt + p3.toInt + p4.toInt))) ∨ (2 ≤ nf.toInt ∧ ((1 ≤ ns.toInt ∧ f1.toInt + p3.toInt ≤ s0.toInt ∧ s0.toInt ≤ f1.toInt + p3.toInt + p4.toInt) ∨ (2 ≤ ns.toInt ∧ f1.toInt + p3.toInt ≤ s1.toInt ∧ s1.toInt ≤ f1.toInt + p3.toInt + p4.toInt) ∨ (3 ≤ ns.toInt ∧ f1.toInt + p3.toInt ≤ s2.toInt ∧ s2.toInt ≤ f1.toInt + p3.toInt + p4.toInt)))))), .val (.int z93v)] [(.int z93v)])) _
    refine XS.iload X93.here hx rfl (hb hby at_259) rfl ?_
    show Steps p.tables e below (T93.setTop (mkF m 261 #[.val (.long q0), .second, .val (.long q1), .second, .val (.int p2), .val (.int p3), .val (.int p4), .val (.int p5), .val (.int nf), .val (.int ns), .val (.int (q0.toInt32)), .val (.int (((q0.toUInt64 >>> ((32 : Int32) &&& 0x3f).toInt64.toUInt64).toInt64).toInt32)), .val (.int f0), .val (.int f1), .val (.int (q1.toInt32)), .val (.int (((q1.toUInt64 >>> ((32 : Int32) &&& 0x3f).toInt64.toUInt64).toInt64).toInt32)), .val (.int vlo), .val (.int vhi), .val (.int s0), .val (.int vt), .val (.int s1), .val (.int s2), .val (.ref bf), .val (.ref bg), .val (.int (bI ((1 ≤ nf.toInt ∧ ((1 ≤ ns.toInt ∧ f0.toInt + p3.toInt ≤ s0.toInt ∧ s0.toInt ≤ f0.toInt + p3.toInt + p4.toInt) ∨ (2 ≤ ns.toInt ∧ f0.toInt + p3.toInt ≤ s1.toInt ∧ s1.toInt ≤ f0.toInt + p3.toInt + p4.toInt) ∨ (3 ≤ ns.toInt ∧ f0.toInt + p3.toInt ≤ s2.toInt ∧ s2.toInt ≤ f0.toInt + p3.toInt + p4.toInt))) ∨ (2 ≤ nf.toInt ∧ ((1 ≤ ns.toInt ∧ f1.toInt + p3.toInt ≤ s0.toInt ∧ s0.toInt ≤ f1.toInt + p3.toInt + p4.toInt) ∨ (2 ≤ ns.toInt ∧ f1.toInt + p3.toInt ≤ s1.toInt ∧ s1.toInt ≤ f1.toInt + p3.toInt + p4.toInt) ∨ (3 ≤ ns.toInt ∧ f1.toInt + p3.toInt ≤ s2.toInt ∧ s2.toInt ≤ f1.toInt + p3.toInt + p4.toInt)))))), .val (.int z93v)] [(.int (bI ((1 ≤ nf.toInt ∧ ((1 ≤ ns.toInt ∧ f0.toInt + p3.toInt ≤ s0.toInt ∧ s0.toInt ≤ f0.toInt + p3.toInt + p4.toInt) ∨ (2 ≤ ns.toInt ∧ f0.toInt + p3.toInt ≤ s1.toInt ∧ s1.toInt ≤ f0.toInt + p3.toInt + p4.toInt) ∨ (3 ≤ ns.toInt ∧ f0.toInt + p3.toInt ≤ s2.toInt ∧ s2.toInt ≤ f0.toInt + p3.toInt + p4.toInt))) ∨ (2 ≤ nf.toInt ∧ ((1 ≤ ns.toInt ∧ f1.toInt + p3.toInt ≤ s0.toInt ∧ s0.toInt ≤ f1.toInt + p3.toInt + p4.toInt) ∨ (2 ≤ ns.toInt ∧ f1.toInt + p3.toInt ≤ s1.toInt ∧ s1.toInt ≤ f1.toInt + p3.toInt + p4.toInt) ∨ (3 ≤ ns.toInt ∧ f1.toInt + p3.toInt ≤ s2.toInt ∧ s2.toInt ≤ f1.toInt + p3.toInt + p4.toInt)))))), (.int z93v)])) _
    refine XS.icmpNo X93.here hx rfl (hb hby at_261) rfl (teq hc94).2 ?_
    show Steps p.tables e below (T93.setTop (mkF m 264 #[.val (.long q0), .second, .val (.long q1), .second, .val (.int p2), .val (.int p3), .val (.int p4), .val (.int p5), .val (.int nf), .val (.int ns), .val (.int (q0.toInt32)), .val (.int (((q0.toUInt64 >>> ((32 : Int32) &&& 0x3f).toInt64.toUInt64).toInt64).toInt32)), .val (.int f0), .val (.int f1), .val (.int (q1.toInt32)), .val (.int (((q1.toUInt64 >>> ((32 : Int32) &&& 0x3f).toInt64.toUInt64).toInt64).toInt32)), .val (.int vlo), .val (.int vhi), .val (.int s0), .val (.int vt), .val (.int s1), .val (.int s2), .val (.ref bf), .val (.ref bg), .val (.int (bI ((1 ≤ nf.toInt ∧ ((1 ≤ ns.toInt ∧ f0.toInt + p3.toInt ≤ s0.toInt ∧ s0.toInt ≤ f0.toInt + p3.toInt + p4.toInt) ∨ (2 ≤ ns.toInt ∧ f0.toInt + p3.toInt ≤ s1.toInt ∧ s1.toInt ≤ f0.toInt + p3.toInt + p4.toInt) ∨ (3 ≤ ns.toInt ∧ f0.toInt + p3.toInt ≤ s2.toInt ∧ s2.toInt ≤ f0.toInt + p3.toInt + p4.toInt))) ∨ (2 ≤ nf.toInt ∧ ((1 ≤ ns.toInt ∧ f1.toInt + p3.toInt ≤ s0.toInt ∧ s0.toInt ≤ f1.toInt + p3.toInt + p4.toInt) ∨ (2 ≤ ns.toInt ∧ f1.toInt + p3.toInt ≤ s1.toInt ∧ s1.toInt ≤ f1.toInt + p3.toInt + p4.toInt) ∨ (3 ≤ ns.toInt ∧ f1.toInt + p3.toInt ≤ s2.toInt ∧ s2.toInt ≤ f1.toInt + p3.toInt + p4.toInt)))))), .val (.int z93v)] [])) _
    refine XS.iconst X93.here hx rfl (hb hby at_264) ?_
    show Steps p.tables e below (T93.setTop (mkF m 265 #[.val (.long q0), .second, .val (.long q1), .second, .val (.int p2), .val (.int p3), .val (.int p4), .val (.int p5), .val (.int nf), .val (.int ns), .val (.int (q0.toInt32)), .val (.int (((q0.toUInt64 >>> ((32 : Int32) &&& 0x3f).toInt64.toUInt64).toInt64).toInt32)), .val (.int f0), .val (.int f1), .val (.int (q1.toInt32)), .val (.int (((q1.toUInt64 >>> ((32 : Int32) &&& 0x3f).toInt64.toUInt64).toInt64).toInt32)), .val (.int vlo), .val (.int vhi), .val (.int s0), .val (.int vt), .val (.int s1), .val (.int s2), .val (.ref bf), .val (.ref bg), .val (.int (bI ((1 ≤ nf.toInt ∧ ((1 ≤ ns.toInt ∧ f0.toInt + p3.toInt ≤ s0.toInt ∧ s0.toInt ≤ f0.toInt + p3.toInt + p4.toInt) ∨ (2 ≤ ns.toInt ∧ f0.toInt + p3.toInt ≤ s1.toInt ∧ s1.toInt ≤ f0.toInt + p3.toInt + p4.toInt) ∨ (3 ≤ ns.toInt ∧ f0.toInt + p3.toInt ≤ s2.toInt ∧ s2.toInt ≤ f0.toInt + p3.toInt + p4.toInt))) ∨ (2 ≤ nf.toInt ∧ ((1 ≤ ns.toInt ∧ f1.toInt + p3.toInt ≤ s0.toInt ∧ s0.toInt ≤ f1.toInt + p3.toInt + p4.toInt) ∨ (2 ≤ ns.toInt ∧ f1.toInt + p3.toInt ≤ s1.toInt ∧ s1.toInt ≤ f1.toInt + p3.toInt + p4.toInt) ∨ (3 ≤ ns.toInt ∧ f1.toInt + p3.toInt ≤ s2.toInt ∧ s2.toInt ≤ f1.toInt + p3.toInt + p4.toInt)))))), .val (.int z93v)] [(.int (1 : Int32))])) _
    refine XS.goto X93.here hx rfl (pc0 := 265) (pc' := 269) rfl (hb hby at_265) (by decide) (by decide) ?_
    show Steps p.tables e below (T93.setTop (mkF m 269 #[.val (.long q0), .second, .val (.long q1), .second, .val (.int p2), .val (.int p3), .val (.int p4), .val (.int p5), .val (.int nf), .val (.int ns), .val (.int (q0.toInt32)), .val (.int (((q0.toUInt64 >>> ((32 : Int32) &&& 0x3f).toInt64.toUInt64).toInt64).toInt32)), .val (.int f0), .val (.int f1), .val (.int (q1.toInt32)), .val (.int (((q1.toUInt64 >>> ((32 : Int32) &&& 0x3f).toInt64.toUInt64).toInt64).toInt32)), .val (.int vlo), .val (.int vhi), .val (.int s0), .val (.int vt), .val (.int s1), .val (.int s2), .val (.ref bf), .val (.ref bg), .val (.int (bI ((1 ≤ nf.toInt ∧ ((1 ≤ ns.toInt ∧ f0.toInt + p3.toInt ≤ s0.toInt ∧ s0.toInt ≤ f0.toInt + p3.toInt + p4.toInt) ∨ (2 ≤ ns.toInt ∧ f0.toInt + p3.toInt ≤ s1.toInt ∧ s1.toInt ≤ f0.toInt + p3.toInt + p4.toInt) ∨ (3 ≤ ns.toInt ∧ f0.toInt + p3.toInt ≤ s2.toInt ∧ s2.toInt ≤ f0.toInt + p3.toInt + p4.toInt))) ∨ (2 ≤ nf.toInt ∧ ((1 ≤ ns.toInt ∧ f1.toInt + p3.toInt ≤ s0.toInt ∧ s0.toInt ≤ f1.toInt + p3.toInt + p4.toInt) ∨ (2 ≤ ns.toInt ∧ f1.toInt + p3.toInt ≤ s1.toInt ∧ s1.toInt ≤ f1.toInt + p3.toInt + p4.toInt) ∨ (3 ≤ ns.toInt ∧ f1.toInt + p3.toInt ≤ s2.toInt ∧ s2.toInt ≤ f1.toInt + p3.toInt + p4.toInt)))))), .val (.int z93v)] [(.int (1 : Int32))])) _
    exact retN X93 hx (t := .boolean) Bd.returns (by simp) (hb hby at_269) hr
  · show Q0 Z q0 q1 p2 p3 p4 p5 h0 n0 _ T93.heap _
    rw [e93]
    exact ⟨rfl, N93⟩
set_option maxRecDepth 65536 in
set_option maxHeartbeats 40000000 in
theorem comes_1 {Post : Tables → Env → Array Value → State → Outcome → State → Prop} (hpost : ∀ tb e args s v u, (limb_1_1.after args s (.returned v) u = true ∧ limb_1_2.after args s (.returned v) u = true ∧ True) → FrameEnd s (.returned v) u (Jvm.fieldLocs frame_1_writes args s ++ Jvm.arrayLocs frame_1_arrays args s ++ Jvm.staticLocs frame_1_statics s) 16 128 → Post tb e args s (.returned v) u) :
    ArmFor flags0 classFile x code maxLocals ret World_1 tables_1 room_1 Calls_1 rest_1 Pre_1 Post := by
  intro l hfl _ _ p e ha hc hk s m args below hf hA hF happ hP
  obtain ⟨hcalls, hrest, hpre⟩ := hP
  obtain ⟨-, -, -, hnamed, -, -, -, hat⟩ := (Spec.applies_iff hf).mp happ
  obtain ⟨hg, hn⟩ := and_e (Cond.before_iff.mp (show (Jvm.Cond.and given_1 narrow_1).before args s = true from hpre))
  obtain ⟨g1, g2⟩ := and_e hg
  obtain ⟨g3, g4⟩ := and_e g2
  obtain ⟨g5, g6⟩ := and_e g4
  obtain ⟨g7, g8⟩ := and_e g6
  obtain ⟨g9, g10⟩ := and_e g8
  obtain ⟨g11, g12⟩ := and_e g10
  obtain ⟨w0, w1, w2, w3, w4, w5, rfl⟩ : ∃ w0 w1 w2 w3 w4 w5 : Value, args = #[w0, w1, w2, w3, w4, w5] := by
    have hs : args.size = 6 := by simpa [Cond.value, given_1] using g1
    obtain ⟨L⟩ := args
    match L, hs with
    | [w0, w1, w2, w3, w4, w5], _ => exact ⟨w0, w1, w2, w3, w4, w5, rfl⟩
  have hw := fun d (hd : d ∈ tables_1) => atoms_spec (ws := Jvm.Cond.code x code maxLocals ret :: tables_1) hat d (List.mem_cons_of_mem _ hd)
  have hfit : Fit s := fun {y c} hc i hi => by
    obtain ⟨ha, rfl⟩ := Array.getElem?_eq_some_iff.mp hc
    have q := List.all_eq_true.mp ((Array.all_eq_true_iff_forall_mem.mp hF) _ (Array.getElem_mem ha)) i (List.mem_range.mpr hi)
    simpa [Array.getElem?_eq_getElem hi] using q
  obtain ⟨i0, ei0⟩ := isL_v g3
  obtain rfl : w0 = (.long i0) := Option.some.inj ei0
  obtain ⟨i1, ei1⟩ := isL_v g5
  obtain rfl : w1 = (.long i1) := Option.some.inj ei1
  obtain ⟨i2, ei2⟩ := is_v g7
  obtain rfl : w2 = (.int i2) := Option.some.inj ei2
  obtain ⟨i3, ei3⟩ := is_v g9
  obtain rfl : w3 = (.int i3) := Option.some.inj ei3
  obtain ⟨i4, ei4⟩ := is_v g11
  obtain rfl : w4 = (.int i4) := Option.some.inj ei4
  obtain ⟨i5, ei5⟩ := is_v g12
  obtain rfl : w5 = (.int i5) := Option.some.inj ei5
  obtain ⟨n, o, h1, h2, h3, _, L, rfl, ⟨rfl, N⟩, hq⟩ := rm0 l s _ hw tables_1 i0 i1 i2 i3 i4 i5  s.heap s.heap.size (Nat.le_refl _)  p e ha hc hk s m _ below hf ((Spec.applies_iff_loose hf).mp happ).1 ⟨rfl, State.Warmed39.refl s, rfl⟩ trivial
  refine ⟨n, _, h1, h2, h3, hpost _ _ _ _ _ _ ⟨Cond.after_iff.mpr rfl, Cond.after_iff.mpr (eq_i res_at (Term.int_eval (1)) rfl), trivial⟩ ⟨hq.1, hq.2.1, (hq.2.2.sift fun y hy => Or.inr (N y hy)).mono (by decide) (by decide)⟩⟩
theorem main_1_1 : Claimed_1_1 := comes_1 fun _ _ _ _ _ _ h hF => ⟨h.1, hF⟩
theorem main_1_2 : Claimed_1_2 := comes_1 fun _ _ _ _ _ _ h hF => ⟨h.2.1, hF⟩
end Jvm.Pilot.@@N@@
namespace Jvm.Pilot.@@N@@
open Jvm Jvm.ClassFile Sem Op Lib Jvm.Free Jvm.Stand Jvm.Pilot.@@N@@.Jvm.D
/-! MADE BY PROGRAM (witnessworld.py) out of the Statement's table words and the real class files: 10 classes; the members and pool entries that the words name. The judged class is class 1, her method 1. -/
namespace start1
open Jvm.ClassFile
def u (s : String) : CpInfo := .utf8 (stringToUtf16 s)
/-- a pool by its gaps: so many unusable entries, then the entry; so many at the end -/
def gap : Nat → List CpInfo → List CpInfo
  | 0, r => r
  | n + 1, r => .unusable :: gap n r
def poolList (es : List (Nat × CpInfo)) (last : Nat) : List CpInfo := es.foldr (fun e r => gap e.1 (e.2 :: r)) (gap last [])
def pool (es : List (Nat × CpInfo)) (last : Nat) : Array CpInfo := ⟨poolList es last⟩
def fileOf (pool : Array CpInfo) (this : Nat) (attrs : Array Attribute := #[]) (ms : Array MethodInfo := #[]) (fl : Nat := 33) (sup : Nat := 0) (ifs : Array Nat := #[]) (fds : Array FieldInfo := #[]) : ClassFile where
  minorVersion := 0
  majorVersion := 65
  constantPool := pool
  accessFlags := fl
  thisClass := this
  superClass := sup
  interfaces := ifs
  fields := fds
  methods := ms
  attributes := attrs
def plain (name : String) (sup : Option ClassId) : Class where
  name := name
  kind := .ordinary
  loader := none
  accessFlags := 33
  super := sup
  interfaces := #[]
  cf := none
  fields := #[]
  methods := #[]
  instanceTypes := #[]
  staticTypes := #[]
  resolved := #[]
  callSites := []
  init := .initialized
  statics := none
  mirror := none

def pool0 : Array CpInfo := pool [(5, u "<init>"), (0, u "()V"), (1, .class_ 10), (1, u "java/lang/Object")] 113

def k0m0 : Method := { name := "<init>", desc := "()V", sig := { parameters := [], returnType := none }, accessFlags := 1, code := none }
/-- java/lang/Object -/
def k0 : Class := { plain "java/lang/Object" none with
  accessFlags := 33
  interfaces := #[]
  cf := some (fileOf pool0 8 #[] #[{ accessFlags := 1, nameIndex := 5, descriptorIndex := 6, attributes := #[] }] 33 0 #[] #[])
  fields := #[]
  methods := #[k0m0]
  instanceTypes := #[]
  staticTypes := #[]
  resolved := Array.replicate 124 none
  statics := none }

def pool1 : Array CpInfo := pool [(2, .class_ 4), (1, u "java/lang/Object"), (0, u "<init>"), (0, u "()V"), (0, .integer 2147483647), (0, .methodref 9 10), (0, .class_ 11), (0, .nameAndType 12 13), (0, u "java/lang/Math"), (0, u "min"), (0, u "(II)I"), (0, .methodref 9 15), (0, .nameAndType 16 13), (0, u "max"), (0, .methodref 18 19), (0, .class_ 20), (0, .nameAndType 21 22), (0, u "com/example/cranfield/cranfield/search/OccurrencesFollowedWithinPinLaw"), (0, u "row"), (0, u "(IIIIIII)Z"), (0, .methodref 24 25), (0, .class_ 26), (0, .nameAndType 27 28), (0, u "com/example/cranfield/cranfield/search/Occurrences"), (0, u "followedWithin"), (0, u "([II[II)Z"), (0, .methodref 18 30), (0, .nameAndType 31 32), (0, u "hit"), (0, u "(IIII)Z"), (2, u "law"), (0, u "(JJIIII)Z")] 5

def k1m0 : Method := { name := "<init>", desc := "()V", sig := { parameters := [], returnType := none }, accessFlags := 2, code := none }
def k1c1 : Code := { maxStack := 7, maxLocals := 26, code := code, exceptionTable := #[], attributes := #[] }
def k1m1 : Method := { name := "law", desc := "(JJIIII)Z", sig := { parameters := [.long, .long, .int, .int, .int, .int], returnType := some .boolean }, accessFlags := 9, code := some k1c1 }
def k1c2 : Code := { maxStack := 4, maxLocals := 7, code := method_3_code, exceptionTable := #[], attributes := #[] }
def k1m2 : Method := { name := "row", desc := "(IIIIIII)Z", sig := { parameters := [.int, .int, .int, .int, .int, .int, .int], returnType := some .boolean }, accessFlags := 10, code := some k1c2 }
def k1c3 : Code := { maxStack := 4, maxLocals := 8, code := method_4_code, exceptionTable := #[], attributes := #[] }
def k1m3 : Method := { name := "hit", desc := "(IIII)Z", sig := { parameters := [.int, .int, .int, .int], returnType := some .boolean }, accessFlags := 10, code := some k1c3 }
/-- com/example/cranfield/cranfield/search/OccurrencesFollowedWithinPinLaw -/
def k1 : Class := { plain "com/example/cranfield/cranfield/search/OccurrencesFollowedWithinPinLaw" (some 0) with
  accessFlags := 49
  interfaces := #[]
  cf := some (fileOf pool1 18 #[] #[{ accessFlags := 2, nameIndex := 5, descriptorIndex := 6, attributes := #[] }, { accessFlags := 9, nameIndex := 35, descriptorIndex := 36, attributes := #[] }, { accessFlags := 10, nameIndex := 21, descriptorIndex := 22, attributes := #[] }, { accessFlags := 10, nameIndex := 31, descriptorIndex := 32, attributes := #[] }] 49 2 #[] #[])
  fields := #[]
  methods := #[k1m0, k1m1, k1m2, k1m3]
  instanceTypes := #[]
  staticTypes := #[]
  resolved := Array.replicate 42 none
  statics := none }

def pool2 : Array CpInfo := pool [(1, .class_ 2), (0, u "java/lang/Math"), (1, .class_ 6), (1, u "java/lang/Object"), (0, u "<init>"), (0, u "()V"), (89, .class_ 100), (1, u "java/lang/Math$RandomNumberGeneratorHolder"), (71, u "negativeZeroFloatBits"), (0, u "J"), (2, u "negativeZeroDoubleBits"), (21, u "max"), (2, u "min"), (43, u "$assertionsDisabled"), (0, u "Z"), (88, u "(II)I"), (2, u "twoToTheDoubleScaleDown"), (0, u "D"), (4, u "twoToTheDoubleScaleUp"), (9, u "E"), (3, u "PI"), (2, u "TAU"), (2, u "DEGREES_TO_RADIANS"), (0, u "RADIANS_TO_DEGREES")] 94

def k2m0 : Method := { name := "<init>", desc := "()V", sig := { parameters := [], returnType := none }, accessFlags := 2, code := none }
def k2c1 : Code := { maxStack := 2, maxLocals := 2, code := jdk_29_method_65_code, exceptionTable := #[], attributes := #[] }
def k2m1 : Method := { name := "max", desc := "(II)I", sig := { parameters := [.int, .int], returnType := some .int }, accessFlags := 9, code := some k2c1 }
def k2c2 : Code := { maxStack := 2, maxLocals := 2, code := jdk_29_method_69_code, exceptionTable := #[], attributes := #[] }
def k2m2 : Method := { name := "min", desc := "(II)I", sig := { parameters := [.int, .int], returnType := some .int }, accessFlags := 9, code := some k2c2 }
/-- java/lang/Math -/
def k2 : Class := { plain "java/lang/Math" (some 0) with
  accessFlags := 49
  interfaces := #[]
  cf := some (fileOf pool2 1 #[.nestMembers #[98]] #[{ accessFlags := 2, nameIndex := 7, descriptorIndex := 8, attributes := #[] }, { accessFlags := 9, nameIndex := 198, descriptorIndex := 335, attributes := #[] }, { accessFlags := 9, nameIndex := 201, descriptorIndex := 335, attributes := #[] }] 49 4 #[] #[{ accessFlags := 25, nameIndex := 354, descriptorIndex := 339, attributes := #[] }, { accessFlags := 25, nameIndex := 358, descriptorIndex := 339, attributes := #[] }, { accessFlags := 25, nameIndex := 361, descriptorIndex := 339, attributes := #[] }, { accessFlags := 26, nameIndex := 364, descriptorIndex := 339, attributes := #[] }, { accessFlags := 26, nameIndex := 365, descriptorIndex := 339, attributes := #[] }, { accessFlags := 26, nameIndex := 172, descriptorIndex := 173, attributes := #[] }, { accessFlags := 26, nameIndex := 176, descriptorIndex := 173, attributes := #[] }, { accessFlags := 8, nameIndex := 344, descriptorIndex := 339, attributes := #[] }, { accessFlags := 8, nameIndex := 338, descriptorIndex := 339, attributes := #[] }, { accessFlags := 4120, nameIndex := 245, descriptorIndex := 246, attributes := #[] }])
  fields := #[{ name := "E", type := .double, accessFlags := 25, slot := 0, constantValue := 0 }, { name := "PI", type := .double, accessFlags := 25, slot := 1, constantValue := 0 }, { name := "TAU", type := .double, accessFlags := 25, slot := 2, constantValue := 0 }, { name := "DEGREES_TO_RADIANS", type := .double, accessFlags := 26, slot := 3, constantValue := 0 }, { name := "RADIANS_TO_DEGREES", type := .double, accessFlags := 26, slot := 4, constantValue := 0 }, { name := "negativeZeroFloatBits", type := .long, accessFlags := 26, slot := 5, constantValue := 0 }, { name := "negativeZeroDoubleBits", type := .long, accessFlags := 26, slot := 6, constantValue := 0 }, { name := "twoToTheDoubleScaleUp", type := .double, accessFlags := 8, slot := 7, constantValue := 0 }, { name := "twoToTheDoubleScaleDown", type := .double, accessFlags := 8, slot := 8, constantValue := 0 }, { name := "$assertionsDisabled", type := .boolean, accessFlags := 4120, slot := 9, constantValue := 0 }]
  methods := #[k2m0, k2m1, k2m2]
  instanceTypes := #[]
  staticTypes := #[.double, .double, .double, .double, .double, .long, .long, .double, .double, .boolean]
  resolved := Array.replicate 460 none
  statics := none }

def pool3 : Array CpInfo := pool [(2, .class_ 4), (1, u "java/lang/Object"), (0, u "<init>"), (0, u "()V"), (64, .class_ 73), (1, u "com/example/cranfield/cranfield/search/Occurrences"), (20, u "followedWithin"), (0, u "([II[II)Z")] 2

def k3m0 : Method := { name := "<init>", desc := "()V", sig := { parameters := [], returnType := none }, accessFlags := 2, code := none }
def k3c1 : Code := { maxStack := 6, maxLocals := 11, code := prog_68_method_4_code, exceptionTable := #[], attributes := #[] }
def k3m1 : Method := { name := "followedWithin", desc := "([II[II)Z", sig := { parameters := [(.array .int), .int, (.array .int), .int], returnType := some .boolean }, accessFlags := 8, code := some k3c1 }
/-- com/example/cranfield/cranfield/search/Occurrences -/
def k3 : Class := { plain "com/example/cranfield/cranfield/search/Occurrences" (some 0) with
  accessFlags := 32
  interfaces := #[]
  cf := some (fileOf pool3 71 #[] #[{ accessFlags := 2, nameIndex := 5, descriptorIndex := 6, attributes := #[] }, { accessFlags := 8, nameIndex := 94, descriptorIndex := 95, attributes := #[] }] 32 2 #[] #[])
  fields := #[]
  methods := #[k3m0, k3m1]
  instanceTypes := #[]
  staticTypes := #[]
  resolved := Array.replicate 98 none
  statics := none }

def pool4 : Array CpInfo := pool [(1, u "java/lang/Cloneable"), (0, .class_ 1), (0, u "java/lang/Object"), (0, .class_ 3)] 3

/-- java/lang/Cloneable -/
def k4 : Class := { plain "java/lang/Cloneable" (some 0) with
  accessFlags := 1537
  interfaces := #[]
  cf := some (fileOf pool4 2 #[] #[] 1537 4 #[] #[])
  fields := #[]
  methods := #[]
  instanceTypes := #[]
  staticTypes := #[]
  resolved := Array.replicate 8 none
  statics := none }

def pool5 : Array CpInfo := pool [(1, u "java/io/Serializable"), (0, .class_ 1), (0, u "java/lang/Object"), (0, .class_ 3)] 3

/-- java/io/Serializable -/
def k5 : Class := { plain "java/io/Serializable" (some 0) with
  accessFlags := 1537
  interfaces := #[]
  cf := some (fileOf pool5 2 #[] #[] 1537 4 #[] #[])
  fields := #[]
  methods := #[]
  instanceTypes := #[]
  staticTypes := #[]
  resolved := Array.replicate 8 none
  statics := none }

/-- the primitive byte -/
def k6 : Class := { plain "byte" none with kind := .primitive 'B', accessFlags := 0x411 }
/-- [B -/
def k7 : Class := { plain "[B" (some 0) with kind := .array 6 .byte, interfaces := #[4, 5], accessFlags := 1041 }

/-- the primitive int -/
def k8 : Class := { plain "int" none with kind := .primitive 'I', accessFlags := 0x411 }
/-- [I -/
def k9 : Class := { plain "[I" (some 0) with kind := .array 8 .int, interfaces := #[4, 5], accessFlags := 1041 }

def heap : Heap := #[]
def classes : Array Class := #[k0, k1, k2, k3, k4, k5, k6, k7, k8, k9]
def interned : List (Array UInt16 × Addr) := []
def slotsUsed : Nat := 0
def theMethod : MethodId := ⟨1, 1⟩
def args0 : Array Value := #[.long 5, .long 5, .int 5, .int 5, .int 5, .int 5]
def aboutOver (below : List Frame) : State where
  vm := { classes := classes, interned := interned.toArray }
  heap := heap
  slotsUsed := slotsUsed
  threads := #[{ frames := .invoking theMethod args0 :: below }]
def below0 : List Frame := [.native { method := ⟨0, 0⟩, args := #[] }]
def about1 : State := aboutOver below0
def p0 : Program := .bare "" "" ""
def e0 : Env := launch0.env 0 0 0
theorem w_frames : about1.frames = Frame.invoking theMethod args0 :: below0 := rfl
set_option maxRecDepth 65536 in
theorem w_args : argsFit about1.vm theMethod args0 = true := by decide +kernel
set_option maxRecDepth 65536 in
theorem w_heap : heapFits about1 = true := by decide +kernel
set_option maxRecDepth 65536 in
theorem w_runnable : about1.curStatus? = some .runnable := by decide +kernel
set_option maxRecDepth 65536 in
theorem w_alone : about1.alone = true := by decide +kernel
set_option maxRecDepth 65536 in
theorem w_named : about1.methodNamed? x = some theMethod := by decide +kernel
set_option maxRecDepth 65536 in
theorem w_hears : about1.hears theMethod below0 = true := by decide +kernel
set_option maxRecDepth 65536 in
theorem w_ripe : about1.ripe theMethod args0 below0 = true := by decide +kernel
theorem w_running : about1.status = .running := rfl
set_option maxRecDepth 65536 in
theorem w_room : about1.hasRoom e0.platform room_1 = true :=
  launch0.hasRoom_least _ room_1 (by decide +kernel) (by decide +kernel) (by decide +kernel) (by decide +kernel) (by decide +kernel) (by decide +kernel)
theorem allAtoms_all (ts : List Jvm.Cond) (a : Array Jvm.Value) (st : Jvm.State) : (allAtoms ts).before a st = ts.all (fun c => c.before a st) := by
  induction ts with
  | nil => rfl
  | cons c t ih =>
    show (Jvm.Cond.and c (allAtoms t)).before a st = _
    rw [Jvm.Cond.before_and, ih, List.all_cons]
def words1 : List Jvm.Cond := Jvm.Cond.code x code maxLocals ret :: tables_1
/-- a 'code' word, met by the world's own term for the bytes: nothing is compared byte by byte -/
theorem code_word {y : MethodName} {bytes : ByteArray} {mx : Nat} {rt : Option FieldType} {a : Array Value} {s : State} {m : MethodId} {meth : Method} {c : Code} (h1 : s.methodNamed? y = some m) (h2 : s.vm.method? m = some meth) (h3 : meth.code = some c) (h4 : c.code = bytes)
    (h5 : (c.maxLocals == mx && c.exceptionTable.isEmpty && decide (c.maxStack ≤ mostOperands) && decide (meth.sig.returnType = rt) && !meth.locks && decide (parseMethodDescriptor y.desc = some meth.sig)) = true) : (Jvm.Cond.code y bytes mx rt).before a s = true := by
  simp only [Bool.and_eq_true, beq_iff_eq, Bool.not_eq_true', decide_eq_true_eq] at h5
  obtain ⟨⟨⟨⟨⟨g1, g2⟩, g3⟩, g4⟩, g5⟩, g6⟩ := h5
  simp [Cond.before, Cond.holds, Cond.value, h1, h2, h3, h4, g1, g2, g3, g4, g5, g6]
def isCode : Jvm.Cond → Bool
  | .code _ _ _ _ => true
  | _ => false
theorem all_split {L : List Jvm.Cond} {P : Jvm.Cond → Bool} (h1 : L.all (fun c => isCode c || P c) = true) (h2 : ∀ c ∈ L.filter isCode, P c = true) : L.all P = true := by
  refine List.all_eq_true.mpr fun c hc => ?_
  have h := List.all_eq_true.mp h1 c hc
  rcases Bool.eq_false_or_eq_true (isCode c) with hi | hi
  · exact h2 c (List.mem_filter.mpr ⟨hc, hi⟩)
  · simpa [hi] using h
set_option maxRecDepth 65536 in
theorem w_c0 : (Jvm.Cond.code x code maxLocals ret).before args0 about1 = true := code_word (m := ⟨1, 1⟩) (meth := k1m1) (c := k1c1) (by decide +kernel) rfl rfl rfl (by decide +kernel)
set_option maxRecDepth 65536 in
theorem w_c1 : (Jvm.Cond.code ({ cls := "java/lang/Math", name := "min", desc := "(II)I" } : Jvm.MethodName) jdk_29_method_69_code (2 : Nat) (Option.some Jvm.ClassFile.FieldType.int)).before args0 about1 = true := code_word (m := ⟨2, 2⟩) (meth := k2m2) (c := k2c2) (by decide +kernel) rfl rfl rfl (by decide +kernel)
set_option maxRecDepth 65536 in
theorem w_c2 : (Jvm.Cond.code ({ cls := "java/lang/Math", name := "max", desc := "(II)I" } : Jvm.MethodName) jdk_29_method_65_code (2 : Nat) (Option.some Jvm.ClassFile.FieldType.int)).before args0 about1 = true := code_word (m := ⟨2, 1⟩) (meth := k2m1) (c := k2c1) (by decide +kernel) rfl rfl rfl (by decide +kernel)
set_option maxRecDepth 65536 in
theorem w_c3 : (Jvm.Cond.code ({ cls := "com/example/cranfield/cranfield/search/OccurrencesFollowedWithinPinLaw", name := "row", desc := "(IIIIIII)Z" } : Jvm.MethodName) method_3_code (7 : Nat) (Option.some Jvm.ClassFile.FieldType.boolean)).before args0 about1 = true := code_word (m := ⟨1, 2⟩) (meth := k1m2) (c := k1c2) (by decide +kernel) rfl rfl rfl (by decide +kernel)
set_option maxRecDepth 65536 in
theorem w_c4 : (Jvm.Cond.code ({ cls := "com/example/cranfield/cranfield/search/Occurrences", name := "followedWithin", desc := "([II[II)Z" } : Jvm.MethodName) prog_68_method_4_code (11 : Nat) (Option.some Jvm.ClassFile.FieldType.boolean)).before args0 about1 = true := code_word (m := ⟨3, 1⟩) (meth := k3m1) (c := k3c1) (by decide +kernel) rfl rfl rfl (by decide +kernel)
set_option maxRecDepth 65536 in
theorem w_c5 : (Jvm.Cond.code ({ cls := "com/example/cranfield/cranfield/search/OccurrencesFollowedWithinPinLaw", name := "hit", desc := "(IIII)Z" } : Jvm.MethodName) method_4_code (8 : Nat) (Option.some Jvm.ClassFile.FieldType.boolean)).before args0 about1 = true := code_word (m := ⟨1, 3⟩) (meth := k1m3) (c := k1c3) (by decide +kernel) rfl rfl rfl (by decide +kernel)
def codes1 : List Jvm.Cond := [Jvm.Cond.code x code maxLocals ret, Jvm.Cond.code ({ cls := "java/lang/Math", name := "min", desc := "(II)I" } : Jvm.MethodName) jdk_29_method_69_code (2 : Nat) (Option.some Jvm.ClassFile.FieldType.int), Jvm.Cond.code ({ cls := "java/lang/Math", name := "max", desc := "(II)I" } : Jvm.MethodName) jdk_29_method_65_code (2 : Nat) (Option.some Jvm.ClassFile.FieldType.int), Jvm.Cond.code ({ cls := "com/example/cranfield/cranfield/search/OccurrencesFollowedWithinPinLaw", name := "row", desc := "(IIIIIII)Z" } : Jvm.MethodName) method_3_code (7 : Nat) (Option.some Jvm.ClassFile.FieldType.boolean), Jvm.Cond.code ({ cls := "com/example/cranfield/cranfield/search/Occurrences", name := "followedWithin", desc := "([II[II)Z" } : Jvm.MethodName) prog_68_method_4_code (11 : Nat) (Option.some Jvm.ClassFile.FieldType.boolean), Jvm.Cond.code ({ cls := "com/example/cranfield/cranfield/search/OccurrencesFollowedWithinPinLaw", name := "hit", desc := "(IIII)Z" } : Jvm.MethodName) method_4_code (8 : Nat) (Option.some Jvm.ClassFile.FieldType.boolean)]
set_option maxRecDepth 65536 in
theorem codes_eq : words1.filter isCode = codes1 := rfl
theorem w_codes : ∀ c ∈ words1.filter isCode, c.before args0 about1 = true := by
  rw [codes_eq]
  intro c hc
  simp only [codes1, List.mem_cons, List.not_mem_nil, or_false] at hc
  rcases hc with rfl | rfl | rfl | rfl | rfl | rfl
  · exact w_c0
  · exact w_c1
  · exact w_c2
  · exact w_c3
  · exact w_c4
  · exact w_c5
set_option maxRecDepth 65536 in
theorem w_t1 : words1.all (fun c => isCode c || c.before args0 about1) = true := by decide +kernel
theorem w_tables : (allAtoms (Jvm.Cond.code x code maxLocals ret :: tables_1)).before args0 about1 = true := by
  rw [allAtoms_all]
  show words1.all (fun c => c.before args0 about1) = true
  refine all_split ?_ w_codes
  rw [w_t1]
set_option maxRecDepth 65536 in
theorem w_case : (Jvm.Cond.and given_1 narrow_1).before args0 about1 = true := by decide +kernel
theorem w_applies : (headSpec (Jvm.Cond.code x code maxLocals ret :: tables_1) room_1).applies x e0.platform about1 = true :=
  (Spec.applies_iff w_frames).mpr ⟨w_running, w_runnable, w_alone, w_named, w_hears, w_ripe, w_room, w_tables⟩
theorem atStart : AtStart classFile x code maxLocals ret World_1 tables_1 room_1 Calls_1 rest_1 Pre_1 launch0 p0 e0 about1 theMethod args0 below0 :=
  ⟨lists_1, trivial, launch0.admits_env _ _ _, launch0.least_env, fairChoices_fair.cas, fairChoices_fair.clock, w_frames, w_args, w_heap, w_applies, trivial, trivial, w_case⟩
end start1
theorem witness_1 : WitnessClaimed_1 := ⟨start1.p0, start1.e0, start1.about1, start1.theMethod, start1.args0, start1.below0, start1.atStart⟩
end Jvm.Pilot.@@N@@
