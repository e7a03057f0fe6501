import JvmDerived
import JvmDerived.Pilot.@@N@@Statement
import JvmDerived.Pilot.@@N@@Code
set_option linter.unusedVariables false
set_option linter.unusedSimpArgs false
namespace Jvm.RoadKit
open Sem ClassFile Op Lib Jvm.Stand Jvm.Free Jvm.LawKit
section New
variable {p : Program} {l : Launch} {e : Env} {R : Room} {s : State} {m : MethodId} {args : Array Value} {below : List Frame} {meth : Method} {c : Code} {T : State} {locs : List Loc} {cells slots : Nat}
theorem retI (X : Stand p l e R s m args below meth c T locs cells slots) (hx : p.tables.exec = Jvm.exec) {pc : Nat} {Ls : Array Slot} {z : Int32} {rest : List Value} (hret : meth.sig.returnType = some .int) (hd : decode c.code pc = .ok (.ireturn, 1)) {fs : List Frame}
    (hl : ∀ (f : JFrame) (acts : List Action), f.method = m → f.locked = none → f.entered = [] → (doReturn e (T.setTop f) acts (some (.int z))).1 = T.setFrames fs) : Steps p.tables e below (T.setTop (mkF m pc Ls (.int z :: rest))) (T.setFrames fs) := by
  have hm' : T.vm.method? m = some meth := X.method'
  have hn : narrow .int (.int z) = .int z := rfl
  show Steps p.tables e below (T.setTop { method := m, pc := pc, locals := Ls, stack := _ :: rest, locked := none }) _
  jvm_step X.here [X.here.top, hx, hd, hm', hret, hn]
  first | (intro acts; rw [hl _ acts rfl rfl rfl]) | rw [hl _ _ rfl rfl rfl]
  exact Steps.refl _
end New
end Jvm.RoadKit
namespace Jvm.Pilot.@@N@@
open Jvm Jvm.ClassFile Sem Op Lib Jvm.Free Jvm.Stand Jvm.LawKit Jvm.RoadKit Bundle Jvm.Pilot.@@N@@.Jvm.D
def bI (P : Prop) [Decidable P] : Int32 := if P then 1 else 0
theorem own_b1 {P : Prop} [Decidable P] (h : P) : some (Value.int (1 : Int32)) = some (Value.int (bI P)) := by rw [bI, if_pos h]
theorem own_b0 {P : Prop} [Decidable P] (h : ¬ P) : some (Value.int (0 : Int32)) = some (Value.int (bI P)) := by rw [bI, if_neg h]
theorem own_c1 {P : Prop} [Decidable P] (h : P) : (1 : Int32) = bI P := by rw [bI, if_pos h]
theorem own_c0 {P : Prop} [Decidable P] (h : ¬ P) : (0 : Int32) = bI P := by rw [bI, if_neg h]
theorem own_bI {P : Prop} [Decidable P] : (P ∧ bI P = 1) ∨ (¬ P ∧ bI P = 0) := by by_cases h : P <;> simp [bI, h]
theorem own_bt {P : Prop} [Decidable P] : (P ∧ (bI P).toInt = 1) ∨ (¬ P ∧ (bI P).toInt = 0) := by by_cases h : P <;> simp [bI, h]
theorem own_nar {P : Prop} [Decidable P] : nar .boolean (bI P) = bI P := by by_cases h : P <;> simp only [bI, h, if_true, if_false] <;> decide
theorem own_lt {a b : Int32} : a < b ↔ a.toInt < b.toInt := Int32.lt_iff_toInt_lt
theorem own_nlt {a b : Int32} : ¬ (a < b) ↔ b.toInt ≤ a.toInt := by rw [own_lt]; omega
theorem own_eq {a b : Int32} : a = b ↔ a.toInt = b.toInt := Int32.toInt_inj.symm
theorem own_neq {a b : Int32} : ¬ (a = b) ↔ ¬ (a.toInt = b.toInt) := by rw [own_eq]
theorem own_ltL {a b : Int64} : a < b ↔ a.toInt < b.toInt := Int64.lt_iff_toInt_lt
theorem own_eqL {a b : Int64} : a = b ↔ a.toInt = b.toInt := Int64.toInt_inj.symm
theorem own_sk {Z : State} {h h' : Heap} {C n d K : String} {v : Value} {b : Addr} (F : Sta Z h C n d v) (Kp : Keep h h' [b]) (E : Exa Z h b K) : Sta Z h' C n d v := by
  obtain ⟨cf, i, k, f, st, cell, h1, h2, h3, h4, h5, h6, h7⟩ := F
  refine ⟨cf, i, k, f, st, cell, h1, h2, h3, h4, Kp.2.1 st cell h5 (fun q => ?_), h6, h7⟩
  obtain ⟨cl, kk, e1, e2, e3, e4, e5⟩ := E
  have q' := List.mem_singleton.mp q
  subst q'
  rw [h5] at e1
  cases e1
  rw [h6] at e4
  cases e4
theorem own_eqI {t : Term} {k : Int32} {args : Array Value} {Z : State} (h : (Jvm.Cond.eq t (Term.int k)).value args Z none Z [] = some true) : t.eval args Z none [] Z = some (.int k) := by
  obtain ⟨x, y, hx, hy, K1, K2⟩ := cmp_v (Or.inl h)
  have hy' : y = .int k := by simpa [Term.eval] using hy.symm
  subst hy'
  obtain ⟨z, rfl⟩ := K2
  have q : z = k := by simpa [Jvm.Cond.value, hx, Term.eval] using h
  rw [hx, q]
theorem own_fldI {t : Term} {C n d : String} {k : Int32} {a : Addr} {args : Array Value} {Z : State} (ev : t.eval args Z none [] Z = some (.ref a)) (h : (Jvm.Cond.eq (Term.field t C n d) (Term.int k)).value args Z none Z [] = some true) : Z.fieldOf? a C n d = some (.int k) := by
  rw [← fld_at ev]; exact own_eqI h
theorem own_ford {C n d : String} {k k' : Int32} {a b : Addr} {Z : State} (h1 : Z.fieldOf? a C n d = some (.int k)) (h2 : Z.fieldOf? b C n d = some (.int k')) (hk : k ≠ k') : a ≠ b := fun q => by
  rw [q, h2] at h1
  exact hk (Value.int.inj (Option.some.inj h1)).symm
theorem own_s0 {Z : State} {h h' : Heap} {C n d : String} {v : Value} (F : Sta Z h C n d v) (Kp : Keep h h' []) : Sta Z h' C n d v := by
  obtain ⟨cf, i, k, f, st, cell, h1, h2, h3, h4, h5, h6, h7⟩ := F
  exact ⟨cf, i, k, f, st, cell, h1, h2, h3, h4, Kp.2.1 st cell h5 (by simp), h6, h7⟩
theorem own_a0 {Z : State} {h h' : Heap} {a : Addr} {c : Cell} {ty : FieldType} (A : Arr Z h a c ty) (Kp : Keep h h' []) : Arr Z h' a c ty := ⟨Kp.2.1 a c A.1 (by simp), A.2⟩
theorem own_f0 {Z : State} {h h' : Heap} {C n d : String} {a : Addr} {v : Value} (F : Fld Z h a C n d v) (Kp : Keep h h' []) : Fld Z h' a C n d v := F.keep Kp (by simp)
theorem own_no2 {Z : State} {a0 : Array Value} {C S O K : String} {n : Nat} (w1 : (Jvm.Cond.superclass C S).before a0 Z = true) (w2 : (Jvm.Cond.superclass S O).before a0 Z = true) (w3 : (Jvm.Cond.noSuperclass O).before a0 Z = true) (wk : (Jvm.Cond.instantiable K n).before a0 Z = true)
    (n1 : C ≠ K) (n2 : S ≠ K) (n3 : O ≠ K) : ∃ c t, Z.vm.findClass C = some c ∧ Z.vm.findClass K = some t ∧ Z.vm.assignable c t = false := by
  obtain ⟨t, kt, ht, hkt, ho, hi, -, -⟩ := Cond.instantiable_spec wk
  obtain ⟨cO, kO, hO, hkO, hs, -, -⟩ := Cond.noSuperclass_spec w3
  have neO := ids_ne hO ht n3
  have r0 : NS Z O K := ⟨cO, t, hO, ht, fun fuel => by cases fuel with
    | zero => rfl
    | succ f => simp [Vm.isSubclassAux, neO, hkO, hs]⟩
  obtain ⟨c, t', h0, g0, n3'⟩ := NS.step w1 (NS.step w2 r0 n2) n1
  cases ht.symm.trans g0
  obtain ⟨p, k, kp, h1, h2, h3, h4, h5, -, h7⟩ := Cond.superclass_spec h0 w1
  have ne := ids_ne h0 ht n1
  have hi' : kt.isInterface = false := by simp only [Bool.or_eq_false_iff] at hi; exact hi.1
  refine ⟨c, t, h0, ht, ?_⟩
  show Z.vm.assignableAux (255 + 1) c t = false
  simp [Vm.assignableAux, ne, h2, hkt, h5, ho, hi', Vm.isSubclass, n3']
theorem own_box {Z : State} {args : Array Value} {t : Term} {K : String} {X : Jvm.Cond} {a : Addr} {c : Cell} (et : ∀ idx, t.eval args Z none idx Z = some (.ref a)) (A : Arr Z Z.heap a c (.object K))
    (h : (Jvm.Cond.all t (.and (.exactly (.elem t (.index 0)) K) X)).value args Z none Z [] = some true) (j : Int32) (hj : ¬ (j < 0 ∨ c.slots.size ≤ j.toNatClampNeg)) : ∃ b : Addr, c.slots[j.toNatClampNeg]? = some (.ref b) ∧ Exa Z Z.heap b K := by
  have nn : ¬ j < 0 := fun x => hj (Or.inl x)
  have u := (and_e (Cond.all_elim (et []) (A.fin (Vm.Alike.refl _)) h j.toNatClampNeg (Nat.lt_of_not_le fun x => hj (Or.inr x)))).1
  obtain ⟨box, eb⟩ := exa_v u
  exact ⟨box, (elem_f (et _) (idx_at nn) (A.fin (Vm.Alike.refl _)) nn).symm.trans eb, exa_at eb u⟩
theorem own_len {Z : State} {args : Array Value} {t : Term} {a : Addr} {c : Cell} {ty : FieldType} {z : Int32} (ev : t.eval args Z none [] Z = some (.ref a)) (A : Arr Z Z.heap a c ty) (h : (Term.length t).eval args Z none [] Z = some (.int z)) : c.slots.size < 2 ^ 31 ∧ c.slots.size.toInt32 = z := by
  have ha := A.fin (Vm.Alike.refl _)
  simpa [Term.eval, ev, ha] using h
theorem own_size {c : Cell} {z : Int32} {n : Nat} (h : c.slots.size < 2 ^ 31 ∧ c.slots.size.toInt32 = z) (hz : z.toInt = n) : c.slots.size = n := by
  have q := len_toInt h.1
  rw [h.2] at q
  omega
theorem own_eqR {t u : Term} {b : Addr} {args : Array Value} {Z : State} (hu : u.eval args Z none [] Z = some (.ref b)) (h : (Jvm.Cond.eq t u).value args Z none Z [] = some true) : t.eval args Z none [] Z = some (.ref b) := by
  obtain ⟨x, y, hx, hy, K1, K2⟩ := cmp_v (Or.inl h)
  cases hu.symm.trans hy
  have hr : x.isRef = true := K2.2
  have e := eq_R hx hu hr rfl
  rw [h] at e
  rw [hx, of_decide_eq_true (Option.some.inj e).symm]
theorem own_rew {s t : State} {o : Outcome} {L : List Loc} {k n k' n' : Nat} (h : ReturnedEndW s o t L k n) (hk : k ≤ k') (hn : n ≤ n') : ReturnedEndW s o t L k' n' := ⟨h.1, h.2.1, h.2.2.1, h.2.2.2.mono hk hn⟩
theorem own_m31 (x : Int32) : (x &&& (2147483647 : Int32)).toInt = x.toInt % 2147483648 := c_mask x (2147483647 : Int32) 31 (by decide) (by decide)
theorem own_mrem (x y : Int32) (d : Int) (hy : y.toInt = d) : ((x &&& (2147483647 : Int32)) % y).toInt = (x.toInt % 2147483648) % d := by
  have h := own_m31 x
  rw [(c_irem _ y d hy).1 (by omega), h]
theorem ef_1 (m : MethodId) (x0 : Int32) : entryFrame m #[(.int x0)] 1 = mkF m 0 #[.val (.int x0)] [] := by first | (simp [entryFrame, mkF, argsToLocals, Value.category]; done) | rfl
theorem pn_com_example_acker_acker_engine_BackoffEqualsPinLaw : plainName "com/example/acker/acker/engine/BackoffEqualsPinLaw" = true := by first | (simp [plainName, overriddenIn]; done) | decide +kernel
theorem d1_0 : decode method_2_code 0 = .ok (.iload_n 0, 1) := by decide +kernel
theorem d1_1 : decode method_2_code 1 = .ok (.ldc 7, 2) := by decide +kernel
theorem d1_3 : decode method_2_code 3 = .ok (.iand, 1) := by decide +kernel
theorem d1_4 : decode method_2_code 4 = .ok (.ldc 8, 2) := by decide +kernel
theorem d1_6 : decode method_2_code 6 = .ok (.irem, 1) := by decide +kernel
theorem d1_7 : decode method_2_code 7 = .ok (.ireturn, 1) := by decide +kernel
theorem ef_2 (m : MethodId) (x0 : Addr) (x1 : Int32) (x2 : Int32) : entryFrame m #[(.ref x0), (.int x1), (.int x2)] 3 = mkF m 0 #[.val (.ref x0), .val (.int x1), .val (.int x2)] [] := by first | (simp [entryFrame, mkF, argsToLocals, Value.category]; done) | rfl
theorem pn_com_example_acker_acker_engine_Backoff : plainName "com/example/acker/acker/engine/Backoff" = true := by first | (simp [plainName, overriddenIn]; done) | decide +kernel
theorem d2_0 : decode prog_2_method_1_code 0 = .ok (.aload_n 0, 1) := by decide +kernel
theorem d2_1 : decode prog_2_method_1_code 1 = .ok (.invokespecial 1, 3) := by decide +kernel
theorem d2_4 : decode prog_2_method_1_code 4 = .ok (.iload_n 1, 1) := by decide +kernel
theorem d2_5 : decode prog_2_method_1_code 5 = .ok (.ifCond .lt 9, 3) := by decide +kernel
theorem d2_8 : decode prog_2_method_1_code 8 = .ok (.iload_n 1, 1) := by decide +kernel
theorem d2_9 : decode prog_2_method_1_code 9 = .ok (.ldc 9, 2) := by decide +kernel
theorem d2_11 : decode prog_2_method_1_code 11 = .ok (.if_icmp .le 13, 3) := by decide +kernel
theorem d2_24 : decode prog_2_method_1_code 24 = .ok (.iload_n 2, 1) := by decide +kernel
theorem d2_25 : decode prog_2_method_1_code 25 = .ok (.ifCond .lt 9, 3) := by decide +kernel
theorem d2_28 : decode prog_2_method_1_code 28 = .ok (.iload_n 2, 1) := by decide +kernel
theorem d2_29 : decode prog_2_method_1_code 29 = .ok (.ldc 9, 2) := by decide +kernel
theorem d2_31 : decode prog_2_method_1_code 31 = .ok (.if_icmp .le 13, 3) := by decide +kernel
theorem d2_44 : decode prog_2_method_1_code 44 = .ok (.aload_n 0, 1) := by decide +kernel
theorem d2_45 : decode prog_2_method_1_code 45 = .ok (.iload_n 1, 1) := by decide +kernel
theorem d2_46 : decode prog_2_method_1_code 46 = .ok (.putfield 19, 3) := by decide +kernel
theorem d2_49 : decode prog_2_method_1_code 49 = .ok (.aload_n 0, 1) := by decide +kernel
theorem d2_50 : decode prog_2_method_1_code 50 = .ok (.iload_n 2, 1) := by decide +kernel
theorem d2_51 : decode prog_2_method_1_code 51 = .ok (.putfield 23, 3) := by decide +kernel
theorem d2_54 : decode prog_2_method_1_code 54 = .ok (.return_, 1) := by decide +kernel
theorem ef_7 (m : MethodId) (x0 : Addr) : entryFrame m #[(.ref x0)] 1 = mkF m 0 #[.val (.ref x0)] [] := by first | (simp [entryFrame, mkF, argsToLocals, Value.category]; done) | rfl
theorem pn_java_lang_Number : plainName "java/lang/Number" = true := by first | (simp [plainName, overriddenIn]; done) | decide +kernel
theorem d7_0 : decode jdk_18_method_1_code 0 = .ok (.aload_n 0, 1) := by decide +kernel
theorem d7_1 : decode jdk_18_method_1_code 1 = .ok (.invokespecial 1, 3) := by decide +kernel
theorem d7_4 : decode jdk_18_method_1_code 4 = .ok (.return_, 1) := by decide +kernel
theorem ef_6 (m : MethodId) (x0 : Addr) (x1 : Int32) : entryFrame m #[(.ref x0), (.int x1)] 2 = mkF m 0 #[.val (.ref x0), .val (.int x1)] [] := by first | (simp [entryFrame, mkF, argsToLocals, Value.category]; done) | rfl
theorem pn_java_lang_Integer : plainName "java/lang/Integer" = true := by first | (simp [plainName, overriddenIn]; done) | decide +kernel
theorem d6_0 : decode jdk_33_method_23_code 0 = .ok (.aload_n 0, 1) := by decide +kernel
theorem d6_1 : decode jdk_33_method_23_code 1 = .ok (.invokespecial 202, 3) := by decide +kernel
theorem pd_0 : parseMethodDescriptor "()V" = some ⟨[], none⟩ := by decide +kernel
theorem d6_4 : decode jdk_33_method_23_code 4 = .ok (.aload_n 0, 1) := by decide +kernel
theorem d6_5 : decode jdk_33_method_23_code 5 = .ok (.iload_n 1, 1) := by decide +kernel
theorem d6_6 : decode jdk_33_method_23_code 6 = .ok (.putfield 205, 3) := by decide +kernel
theorem d6_9 : decode jdk_33_method_23_code 9 = .ok (.return_, 1) := by decide +kernel
theorem ef_4 (m : MethodId) (x0 : Int32) : entryFrame m #[(.int x0)] 1 = mkF m 0 #[.val (.int x0)] [] := by first | (simp [entryFrame, mkF, argsToLocals, Value.category]; done) | rfl
theorem d4_0 : decode jdk_33_method_22_code 0 = .ok (.iload_n 0, 1) := by decide +kernel
theorem d4_1 : decode jdk_33_method_22_code 1 = .ok (.bipush (-128), 2) := by decide +kernel
theorem d4_3 : decode jdk_33_method_22_code 3 = .ok (.if_icmp .lt 20, 3) := by decide +kernel
theorem d4_23 : decode jdk_33_method_22_code 23 = .ok (.new 1, 3) := by decide +kernel
theorem d4_26 : decode jdk_33_method_22_code 26 = .ok (.dup, 1) := by decide +kernel
theorem d4_27 : decode jdk_33_method_22_code 27 = .ok (.iload_n 0, 1) := by decide +kernel
theorem d4_28 : decode jdk_33_method_22_code 28 = .ok (.invokespecial 199, 3) := by decide +kernel
theorem pd_1 : parseMethodDescriptor "(I)V" = some ⟨[.int], none⟩ := by decide +kernel
theorem d4_31 : decode jdk_33_method_22_code 31 = .ok (.areturn, 1) := by decide +kernel
theorem d4_6 : decode jdk_33_method_22_code 6 = .ok (.iload_n 0, 1) := by decide +kernel
theorem d4_7 : decode jdk_33_method_22_code 7 = .ok (.getstatic 191, 3) := by decide +kernel
theorem d4_10 : decode jdk_33_method_22_code 10 = .ok (.if_icmp .gt 13, 3) := by decide +kernel
theorem d4_13 : decode jdk_33_method_22_code 13 = .ok (.getstatic 195, 3) := by decide +kernel
theorem d4_16 : decode jdk_33_method_22_code 16 = .ok (.iload_n 0, 1) := by decide +kernel
theorem d4_17 : decode jdk_33_method_22_code 17 = .ok (.sipush 128, 3) := by decide +kernel
theorem d4_20 : decode jdk_33_method_22_code 20 = .ok (.iadd, 1) := by decide +kernel
theorem d4_21 : decode jdk_33_method_22_code 21 = .ok (.aaload, 1) := by decide +kernel
theorem d4_22 : decode jdk_33_method_22_code 22 = .ok (.areturn, 1) := by decide +kernel
theorem ef_5 (m : MethodId) (x0 : Addr) (x1 : Addr) : entryFrame m #[(.ref x0), (.ref x1)] 2 = mkF m 0 #[.val (.ref x0), .val (.ref x1)] [] := by first | (simp [entryFrame, mkF, argsToLocals, Value.category]; done) | rfl
theorem d5_0 : decode prog_2_method_5_code 0 = .ok (.aload_n 1, 1) := by decide +kernel
theorem d5_1 : decode prog_2_method_5_code 1 = .ok (.instanceof 7, 3) := by decide +kernel
theorem d5_4 : decode prog_2_method_5_code 4 = .ok (.ifCond .eq 35, 3) := by decide +kernel
theorem d5_7 : decode prog_2_method_5_code 7 = .ok (.aload_n 1, 1) := by decide +kernel
theorem d5_8 : decode prog_2_method_5_code 8 = .ok (.checkcast 7, 3) := by decide +kernel
theorem d5_11 : decode prog_2_method_5_code 11 = .ok (.getfield 19, 3) := by decide +kernel
theorem d5_14 : decode prog_2_method_5_code 14 = .ok (.aload_n 0, 1) := by decide +kernel
theorem d5_15 : decode prog_2_method_5_code 15 = .ok (.getfield 19, 3) := by decide +kernel
theorem d5_18 : decode prog_2_method_5_code 18 = .ok (.if_icmp .ne 21, 3) := by decide +kernel
theorem d5_21 : decode prog_2_method_5_code 21 = .ok (.aload_n 1, 1) := by decide +kernel
theorem d5_22 : decode prog_2_method_5_code 22 = .ok (.checkcast 7, 3) := by decide +kernel
theorem d5_25 : decode prog_2_method_5_code 25 = .ok (.getfield 23, 3) := by decide +kernel
theorem d5_28 : decode prog_2_method_5_code 28 = .ok (.aload_n 0, 1) := by decide +kernel
theorem d5_29 : decode prog_2_method_5_code 29 = .ok (.getfield 23, 3) := by decide +kernel
theorem d5_32 : decode prog_2_method_5_code 32 = .ok (.if_icmp .ne 7, 3) := by decide +kernel
theorem d5_35 : decode prog_2_method_5_code 35 = .ok (.iconst 1, 1) := by decide +kernel
theorem d5_36 : decode prog_2_method_5_code 36 = .ok (.goto 4, 3) := by decide +kernel
theorem d5_40 : decode prog_2_method_5_code 40 = .ok (.ireturn, 1) := by decide +kernel
theorem d5_39 : decode prog_2_method_5_code 39 = .ok (.iconst 0, 1) := by decide +kernel
theorem ef_5_vn (m : MethodId) (x0 : Addr) : entryFrame m #[(.ref x0), .null] 2 = mkF m 0 #[.val (.ref x0), .val .null] [] := by first | (simp [entryFrame, mkF, argsToLocals, Value.category]; done) | rfl
theorem ef_0 (m : MethodId) (x0 : Int32) (x1 : Int32) (x2 : Int32) (x3 : Int32) (x4 : Int32) : entryFrame m #[(.int x0), (.int x1), (.int x2), (.int x3), (.int x4)] maxLocals = mkF m 0 #[.val (.int x0), .val (.int x1), .val (.int x2), .val (.int x3), .val (.int x4), .unset, .unset, .unset, .unset, .unset, .unset, .unset, .unset] [] := by first | (simp [entryFrame, mkF, argsToLocals, Value.category, maxLocals]; done) | rfl
theorem pd_2 : parseMethodDescriptor "(I)I" = some ⟨[.int], some .int⟩ := by decide +kernel
theorem pd_3 : parseMethodDescriptor "(II)V" = some ⟨[.int, .int], none⟩ := by decide +kernel
theorem pd_4 : parseMethodDescriptor "(I)Ljava/lang/Integer;" = some ⟨[.int], some (.object "java/lang/Integer")⟩ := by decide +kernel
theorem pd_5 : parseMethodDescriptor "(Ljava/lang/Object;)Z" = some ⟨[(.object "java/lang/Object")], some .boolean⟩ := by decide +kernel
def Q1 (Z : State) (p0 : Int32) (h0 : Heap) (n0 : Nat) (v : Option Value) (h : Heap) (L : List Loc) : Prop := v = some (.int ((p0 &&& (2147483647 : Int32)) % (43201 : Int32))) ∧ Fr n0 L ∧ h = h0
set_option maxRecDepth 65536 in
set_option maxHeartbeats 40000000 in
theorem rm1 (l : Launch) (Z : State) (a0 : Array Value) (hw : ∀ d ∈ tables_1, d.before a0 Z = true) (ws : List Jvm.Cond) (p0 : Int32) (h0 : Heap) (n0 : Nat) (Z0 : n0 ≤ h0.size) :
    MetFree l (⟨"com/example/acker/acker/engine/BackoffEqualsPinLaw", "wait", "(I)I"⟩ : MethodName) (head1 (Jvm.Cond.code (⟨"com/example/acker/acker/engine/BackoffEqualsPinLaw", "wait", "(I)I"⟩ : MethodName) method_2_code 1 (some .int) :: ws) ({ frames := 0, cells := 0, slots := 0, locals := 0 } : Room)) (fun a U => a = #[(.int p0)] ∧ Z.Warmed39 U.vm ∧ U.heap = h0) (fun _ _ _ _ _ => True) (fun _ U o U' => ∃ v L, o = .returned v ∧ Q1 Z p0 h0 n0 v U'.heap L ∧ FrameEnd U o U' L ({ frames := 0, cells := 0, slots := 0, locals := 0 } : Room).cells ({ frames := 0, cells := 0, slots := 0, locals := 0 } : Room).slots) := by
  refine MetFree.of_bodySF (plainFor_of_name pn_com_example_acker_acker_engine_BackoffEqualsPinLaw) hisR ?_
  intro p e s m args below meth c s₁ Bd hml0 hP hK
  obtain ⟨rfl, hZ, hh⟩ := hP
  have hx := Bd.exec
  have hby := Bd.bytes
  have hml : c.maxLocals = 1 := hml0
  have hown : s.vm.findClass "com/example/acker/acker/engine/BackoffEqualsPinLaw" = some m.cls := findClass_of_methodNamed Bd.named
  have hnm := (name_of_methodNamed Bd.named Bd.method).1
  have X0 : Stand p l e ({ frames := 0, cells := 0, slots := 0, locals := 0 } : Room) s m #[(.int p0)] below meth c s₁ [] 0 0 := Stand.of_body Bd
  have e0 : s₁.heap = h0 := by rw [← hh, Bd.state]; rfl
  have N0 := Fr.nil n0
  have pre0 : ∀ t, Steps p.tables e below (s₁.setTop (mkF m 0 #[.val (.int p0)] [])) t → Steps p.tables e below (s₁.setTop (entryFrame m #[(.int p0)] 1)) t := fun t k => castTop (ef_1 m p0) k
  have preS : ∀ t, Steps p.tables e below (s₁.setTop (mkF m 0 #[.val (.int p0)] [])) t → Steps p.tables e below (s₁.setTop (mkF m 0 #[.val (.int p0)] [])) t := fun t k => k
  obtain ⟨fs, hr, hrun, hended, hW, hsame⟩ := X0.leave (v := some (.int ((p0 &&& (2147483647 : Int32)) % (43201 : Int32)))) (fun h => by rw [Bd.returns] at h; cases h)
  refine ⟨_, _, pre0 _ (preS _ ?_), hrun, hended, _, _, rfl, ?_, ⟨_, rfl⟩, hW, hsame.mono (by decide) (by decide)⟩
  · skip
    show Steps p.tables e below (s₁.setTop (mkF m 0 #[.val (.int p0)] [])) _
    refine XS.iloadN X0.here hx rfl (hb hby d1_0) rfl ?_
    show Steps p.tables e below (s₁.setTop (mkF m 1 #[.val (.int p0)] [(.int p0)])) _
    refine X0.ldcInt hx hown (mvT hZ (hw _ (List.mem_of_getElem? (i := 4) rfl))) (g := (mkF m 1 #[.val (.int p0)] [(.int p0)])) rfl (hb hby d1_1) _ ?_
    show Steps p.tables e below (s₁.setTop (mkF m 3 #[.val (.int p0)] [(.int (2147483647 : Int32)), (.int p0)])) _
    refine XS.iand X0.here hx rfl (hb hby d1_3) rfl ?_
    show Steps p.tables e below (s₁.setTop (mkF m 4 #[.val (.int p0)] [(.int (p0 &&& (2147483647 : Int32)))])) _
    refine X0.ldcInt hx hown (mvT hZ (hw _ (List.mem_of_getElem? (i := 5) rfl))) (g := (mkF m 4 #[.val (.int p0)] [(.int (p0 &&& (2147483647 : Int32)))])) rfl (hb hby d1_4) _ ?_
    show Steps p.tables e below (s₁.setTop (mkF m 6 #[.val (.int p0)] [(.int (43201 : Int32)), (.int (p0 &&& (2147483647 : Int32)))])) _
    refine Jvm.RoadKit.iremM (g := (mkF m 6 #[.val (.int p0)] [(.int (43201 : Int32)), (.int (p0 &&& (2147483647 : Int32)))])) X0 hx rfl (hb hby d1_6) rfl (by decide) ?_
    show Steps p.tables e below (s₁.setTop (mkF m 7 #[.val (.int p0)] [(.int ((p0 &&& (2147483647 : Int32)) % (43201 : Int32)))])) _
    exact retI X0 hx Bd.returns (hb hby d1_7) hr
  · show Q1 Z p0 h0 n0 _ s₁.heap _
    rw [e0]
    exact ⟨rfl, N0, rfl⟩
def Q2 (Z : State) (r0 : Addr) (p1 : Int32) (p2 : Int32) (h0 : Heap) (n0 : Nat) (v : Option Value) (h : Heap) (L : List Loc) : Prop := v = none ∧ Fr n0 L ∧ Keep h0 h [r0] ∧ Exa Z h r0 "com/example/acker/acker/engine/Backoff" ∧ Fld Z h r0 "com/example/acker/acker/engine/Backoff" "initialSeconds" "I" (.int p1) ∧ Fld Z h r0 "com/example/acker/acker/engine/Backoff" "maxSeconds" "I" (.int p2)
set_option maxRecDepth 65536 in
set_option maxHeartbeats 40000000 in
theorem rm2 (l : Launch) (Z : State) (a0 : Array Value) (hw : ∀ d ∈ tables_1, d.before a0 Z = true) (ws : List Jvm.Cond) (r0 : Addr) (p1 : Int32) (p2 : Int32) (h0 : Heap) (n0 : Nat) (Z0 : n0 ≤ h0.size) (E_r0 : Exa Z h0 r0 "com/example/acker/acker/engine/Backoff") (F_0 : Fld Z h0 r0 "com/example/acker/acker/engine/Backoff" "initialSeconds" "I" (.int (0 : Int32))) (F_1 : Fld Z h0 r0 "com/example/acker/acker/engine/Backoff" "maxSeconds" "I" (.int (0 : Int32))) (g_r0 : n0 ≤ r0) (hp1 : 0 ≤ p1.toInt ∧ p1.toInt ≤ 43200) (hp2 : 0 ≤ p2.toInt ∧ p2.toInt ≤ 43200) :
    MetFree l (⟨"com/example/acker/acker/engine/Backoff", "<init>", "(II)V"⟩ : MethodName) (head1 (Jvm.Cond.code (⟨"com/example/acker/acker/engine/Backoff", "<init>", "(II)V"⟩ : MethodName) prog_2_method_1_code 3 none :: ws) ({ frames := 1, cells := 0, slots := 0, locals := 12 } : Room)) (fun a U => a = #[(.ref r0), (.int p1), (.int p2)] ∧ Z.Warmed39 U.vm ∧ U.heap = h0) (fun _ _ _ _ _ => True) (fun _ U o U' => ∃ v L, o = .returned v ∧ Q2 Z r0 p1 p2 h0 n0 v U'.heap L ∧ FrameEnd U o U' L ({ frames := 1, cells := 0, slots := 0, locals := 12 } : Room).cells ({ frames := 1, cells := 0, slots := 0, locals := 12 } : Room).slots) := by
  refine MetFree.of_bodySF (plainFor_of_name pn_com_example_acker_acker_engine_Backoff) hisR ?_
  intro p e s m args below meth c s₁ Bd hml0 hP hK
  obtain ⟨rfl, hZ, hh⟩ := hP
  have hx := Bd.exec
  have hby := Bd.bytes
  have hml : c.maxLocals = 3 := hml0
  have hown : s.vm.findClass "com/example/acker/acker/engine/Backoff" = some m.cls := findClass_of_methodNamed Bd.named
  have hnm := (name_of_methodNamed Bd.named Bd.method).1
  have X0 : Stand p l e ({ frames := 1, cells := 0, slots := 0, locals := 12 } : Room) s m #[(.ref r0), (.int p1), (.int p2)] below meth c s₁ [] 0 0 := Stand.of_body Bd
  have e0 : s₁.heap = h0 := by rw [← hh, Bd.state]; rfl
  have N0 := Fr.nil n0
  have pre0 : ∀ t, Steps p.tables e below (s₁.setTop (mkF m 0 #[.val (.ref r0), .val (.int p1), .val (.int p2)] [])) t → Steps p.tables e below (s₁.setTop (entryFrame m #[(.ref r0), (.int p1), (.int p2)] 3)) t := fun t k => castTop (ef_2 m r0 p1 p2) k
  have preS : ∀ t, Steps p.tables e below (s₁.setTop (mkF m 0 #[.val (.ref r0), .val (.int p1), .val (.int p2)] [])) t → Steps p.tables e below (s₁.setTop (mkF m 0 #[.val (.ref r0), .val (.int p1), .val (.int p2)] [])) t := fun t k => k
  have KR : Keep h0 h0 [r0] := Keep.refl _ _
  obtain ⟨T1, X1, e1, st1⟩ := initO X0 hx hZ hown (hw _ (List.mem_of_getElem? (i := 12) rfl)) (hw _ (List.mem_of_getElem? (i := 13) rfl)) (hw _ (List.mem_of_getElem? (i := 14) rfl)) e0 (g := (mkF m 1 #[.val (.ref r0), .val (.int p1), .val (.int p2)] [(.ref r0)])) rfl (by rw [hml]; rfl) rfl (hb hby d2_1) (by decide) (W := 0) (by show 2 * 0 + _ ≤ _; exact Nat.le_of_eq rfl) (by decide)
  have hc2 : ¬ (p1 < (0 : Int32)) := own_nlt.mpr (show 0 ≤ p1.toInt by omega)
  have ohc2 : 0 ≤ p1.toInt := own_nlt.mp hc2
  have hc3 : ¬ ((43200 : Int32) < p1) := own_nlt.mpr (show p1.toInt ≤ 43200 by omega)
  have ohc3 : p1.toInt ≤ 43200 := own_nlt.mp hc3
  have hc4 : ¬ (p2 < (0 : Int32)) := own_nlt.mpr (show 0 ≤ p2.toInt by omega)
  have ohc4 : 0 ≤ p2.toInt := own_nlt.mp hc4
  have hc5 : ¬ ((43200 : Int32) < p2) := own_nlt.mpr (show p2.toInt ≤ 43200 by omega)
  have ohc5 : p2.toInt ≤ 43200 := own_nlt.mp hc5
  obtain ⟨T6, h6, X6, e6, W6, st6⟩ := putF X1 hx hZ hown (host := "") (Or.inl (hw _ (List.mem_of_getElem? (i := 16) rfl))) Via.refl e1 F_0 E_r0 (Or.inr ⟨(hw _ (List.mem_of_getElem? (i := 17) rfl)), rfl, hnm⟩) (hw _ (List.mem_of_getElem? (i := 7) rfl)) (ty := .int) (by decide) rfl rfl (g := (mkF m 46 #[.val (.ref r0), .val (.int p1), .val (.int p2)] [(.int p1), (.ref r0)])) rfl rfl (hb hby d2_46)
  have Fw6 : Fld Z h6 r0 "com/example/acker/acker/engine/Backoff" "initialSeconds" "I" (.int p1) := F_0.same W6
  have N6 := Fr.snoc X6 N0 g_r0
  have Z6 : n0 ≤ h6.size := Nat.le_trans Z0 (Keep.of_wr W6).1
  have K6 : Keep h0 h6 [r0] := KR.wr W6 (Or.inl (List.mem_of_getElem? (i := 0) rfl))
  have c7 : Exa Z h6 r0 "com/example/acker/acker/engine/Backoff" := E_r0.wr W6
  have c8 : Fld Z h6 r0 "com/example/acker/acker/engine/Backoff" "maxSeconds" "I" (.int (0 : Int32)) := F_1.other W6 (Or.inr (slot_ne (Or.inr (hw _ (List.mem_of_getElem? (i := 19) rfl))) (Or.inr (hw _ (List.mem_of_getElem? (i := 17) rfl))) (by decide) (t := .int) (t' := .int) (by decide) (by decide)))
  obtain ⟨T9, h9, X9, e9, W9, st9⟩ := putF X6 hx hZ hown (host := "") (Or.inl (hw _ (List.mem_of_getElem? (i := 18) rfl))) Via.refl e6 c8 c7 (Or.inr ⟨(hw _ (List.mem_of_getElem? (i := 19) rfl)), rfl, hnm⟩) (hw _ (List.mem_of_getElem? (i := 7) rfl)) (ty := .int) (by decide) rfl rfl (g := (mkF m 51 #[.val (.ref r0), .val (.int p1), .val (.int p2)] [(.int p2), (.ref r0)])) rfl rfl (hb hby d2_51)
  have Fw9 : Fld Z h9 r0 "com/example/acker/acker/engine/Backoff" "maxSeconds" "I" (.int p2) := c8.same W9
  have N9 := Fr.snoc X9 N6 g_r0
  have Z9 : n0 ≤ h9.size := Nat.le_trans Z6 (Keep.of_wr W9).1
  have K9 : Keep h0 h9 [r0] := K6.wr W9 (Or.inl (List.mem_of_getElem? (i := 0) rfl))
  have c10 : Exa Z h9 r0 "com/example/acker/acker/engine/Backoff" := c7.wr W9
  have c11 : Fld Z h9 r0 "com/example/acker/acker/engine/Backoff" "initialSeconds" "I" (.int p1) := Fw6.other W9 (Or.inr (slot_ne (Or.inr (hw _ (List.mem_of_getElem? (i := 17) rfl))) (Or.inr (hw _ (List.mem_of_getElem? (i := 19) rfl))) (by decide) (t := .int) (t' := .int) (by decide) (by decide)))
  obtain ⟨fs, hr, hrun, hended, hW, hsame⟩ := X9.leave (v := none) (fun _ => rfl)
  refine ⟨_, _, pre0 _ (preS _ ?_), hrun, hended, _, _, rfl, ?_, ⟨_, rfl⟩, hW, hsame.mono (by decide) (by decide)⟩
  · skip
    show Steps p.tables e below (s₁.setTop (mkF m 0 #[.val (.ref r0), .val (.int p1), .val (.int p2)] [])) _
    refine XS.aloadN X0.here hx rfl (hb hby d2_0) rfl rfl ?_
    show Steps p.tables e below (s₁.setTop (mkF m 1 #[.val (.ref r0), .val (.int p1), .val (.int p2)] [(.ref r0)])) _
    refine st1 _ ?_
    show Steps p.tables e below (T1.setTop (mkF m 4 #[.val (.ref r0), .val (.int p1), .val (.int p2)] [])) _
    refine XS.iloadN X1.here hx rfl (hb hby d2_4) rfl ?_
    show Steps p.tables e below (T1.setTop (mkF m 5 #[.val (.ref r0), .val (.int p1), .val (.int p2)] [(.int p1)])) _
    refine XS.ifNo X1.here hx rfl (hb hby d2_5) rfl ((if0 _ _).trans (flt hc2).1) ?_
    show Steps p.tables e below (T1.setTop (mkF m 8 #[.val (.ref r0), .val (.int p1), .val (.int p2)] [])) _
    refine XS.iloadN X1.here hx rfl (hb hby d2_8) rfl ?_
    show Steps p.tables e below (T1.setTop (mkF m 9 #[.val (.ref r0), .val (.int p1), .val (.int p2)] [(.int p1)])) _
    refine X1.ldcInt hx hown (mvT hZ (hw _ (List.mem_of_getElem? (i := 15) rfl))) (g := (mkF m 9 #[.val (.ref r0), .val (.int p1), .val (.int p2)] [(.int p1)])) rfl (hb hby d2_9) _ ?_
    show Steps p.tables e below (T1.setTop (mkF m 11 #[.val (.ref r0), .val (.int p1), .val (.int p2)] [(.int (43200 : Int32)), (.int p1)])) _
    refine XS.icmpYes X1.here hx rfl (pc0 := 11) (pc' := 24) rfl (hb hby d2_11) rfl (flt hc3).2.2.2 (by decide) (by decide) ?_
    show Steps p.tables e below (T1.setTop (mkF m 24 #[.val (.ref r0), .val (.int p1), .val (.int p2)] [])) _
    refine XS.iloadN X1.here hx rfl (hb hby d2_24) rfl ?_
    show Steps p.tables e below (T1.setTop (mkF m 25 #[.val (.ref r0), .val (.int p1), .val (.int p2)] [(.int p2)])) _
    refine XS.ifNo X1.here hx rfl (hb hby d2_25) rfl ((if0 _ _).trans (flt hc4).1) ?_
    show Steps p.tables e below (T1.setTop (mkF m 28 #[.val (.ref r0), .val (.int p1), .val (.int p2)] [])) _
    refine XS.iloadN X1.here hx rfl (hb hby d2_28) rfl ?_
    show Steps p.tables e below (T1.setTop (mkF m 29 #[.val (.ref r0), .val (.int p1), .val (.int p2)] [(.int p2)])) _
    refine X1.ldcInt hx hown (mvT hZ (hw _ (List.mem_of_getElem? (i := 15) rfl))) (g := (mkF m 29 #[.val (.ref r0), .val (.int p1), .val (.int p2)] [(.int p2)])) rfl (hb hby d2_29) _ ?_
    show Steps p.tables e below (T1.setTop (mkF m 31 #[.val (.ref r0), .val (.int p1), .val (.int p2)] [(.int (43200 : Int32)), (.int p2)])) _
    refine XS.icmpYes X1.here hx rfl (pc0 := 31) (pc' := 44) rfl (hb hby d2_31) rfl (flt hc5).2.2.2 (by decide) (by decide) ?_
    show Steps p.tables e below (T1.setTop (mkF m 44 #[.val (.ref r0), .val (.int p1), .val (.int p2)] [])) _
    refine XS.aloadN X1.here hx rfl (hb hby d2_44) rfl rfl ?_
    show Steps p.tables e below (T1.setTop (mkF m 45 #[.val (.ref r0), .val (.int p1), .val (.int p2)] [(.ref r0)])) _
    refine XS.iloadN X1.here hx rfl (hb hby d2_45) rfl ?_
    show Steps p.tables e below (T1.setTop (mkF m 46 #[.val (.ref r0), .val (.int p1), .val (.int p2)] [(.int p1), (.ref r0)])) _
    refine st6 _ ?_
    show Steps p.tables e below (T6.setTop (mkF m 49 #[.val (.ref r0), .val (.int p1), .val (.int p2)] [])) _
    refine XS.aloadN X6.here hx rfl (hb hby d2_49) rfl rfl ?_
    show Steps p.tables e below (T6.setTop (mkF m 50 #[.val (.ref r0), .val (.int p1), .val (.int p2)] [(.ref r0)])) _
    refine XS.iloadN X6.here hx rfl (hb hby d2_50) rfl ?_
    show Steps p.tables e below (T6.setTop (mkF m 51 #[.val (.ref r0), .val (.int p1), .val (.int p2)] [(.int p2), (.ref r0)])) _
    refine st9 _ ?_
    show Steps p.tables e below (T9.setTop (mkF m 54 #[.val (.ref r0), .val (.int p1), .val (.int p2)] [])) _
    exact X9.returnOut hx Bd.returns (hb hby d2_54) hr
  · show Q2 Z r0 p1 p2 h0 n0 _ T9.heap _
    rw [e9]
    exact ⟨rfl, N9, K9, c10, c11, Fw9⟩
def Q7 (Z : State) (r0 : Addr) (h0 : Heap) (n0 : Nat) (v : Option Value) (h : Heap) (L : List Loc) : Prop := v = none ∧ Fr n0 L ∧ h = h0
set_option maxRecDepth 65536 in
set_option maxHeartbeats 40000000 in
theorem rm7 (l : Launch) (Z : State) (a0 : Array Value) (hw : ∀ d ∈ tables_1, d.before a0 Z = true) (ws : List Jvm.Cond) (r0 : Addr) (h0 : Heap) (n0 : Nat) (Z0 : n0 ≤ h0.size) :
    MetFree l (⟨"java/lang/Number", "<init>", "()V"⟩ : MethodName) (head1 (Jvm.Cond.code (⟨"java/lang/Number", "<init>", "()V"⟩ : MethodName) jdk_18_method_1_code 1 none :: ws) ({ frames := 1, cells := 0, slots := 0, locals := 12 } : Room)) (fun a U => a = #[(.ref r0)] ∧ Z.Warmed39 U.vm ∧ U.heap = h0) (fun _ _ _ _ _ => True) (fun _ U o U' => ∃ v L, o = .returned v ∧ Q7 Z r0 h0 n0 v U'.heap L ∧ FrameEnd U o U' L ({ frames := 1, cells := 0, slots := 0, locals := 12 } : Room).cells ({ frames := 1, cells := 0, slots := 0, locals := 12 } : Room).slots) := by
  refine MetFree.of_bodySF (plainFor_of_name pn_java_lang_Number) hisR ?_
  intro p e s m args below meth c s₁ Bd hml0 hP hK
  obtain ⟨rfl, hZ, hh⟩ := hP
  have hx := Bd.exec
  have hby := Bd.bytes
  have hml : c.maxLocals = 1 := hml0
  have hown : s.vm.findClass "java/lang/Number" = some m.cls := findClass_of_methodNamed Bd.named
  have hnm := (name_of_methodNamed Bd.named Bd.method).1
  have X0 : Stand p l e ({ frames := 1, cells := 0, slots := 0, locals := 12 } : Room) s m #[(.ref r0)] below meth c s₁ [] 0 0 := Stand.of_body Bd
  have e0 : s₁.heap = h0 := by rw [← hh, Bd.state]; rfl
  have N0 := Fr.nil n0
  have pre0 : ∀ t, Steps p.tables e below (s₁.setTop (mkF m 0 #[.val (.ref r0)] [])) t → Steps p.tables e below (s₁.setTop (entryFrame m #[(.ref r0)] 1)) t := fun t k => castTop (ef_7 m r0) k
  have preS : ∀ t, Steps p.tables e below (s₁.setTop (mkF m 0 #[.val (.ref r0)] [])) t → Steps p.tables e below (s₁.setTop (mkF m 0 #[.val (.ref r0)] [])) t := fun t k => k
  obtain ⟨T1, X1, e1, st1⟩ := initO X0 hx hZ hown (hw _ (List.mem_of_getElem? (i := 49) rfl)) (hw _ (List.mem_of_getElem? (i := 13) rfl)) (hw _ (List.mem_of_getElem? (i := 14) rfl)) e0 (g := (mkF m 1 #[.val (.ref r0)] [(.ref r0)])) rfl (by rw [hml]; rfl) rfl (hb hby d7_1) (by decide) (W := 0) (by show 2 * 0 + _ ≤ _; exact Nat.le_of_eq rfl) (by decide)
  obtain ⟨fs, hr, hrun, hended, hW, hsame⟩ := X1.leave (v := none) (fun _ => rfl)
  refine ⟨_, _, pre0 _ (preS _ ?_), hrun, hended, _, _, rfl, ?_, ⟨_, rfl⟩, hW, hsame.mono (by decide) (by decide)⟩
  · skip
    show Steps p.tables e below (s₁.setTop (mkF m 0 #[.val (.ref r0)] [])) _
    refine XS.aloadN X0.here hx rfl (hb hby d7_0) rfl rfl ?_
    show Steps p.tables e below (s₁.setTop (mkF m 1 #[.val (.ref r0)] [(.ref r0)])) _
    refine st1 _ ?_
    show Steps p.tables e below (T1.setTop (mkF m 4 #[.val (.ref r0)] [])) _
    exact X1.returnOut hx Bd.returns (hb hby d7_4) hr
  · show Q7 Z r0 h0 n0 _ T1.heap _
    rw [e1]
    exact ⟨rfl, N0, rfl⟩
def Q6 (Z : State) (r0 : Addr) (p1 : Int32) (h0 : Heap) (n0 : Nat) (v : Option Value) (h : Heap) (L : List Loc) : Prop := v = none ∧ Fr n0 L ∧ Keep h0 h [r0] ∧ Exa Z h r0 "java/lang/Integer" ∧ Fld Z h r0 "java/lang/Integer" "value" "I" (.int p1)
set_option maxRecDepth 65536 in
set_option maxHeartbeats 40000000 in
theorem rm6 (l : Launch) (Z : State) (a0 : Array Value) (hw : ∀ d ∈ tables_1, d.before a0 Z = true) (ws : List Jvm.Cond) (r0 : Addr) (p1 : Int32) (h0 : Heap) (n0 : Nat) (Z0 : n0 ≤ h0.size) (E_r0 : Exa Z h0 r0 "java/lang/Integer") (F_0 : Fld Z h0 r0 "java/lang/Integer" "value" "I" (.int (0 : Int32))) (g_r0 : n0 ≤ r0) :
    MetFree l (⟨"java/lang/Integer", "<init>", "(I)V"⟩ : MethodName) (head1 (Jvm.Cond.code (⟨"java/lang/Integer", "<init>", "(I)V"⟩ : MethodName) jdk_33_method_23_code 2 none :: ws) ({ frames := 2, cells := 0, slots := 0, locals := 24 } : Room)) (fun a U => a = #[(.ref r0), (.int p1)] ∧ Z.Warmed39 U.vm ∧ U.heap = h0) (fun _ _ _ _ _ => True) (fun _ U o U' => ∃ v L, o = .returned v ∧ Q6 Z r0 p1 h0 n0 v U'.heap L ∧ FrameEnd U o U' L ({ frames := 2, cells := 0, slots := 0, locals := 24 } : Room).cells ({ frames := 2, cells := 0, slots := 0, locals := 24 } : Room).slots) := by
  refine MetFree.of_bodySF (plainFor_of_name pn_java_lang_Integer) hisR ?_
  intro p e s m args below meth c s₁ Bd hml0 hP hK
  obtain ⟨rfl, hZ, hh⟩ := hP
  have hx := Bd.exec
  have hby := Bd.bytes
  have hml : c.maxLocals = 2 := hml0
  have hown : s.vm.findClass "java/lang/Integer" = some m.cls := findClass_of_methodNamed Bd.named
  have hnm := (name_of_methodNamed Bd.named Bd.method).1
  have X0 : Stand p l e ({ frames := 2, cells := 0, slots := 0, locals := 24 } : Room) s m #[(.ref r0), (.int p1)] below meth c s₁ [] 0 0 := Stand.of_body Bd
  have e0 : s₁.heap = h0 := by rw [← hh, Bd.state]; rfl
  have N0 := Fr.nil n0
  have pre0 : ∀ t, Steps p.tables e below (s₁.setTop (mkF m 0 #[.val (.ref r0), .val (.int p1)] [])) t → Steps p.tables e below (s₁.setTop (entryFrame m #[(.ref r0), (.int p1)] 2)) t := fun t k => castTop (ef_6 m r0 p1) k
  have preS : ∀ t, Steps p.tables e below (s₁.setTop (mkF m 0 #[.val (.ref r0), .val (.int p1)] [])) t → Steps p.tables e below (s₁.setTop (mkF m 0 #[.val (.ref r0), .val (.int p1)] [])) t := fun t k => k
  have KR : Keep h0 h0 [r0] := Keep.refl _ _
  obtain ⟨_, _, ⟨T1, L1, k1, n1⟩, -, X1, ⟨Lc1, hQ1, l1, y1, z1⟩, st1⟩ := X0.specialBack hx (y := (⟨"java/lang/Number", "<init>", "()V"⟩ : MethodName)) rfl hown (mvT hZ (hw _ (List.mem_of_getElem? (i := 43) rfl))) (mvT hZ (hw _ (List.mem_of_getElem? (i := 44) rfl))) (mvT hZ (hw _ (List.mem_of_getElem? (i := 48) rfl))) (by decide) (backOf (W := 0) (rm7 l Z a0 hw [] r0  h0 n0 Z0 ) hZ (hw _ (List.mem_of_getElem? (i := 48) rfl)) (hw _ (List.mem_of_getElem? (i := 47) rfl)) (by decide) (by decide)) (g := (mkF m 1 #[.val (.ref r0), .val (.int p1)] [(.ref r0)])) rfl (by rw [hml]; rfl) (Steps.refl _) (a := r0) (argsL := []) (rest := []) (lenOf pd_0 rfl) rfl (by show 2 * 0 + _ ≤ _; exact Nat.le_of_eq rfl) (hb hby d6_1) (fun _ _ => ⟨rfl, e0, (by decide : 0 + 0 ≤ _), (by decide : 0 + 0 ≤ _)⟩)
  dsimp only [Pt.U, Pt.locs, Pt.cells, Pt.slots] at X1 l1 y1 z1 st1 hQ1
  subst l1 y1 z1
  obtain ⟨rfl, Nq1, e1⟩ := hQ1
  have N1 := Fr.app N0 Nq1
  obtain ⟨T2, h2, X2, e2, W2, st2⟩ := putF X1 hx hZ hown (host := "") (Or.inl (hw _ (List.mem_of_getElem? (i := 50) rfl))) Via.refl e1 F_0 E_r0 (Or.inr ⟨(hw _ (List.mem_of_getElem? (i := 51) rfl)), rfl, hnm⟩) (hw _ (List.mem_of_getElem? (i := 38) rfl)) (ty := .int) (by decide) rfl rfl (g := (mkF m 6 #[.val (.ref r0), .val (.int p1)] [(.int p1), (.ref r0)])) rfl rfl (hb hby d6_6)
  have Fw2 : Fld Z h2 r0 "java/lang/Integer" "value" "I" (.int p1) := F_0.same W2
  have N2 := Fr.snoc X2 N1 g_r0
  have Z2 : n0 ≤ h2.size := Nat.le_trans Z0 (Keep.of_wr W2).1
  have K2 : Keep h0 h2 [r0] := KR.wr W2 (Or.inl (List.mem_of_getElem? (i := 0) rfl))
  have c3 : Exa Z h2 r0 "java/lang/Integer" := E_r0.wr W2
  obtain ⟨fs, hr, hrun, hended, hW, hsame⟩ := X2.leave (v := none) (fun _ => rfl)
  refine ⟨_, _, pre0 _ (preS _ ?_), hrun, hended, _, _, rfl, ?_, ⟨_, rfl⟩, hW, hsame.mono (by decide) (by decide)⟩
  · skip
    show Steps p.tables e below (s₁.setTop (mkF m 0 #[.val (.ref r0), .val (.int p1)] [])) _
    refine XS.aloadN X0.here hx rfl (hb hby d6_0) rfl rfl ?_
    show Steps p.tables e below (s₁.setTop (mkF m 1 #[.val (.ref r0), .val (.int p1)] [(.ref r0)])) _
    refine st1.trans ?_
    show Steps p.tables e below (T1.setTop (mkF m 4 #[.val (.ref r0), .val (.int p1)] [])) _
    refine XS.aloadN X1.here hx rfl (hb hby d6_4) rfl rfl ?_
    show Steps p.tables e below (T1.setTop (mkF m 5 #[.val (.ref r0), .val (.int p1)] [(.ref r0)])) _
    refine XS.iloadN X1.here hx rfl (hb hby d6_5) rfl ?_
    show Steps p.tables e below (T1.setTop (mkF m 6 #[.val (.ref r0), .val (.int p1)] [(.int p1), (.ref r0)])) _
    refine st2 _ ?_
    show Steps p.tables e below (T2.setTop (mkF m 9 #[.val (.ref r0), .val (.int p1)] [])) _
    exact X2.returnOut hx Bd.returns (hb hby d6_9) hr
  · show Q6 Z r0 p1 h0 n0 _ T2.heap _
    rw [e2]
    exact ⟨rfl, N2, K2, c3, Fw2⟩
def Q4 (Z : State) (p0 : Int32) (wc : Addr) (cl : Cell) (h0 : Heap) (n0 : Nat) (v : Option Value) (h : Heap) (L : List Loc) : Prop := ∃ b : Addr, v = some (.ref b) ∧ Fr n0 L ∧ Keep h0 h [] ∧ Exa Z h b "java/lang/Integer"
set_option maxRecDepth 65536 in
set_option maxHeartbeats 40000000 in
theorem rm4 (l : Launch) (Z : State) (a0 : Array Value) (hw : ∀ d ∈ tables_1, d.before a0 Z = true) (ws : List Jvm.Cond) (p0 : Int32) (wc : Addr) (cl : Cell) (h0 : Heap) (n0 : Nat) (Z0 : n0 ≤ h0.size) (S_h : Sta Z h0 "java/lang/Integer$IntegerCache" "high" "I" (.int (127 : Int32))) (S_c : Sta Z h0 "java/lang/Integer$IntegerCache" "cache" "[Ljava/lang/Integer;" (.ref wc)) (AR : Arr Z h0 wc cl (.object "java/lang/Integer")) (SZ : cl.slots.size = 256) (HE : ∀ j : Int32, ¬ (j < 0 ∨ cl.slots.size ≤ j.toNatClampNeg) → ∃ b : Addr, cl.slots[j.toNatClampNeg]? = some (.ref b) ∧ Exa Z h0 b "java/lang/Integer") :
    MetFree l (⟨"java/lang/Integer", "valueOf", "(I)Ljava/lang/Integer;"⟩ : MethodName) (head1 (Jvm.Cond.code (⟨"java/lang/Integer", "valueOf", "(I)Ljava/lang/Integer;"⟩ : MethodName) jdk_33_method_22_code 1 (some (.object "java/lang/Integer")) :: ws) ({ frames := 3, cells := 1, slots := 1, locals := 38 } : Room)) (fun a U => a = #[(.int p0)] ∧ Z.Warmed39 U.vm ∧ U.heap = h0) (fun _ _ _ _ _ => True) (fun _ U o U' => ∃ v L, o = .returned v ∧ Q4 Z p0 wc cl h0 n0 v U'.heap L ∧ FrameEnd U o U' L ({ frames := 3, cells := 1, slots := 1, locals := 38 } : Room).cells ({ frames := 3, cells := 1, slots := 1, locals := 38 } : Room).slots) := by
  refine MetFree.of_bodySF (plainFor_of_name pn_java_lang_Integer) hisR ?_
  intro p e s m args below meth c s₁ Bd hml0 hP hK
  obtain ⟨rfl, hZ, hh⟩ := hP
  have hx := Bd.exec
  have hby := Bd.bytes
  have hml : c.maxLocals = 1 := hml0
  have hown : s.vm.findClass "java/lang/Integer" = some m.cls := findClass_of_methodNamed Bd.named
  have hnm := (name_of_methodNamed Bd.named Bd.method).1
  have X0 : Stand p l e ({ frames := 3, cells := 1, slots := 1, locals := 38 } : Room) s m #[(.int p0)] below meth c s₁ [] 0 0 := Stand.of_body Bd
  have e0 : s₁.heap = h0 := by rw [← hh, Bd.state]; rfl
  have N0 := Fr.nil n0
  have pre0 : ∀ t, Steps p.tables e below (s₁.setTop (mkF m 0 #[.val (.int p0)] [])) t → Steps p.tables e below (s₁.setTop (entryFrame m #[(.int p0)] 1)) t := fun t k => castTop (ef_4 m p0) k
  have preS : ∀ t, Steps p.tables e below (s₁.setTop (mkF m 0 #[.val (.int p0)] [])) t → Steps p.tables e below (s₁.setTop (mkF m 0 #[.val (.int p0)] [])) t := fun t k => k
  have KR : Keep h0 h0 [] := Keep.refl _ _
  have pre2 : ∀ t, Steps p.tables e below (s₁.setTop (mkF m 3 #[.val (.int p0)] [(.int (-128 : Int32)), (.int p0)])) t → Steps p.tables e below (s₁.setTop (mkF m 0 #[.val (.int p0)] [])) t := fun t k => preS t (by
    show Steps p.tables e below (s₁.setTop (mkF m 0 #[.val (.int p0)] [])) _
    refine XS.iloadN X0.here hx rfl (hb hby d4_0) rfl ?_
    show Steps p.tables e below (s₁.setTop (mkF m 1 #[.val (.int p0)] [(.int p0)])) _
    refine XS.bipush X0.here hx rfl (hb hby d4_1) ?_
    exact k)
  by_cases hc1 : p0 < (-128 : Int32)
  · skip
    have ohc1 : p0.toInt < (-128) := own_lt.mp hc1
    obtain ⟨T3, h3, X3, e3, E3, A3, D3, -, st3⟩ := newO X0 hx hZ hown (hw _ (List.mem_of_getElem? (i := 37) rfl)) (hw _ (List.mem_of_getElem? (i := 38) rfl)) (hw _ (List.mem_of_getElem? (i := 22) rfl)) e0 (g := (mkF m 23 #[.val (.int p0)] [])) rfl (hb hby d4_23) (by decide) (by decide)
    obtain ⟨b3, g3⟩ : ∃ z, z = h0.size := ⟨_, rfl⟩
    rw [← g3] at A3 D3 st3
    have g_b3 : n0 ≤ b3 := Nat.le_trans Z0 (Nat.le_of_eq g3.symm)
    skip
    have Z3 : n0 ≤ h3.size := Nat.le_trans Z0 E3.1
    have K3 : Keep h0 h3 [] := KR.ext E3
    have sz_b3 : h0.size ≤ b3 := Nat.le_trans KR.1 (Nat.le_of_eq g3.symm)
    have c4 : Sta Z h3 "java/lang/Integer$IntegerCache" "high" "I" (.int (127 : Int32)) := S_h.ext E3
    have c5 : Sta Z h3 "java/lang/Integer$IntegerCache" "cache" "[Ljava/lang/Integer;" (.ref wc) := S_c.ext E3
    have F3_value : Fld Z h3 b3 "java/lang/Integer" "value" "I" (.int (0 : Int32)) := D3 (Or.inr (hw _ (List.mem_of_getElem? (i := 51) rfl))) (ty := .int) (by decide)
    obtain ⟨_, _, ⟨T6, L6, k6, n6⟩, -, X6, ⟨Lc6, hQ6, l6, y6, z6⟩, st6⟩ := X3.specialBack hx (y := (⟨"java/lang/Integer", "<init>", "(I)V"⟩ : MethodName)) rfl hown (mvT hZ (hw _ (List.mem_of_getElem? (i := 39) rfl))) (mvT hZ (hw _ (List.mem_of_getElem? (i := 40) rfl))) (mvT hZ (hw _ (List.mem_of_getElem? (i := 42) rfl))) (by decide) (backOf (W := 1) (rm6 l Z a0 hw [] b3 p0 h3 n0 Z3 A3 F3_value g_b3 ) hZ (hw _ (List.mem_of_getElem? (i := 42) rfl)) (hw _ (List.mem_of_getElem? (i := 22) rfl)) (by decide) (by decide)) (g := (mkF m 28 #[.val (.int p0)] [(.int p0), (.ref b3), (.ref b3)])) rfl (by rw [hml]; rfl) (Steps.refl _) (a := b3) (argsL := [(.int p0)]) (rest := [(.ref b3)]) (lenOf pd_1 rfl) rfl (by show 2 * 0 + _ ≤ _; exact Nat.le_of_eq rfl) (hb hby d4_28) (fun _ _ => ⟨rfl, e3, (by decide : 1 + 0 ≤ _), (by decide : 1 + 0 ≤ _)⟩)
    dsimp only [Pt.U, Pt.locs, Pt.cells, Pt.slots] at X6 l6 y6 z6 st6 hQ6
    subst l6 y6 z6
    obtain ⟨rfl, Nq6, Kq6, Eq6, Fq6_0⟩ := hQ6
    have N6 := Fr.app N0 Nq6
    have Z6 : n0 ≤ T6.heap.size := Nat.le_trans Z3 Kq6.1
    have K6 : Keep h0 T6.heap [] := K3.trans Kq6 (fun x hx => by cases List.mem_singleton.mp hx; exact (Or.inr sz_b3))
    have c7 : Sta Z T6.heap "java/lang/Integer$IntegerCache" "high" "I" (.int (127 : Int32)) := own_sk c4 Kq6 A3
    have c8 : Sta Z T6.heap "java/lang/Integer$IntegerCache" "cache" "[Ljava/lang/Integer;" (.ref wc) := own_sk c5 Kq6 A3
    obtain ⟨fs, hr, hrun, hended, hW, hsame⟩ := X6.leave (v := some (.ref b3)) (fun h => by rw [Bd.returns] at h; cases h)
    refine ⟨_, _, pre0 _ (pre2 _ ?_), hrun, hended, _, _, rfl, ?_, ⟨_, rfl⟩, hW, hsame.mono (by decide) (by decide)⟩
    · skip
      show Steps p.tables e below (s₁.setTop (mkF m 3 #[.val (.int p0)] [(.int (-128 : Int32)), (.int p0)])) _
      refine XS.icmpYes X0.here hx rfl (pc0 := 3) (pc' := 23) rfl (hb hby d4_3) rfl (tlt hc1).1 (by decide) (by decide) ?_
      show Steps p.tables e below (s₁.setTop (mkF m 23 #[.val (.int p0)] [])) _
      refine st3 _ ?_
      show Steps p.tables e below (T3.setTop (mkF m 26 #[.val (.int p0)] [(.ref b3)])) _
      refine XS.dup X3.here hx rfl (hb hby d4_26) rfl rfl ?_
      show Steps p.tables e below (T3.setTop (mkF m 27 #[.val (.int p0)] [(.ref b3), (.ref b3)])) _
      refine XS.iloadN X3.here hx rfl (hb hby d4_27) rfl ?_
      show Steps p.tables e below (T3.setTop (mkF m 28 #[.val (.int p0)] [(.int p0), (.ref b3), (.ref b3)])) _
      refine st6.trans ?_
      show Steps p.tables e below (T6.setTop (mkF m 31 #[.val (.int p0)] [(.ref b3)])) _
      jvm_step X6.here [X6.here.top, hx, (hb hby d4_31), X6.method', Bd.returns, Value.isRef, FieldType.isReference]
      first | (intro acts; rw [hr _ acts rfl rfl rfl]) | rw [hr _ _ rfl rfl rfl]
      exact Steps.refl _
    · show Q4 Z p0 wc cl h0 n0 _ T6.heap _
      exact ⟨b3, rfl, N6, K6, Eq6⟩
  · skip
    have ohc1 : (-128) ≤ p0.toInt := own_nlt.mp hc1
    obtain ⟨T9, X9, e9, st9⟩ := getS2 X0 hx hZ hown (host := "") (Or.inl (hw _ (List.mem_of_getElem? (i := 24) rfl))) Via.refl e0 S_h (g := (mkF m 7 #[.val (.int p0)] [(.int p0)])) rfl (hb hby d4_7)
    have pre11 : ∀ t, Steps p.tables e below (T9.setTop (mkF m 10 #[.val (.int p0)] [(.int (127 : Int32)), (.int p0)])) t → Steps p.tables e below (s₁.setTop (mkF m 0 #[.val (.int p0)] [])) t := fun t k => pre2 t (by
      show Steps p.tables e below (s₁.setTop (mkF m 3 #[.val (.int p0)] [(.int (-128 : Int32)), (.int p0)])) _
      refine XS.icmpNo X0.here hx rfl (hb hby d4_3) rfl (flt hc1).1 ?_
      show Steps p.tables e below (s₁.setTop (mkF m 6 #[.val (.int p0)] [])) _
      refine XS.iloadN X0.here hx rfl (hb hby d4_6) rfl ?_
      show Steps p.tables e below (s₁.setTop (mkF m 7 #[.val (.int p0)] [(.int p0)])) _
      refine st9 _ ?_
      exact k)
    by_cases hc10 : (127 : Int32) < p0
    · skip
      have ohc10 : 127 < p0.toInt := own_lt.mp hc10
      obtain ⟨T12, h12, X12, e12, E12, A12, D12, -, st12⟩ := newO X9 hx hZ hown (hw _ (List.mem_of_getElem? (i := 37) rfl)) (hw _ (List.mem_of_getElem? (i := 38) rfl)) (hw _ (List.mem_of_getElem? (i := 22) rfl)) e9 (g := (mkF m 23 #[.val (.int p0)] [])) rfl (hb hby d4_23) (by decide) (by decide)
      obtain ⟨b12, g12⟩ : ∃ z, z = h0.size := ⟨_, rfl⟩
      rw [← g12] at A12 D12 st12
      have g_b12 : n0 ≤ b12 := Nat.le_trans Z0 (Nat.le_of_eq g12.symm)
      skip
      have Z12 : n0 ≤ h12.size := Nat.le_trans Z0 E12.1
      have K12 : Keep h0 h12 [] := KR.ext E12
      have sz_b12 : h0.size ≤ b12 := Nat.le_trans KR.1 (Nat.le_of_eq g12.symm)
      have c13 : Sta Z h12 "java/lang/Integer$IntegerCache" "high" "I" (.int (127 : Int32)) := S_h.ext E12
      have c14 : Sta Z h12 "java/lang/Integer$IntegerCache" "cache" "[Ljava/lang/Integer;" (.ref wc) := S_c.ext E12
      have F12_value : Fld Z h12 b12 "java/lang/Integer" "value" "I" (.int (0 : Int32)) := D12 (Or.inr (hw _ (List.mem_of_getElem? (i := 51) rfl))) (ty := .int) (by decide)
      obtain ⟨_, _, ⟨T15, L15, k15, n15⟩, -, X15, ⟨Lc15, hQ15, l15, y15, z15⟩, st15⟩ := X12.specialBack hx (y := (⟨"java/lang/Integer", "<init>", "(I)V"⟩ : MethodName)) rfl hown (mvT hZ (hw _ (List.mem_of_getElem? (i := 39) rfl))) (mvT hZ (hw _ (List.mem_of_getElem? (i := 40) rfl))) (mvT hZ (hw _ (List.mem_of_getElem? (i := 42) rfl))) (by decide) (backOf (W := 1) (rm6 l Z a0 hw [] b12 p0 h12 n0 Z12 A12 F12_value g_b12 ) hZ (hw _ (List.mem_of_getElem? (i := 42) rfl)) (hw _ (List.mem_of_getElem? (i := 22) rfl)) (by decide) (by decide)) (g := (mkF m 28 #[.val (.int p0)] [(.int p0), (.ref b12), (.ref b12)])) rfl (by rw [hml]; rfl) (Steps.refl _) (a := b12) (argsL := [(.int p0)]) (rest := [(.ref b12)]) (lenOf pd_1 rfl) rfl (by show 2 * 0 + _ ≤ _; exact Nat.le_of_eq rfl) (hb hby d4_28) (fun _ _ => ⟨rfl, e12, (by decide : 1 + 0 ≤ _), (by decide : 1 + 0 ≤ _)⟩)
      dsimp only [Pt.U, Pt.locs, Pt.cells, Pt.slots] at X15 l15 y15 z15 st15 hQ15
      subst l15 y15 z15
      obtain ⟨rfl, Nq15, Kq15, Eq15, Fq15_0⟩ := hQ15
      have N15 := Fr.app N0 Nq15
      have Z15 : n0 ≤ T15.heap.size := Nat.le_trans Z12 Kq15.1
      have K15 : Keep h0 T15.heap [] := K12.trans Kq15 (fun x hx => by cases List.mem_singleton.mp hx; exact (Or.inr sz_b12))
      have c16 : Sta Z T15.heap "java/lang/Integer$IntegerCache" "high" "I" (.int (127 : Int32)) := own_sk c13 Kq15 A12
      have c17 : Sta Z T15.heap "java/lang/Integer$IntegerCache" "cache" "[Ljava/lang/Integer;" (.ref wc) := own_sk c14 Kq15 A12
      obtain ⟨fs, hr, hrun, hended, hW, hsame⟩ := X15.leave (v := some (.ref b12)) (fun h => by rw [Bd.returns] at h; cases h)
      refine ⟨_, _, pre0 _ (pre11 _ ?_), hrun, hended, _, _, rfl, ?_, ⟨_, rfl⟩, hW, hsame.mono (by decide) (by decide)⟩
      · skip
        show Steps p.tables e below (T9.setTop (mkF m 10 #[.val (.int p0)] [(.int (127 : Int32)), (.int p0)])) _
        refine XS.icmpYes X9.here hx rfl (pc0 := 10) (pc' := 23) rfl (hb hby d4_10) rfl (tlt hc10).2.2.1 (by decide) (by decide) ?_
        show Steps p.tables e below (T9.setTop (mkF m 23 #[.val (.int p0)] [])) _
        refine st12 _ ?_
        show Steps p.tables e below (T12.setTop (mkF m 26 #[.val (.int p0)] [(.ref b12)])) _
        refine XS.dup X12.here hx rfl (hb hby d4_26) rfl rfl ?_
        show Steps p.tables e below (T12.setTop (mkF m 27 #[.val (.int p0)] [(.ref b12), (.ref b12)])) _
        refine XS.iloadN X12.here hx rfl (hb hby d4_27) rfl ?_
        show Steps p.tables e below (T12.setTop (mkF m 28 #[.val (.int p0)] [(.int p0), (.ref b12), (.ref b12)])) _
        refine st15.trans ?_
        show Steps p.tables e below (T15.setTop (mkF m 31 #[.val (.int p0)] [(.ref b12)])) _
        jvm_step X15.here [X15.here.top, hx, (hb hby d4_31), X15.method', Bd.returns, Value.isRef, FieldType.isReference]
        first | (intro acts; rw [hr _ acts rfl rfl rfl]) | rw [hr _ _ rfl rfl rfl]
        exact Steps.refl _
      · show Q4 Z p0 wc cl h0 n0 _ T15.heap _
        exact ⟨b12, rfl, N15, K15, Eq15⟩
    · skip
      have ohc10 : p0.toInt ≤ 127 := own_nlt.mp hc10
      obtain ⟨T18, X18, e18, st18⟩ := getS2 X9 hx hZ hown (host := "") (Or.inl (hw _ (List.mem_of_getElem? (i := 26) rfl))) Via.refl e9 S_c (g := (mkF m 13 #[.val (.int p0)] [])) rfl (hb hby d4_13)
      have hj1 := c_iadd p0 (128 : Int32)
      rw [show (128 : Int32).toInt = 128 from rfl] at hj1
      have hj2 := rng32 (p0 + (128 : Int32))
      have hin : ¬ ((p0 + (128 : Int32)) < 0 ∨ cl.slots.size ≤ ((p0 + (128 : Int32))).toNatClampNeg) := inb_of (z := (256 : Int32)) (by rw [SZ]; rfl) ⟨own_nlt.mpr (show 0 ≤ (p0 + (128 : Int32)).toInt by omega), own_lt.mpr (show (p0 + (128 : Int32)).toInt < 256 by omega)⟩
      obtain ⟨bx, hat, Ebx⟩ := HE _ hin
      obtain ⟨fs, hr, hrun, hended, hW, hsame⟩ := X18.leave (v := some (.ref bx)) (fun h => by rw [Bd.returns] at h; cases h)
      refine ⟨_, _, pre0 _ (pre11 _ ?_), hrun, hended, _, _, rfl, ?_, ⟨_, rfl⟩, hW, hsame.mono (by decide) (by decide)⟩
      · skip
        show Steps p.tables e below (T9.setTop (mkF m 10 #[.val (.int p0)] [(.int (127 : Int32)), (.int p0)])) _
        refine XS.icmpNo X9.here hx rfl (hb hby d4_10) rfl (flt hc10).2.2.1 ?_
        show Steps p.tables e below (T9.setTop (mkF m 13 #[.val (.int p0)] [])) _
        refine st18 _ ?_
        show Steps p.tables e below (T18.setTop (mkF m 16 #[.val (.int p0)] [(.ref wc)])) _
        refine XS.iloadN X18.here hx rfl (hb hby d4_16) rfl ?_
        show Steps p.tables e below (T18.setTop (mkF m 17 #[.val (.int p0)] [(.int p0), (.ref wc)])) _
        refine XS.sipush X18.here hx rfl (hb hby d4_17) ?_
        show Steps p.tables e below (T18.setTop (mkF m 20 #[.val (.int p0)] [(.int (128 : Int32)), (.int p0), (.ref wc)])) _
        refine XS.iadd X18.here hx rfl (hb hby d4_20) rfl ?_
        show Steps p.tables e below (T18.setTop (mkF m 21 #[.val (.int p0)] [(.int (p0 + (128 : Int32))), (.ref wc)])) _
        refine X18.aaload hx (j := (p0 + (128 : Int32))) (v := (.ref bx)) (by rw [e18]; exact AR.1) (State.isArrayOf_alike hZ.alike AR.2.1) rfl AR.2.2 hin hat (g := (mkF m 21 #[.val (.int p0)] [(.int (p0 + (128 : Int32))), (.ref wc)])) rfl rfl (hb hby d4_21) _ ?_
        show Steps p.tables e below (T18.setTop (mkF m 22 #[.val (.int p0)] [(.ref bx)])) _
        jvm_step X18.here [X18.here.top, hx, (hb hby d4_22), X18.method', Bd.returns, Value.isRef, FieldType.isReference]
        first | (intro acts; rw [hr _ acts rfl rfl rfl]) | rw [hr _ _ rfl rfl rfl]
        exact Steps.refl _
      · show Q4 Z p0 wc cl h0 n0 _ T18.heap _
        rw [e18]
        exact ⟨bx, rfl, N0, KR, Ebx⟩
def Q5 (Z : State) (r0 : Addr) (r1 : Addr) (w0 : Int32) (w1 : Int32) (u0 : Int32) (u1 : Int32) (h0 : Heap) (n0 : Nat) (v : Option Value) (h : Heap) (L : List Loc) : Prop := v = some (.int (bI (w0.toInt = u0.toInt ∧ w1.toInt = u1.toInt))) ∧ Fr n0 L ∧ h = h0
set_option maxRecDepth 65536 in
set_option maxHeartbeats 40000000 in
theorem rm5 (l : Launch) (Z : State) (a0 : Array Value) (hw : ∀ d ∈ tables_1, d.before a0 Z = true) (ws : List Jvm.Cond) (r0 : Addr) (r1 : Addr) (w0 : Int32) (w1 : Int32) (u0 : Int32) (u1 : Int32) (h0 : Heap) (n0 : Nat) (Z0 : n0 ≤ h0.size) (F0 : Fld Z h0 r0 "com/example/acker/acker/engine/Backoff" "initialSeconds" "I" (.int w0)) (F1 : Fld Z h0 r0 "com/example/acker/acker/engine/Backoff" "maxSeconds" "I" (.int w1)) (G0 : Fld Z h0 r1 "com/example/acker/acker/engine/Backoff" "initialSeconds" "I" (.int u0)) (G1 : Fld Z h0 r1 "com/example/acker/acker/engine/Backoff" "maxSeconds" "I" (.int u1)) (E1 : Exa Z h0 r1 "com/example/acker/acker/engine/Backoff") :
    MetFree l (⟨"com/example/acker/acker/engine/Backoff", "equals", "(Ljava/lang/Object;)Z"⟩ : MethodName) (head1 (Jvm.Cond.code (⟨"com/example/acker/acker/engine/Backoff", "equals", "(Ljava/lang/Object;)Z"⟩ : MethodName) prog_2_method_5_code 2 (some .boolean) :: ws) ({ frames := 0, cells := 0, slots := 0, locals := 0 } : Room)) (fun a U => a = #[(.ref r0), (.ref r1)] ∧ Z.Warmed39 U.vm ∧ U.heap = h0) (fun _ _ _ _ _ => True) (fun _ U o U' => ∃ v L, o = .returned v ∧ Q5 Z r0 r1 w0 w1 u0 u1 h0 n0 v U'.heap L ∧ FrameEnd U o U' L ({ frames := 0, cells := 0, slots := 0, locals := 0 } : Room).cells ({ frames := 0, cells := 0, slots := 0, locals := 0 } : Room).slots) := by
  refine MetFree.of_bodySF (plainFor_of_name pn_com_example_acker_acker_engine_Backoff) hisR ?_
  intro p e s m args below meth c s₁ Bd hml0 hP hK
  obtain ⟨rfl, hZ, hh⟩ := hP
  have hx := Bd.exec
  have hby := Bd.bytes
  have hml : c.maxLocals = 2 := hml0
  have hown : s.vm.findClass "com/example/acker/acker/engine/Backoff" = some m.cls := findClass_of_methodNamed Bd.named
  have hnm := (name_of_methodNamed Bd.named Bd.method).1
  have X0 : Stand p l e ({ frames := 0, cells := 0, slots := 0, locals := 0 } : Room) s m #[(.ref r0), (.ref r1)] below meth c s₁ [] 0 0 := Stand.of_body Bd
  have e0 : s₁.heap = h0 := by rw [← hh, Bd.state]; rfl
  have N0 := Fr.nil n0
  have pre0 : ∀ t, Steps p.tables e below (s₁.setTop (mkF m 0 #[.val (.ref r0), .val (.ref r1)] [])) t → Steps p.tables e below (s₁.setTop (entryFrame m #[(.ref r0), (.ref r1)] 2)) t := fun t k => castTop (ef_5 m r0 r1) k
  have preS : ∀ t, Steps p.tables e below (s₁.setTop (mkF m 0 #[.val (.ref r0), .val (.ref r1)] [])) t → Steps p.tables e below (s₁.setTop (mkF m 0 #[.val (.ref r0), .val (.ref r1)] [])) t := fun t k => k
  obtain ⟨T1, X1, e1, st1⟩ := instY X0 hx hZ hown (hw _ (List.mem_of_getElem? (i := 32) rfl)) e0 (Ins.self E1) (g := (mkF m 1 #[.val (.ref r0), .val (.ref r1)] [(.ref r1)])) rfl rfl (hb hby d5_1)
  have hc2 : ¬ ((1 : Int32) = (0 : Int32)) := by decide
  obtain ⟨T3, X3, e3, st3⟩ := castY X1 hx hZ hown (hw _ (List.mem_of_getElem? (i := 32) rfl)) e1 (Ins.self E1) (g := (mkF m 8 #[.val (.ref r0), .val (.ref r1)] [(.ref r1)])) rfl rfl (hb hby d5_8)
  obtain ⟨T4, X4, e4, st4⟩ := getF X3 hx hZ hown (host := "") (Or.inl (hw _ (List.mem_of_getElem? (i := 16) rfl))) Via.refl e3 G0 (g := (mkF m 11 #[.val (.ref r0), .val (.ref r1)] [(.ref r1)])) rfl rfl (hb hby d5_11)
  obtain ⟨T5, X5, e5, st5⟩ := getF X4 hx hZ hown (host := "") (Or.inl (hw _ (List.mem_of_getElem? (i := 16) rfl))) Via.refl e4 F0 (g := (mkF m 15 #[.val (.ref r0), .val (.ref r1)] [(.ref r0), (.int u0)])) rfl rfl (hb hby d5_15)
  have pre7 : ∀ t, Steps p.tables e below (T5.setTop (mkF m 18 #[.val (.ref r0), .val (.ref r1)] [(.int w0), (.int u0)])) t → Steps p.tables e below (s₁.setTop (mkF m 0 #[.val (.ref r0), .val (.ref r1)] [])) t := fun t k => preS t (by
    show Steps p.tables e below (s₁.setTop (mkF m 0 #[.val (.ref r0), .val (.ref r1)] [])) _
    refine XS.aloadN X0.here hx rfl (hb hby d5_0) rfl rfl ?_
    show Steps p.tables e below (s₁.setTop (mkF m 1 #[.val (.ref r0), .val (.ref r1)] [(.ref r1)])) _
    refine st1 _ ?_
    show Steps p.tables e below (T1.setTop (mkF m 4 #[.val (.ref r0), .val (.ref r1)] [(.int (1 : Int32))])) _
    refine XS.ifNo X1.here hx rfl (hb hby d5_4) rfl ((if0 _ _).trans (feq hc2).1) ?_
    show Steps p.tables e below (T1.setTop (mkF m 7 #[.val (.ref r0), .val (.ref r1)] [])) _
    refine XS.aloadN X1.here hx rfl (hb hby d5_7) rfl rfl ?_
    show Steps p.tables e below (T1.setTop (mkF m 8 #[.val (.ref r0), .val (.ref r1)] [(.ref r1)])) _
    refine st3 _ ?_
    show Steps p.tables e below (T3.setTop (mkF m 11 #[.val (.ref r0), .val (.ref r1)] [(.ref r1)])) _
    refine st4 _ ?_
    show Steps p.tables e below (T4.setTop (mkF m 14 #[.val (.ref r0), .val (.ref r1)] [(.int u0)])) _
    refine XS.aloadN X4.here hx rfl (hb hby d5_14) rfl rfl ?_
    show Steps p.tables e below (T4.setTop (mkF m 15 #[.val (.ref r0), .val (.ref r1)] [(.ref r0), (.int u0)])) _
    refine st5 _ ?_
    exact k)
  by_cases hc6 : u0 = w0
  · skip
    have ohc6 : u0.toInt = w0.toInt := own_eq.mp hc6
    obtain ⟨T8, X8, e8, st8⟩ := castY X5 hx hZ hown (hw _ (List.mem_of_getElem? (i := 32) rfl)) e5 (Ins.self E1) (g := (mkF m 22 #[.val (.ref r0), .val (.ref r1)] [(.ref r1)])) rfl rfl (hb hby d5_22)
    obtain ⟨T9, X9, e9, st9⟩ := getF X8 hx hZ hown (host := "") (Or.inl (hw _ (List.mem_of_getElem? (i := 18) rfl))) Via.refl e8 G1 (g := (mkF m 25 #[.val (.ref r0), .val (.ref r1)] [(.ref r1)])) rfl rfl (hb hby d5_25)
    obtain ⟨T10, X10, e10, st10⟩ := getF X9 hx hZ hown (host := "") (Or.inl (hw _ (List.mem_of_getElem? (i := 18) rfl))) Via.refl e9 F1 (g := (mkF m 29 #[.val (.ref r0), .val (.ref r1)] [(.ref r0), (.int u1)])) rfl rfl (hb hby d5_29)
    have pre12 : ∀ t, Steps p.tables e below (T10.setTop (mkF m 32 #[.val (.ref r0), .val (.ref r1)] [(.int w1), (.int u1)])) t → Steps p.tables e below (s₁.setTop (mkF m 0 #[.val (.ref r0), .val (.ref r1)] [])) t := fun t k => pre7 t (by
      show Steps p.tables e below (T5.setTop (mkF m 18 #[.val (.ref r0), .val (.ref r1)] [(.int w0), (.int u0)])) _
      refine XS.icmpNo X5.here hx rfl (hb hby d5_18) rfl (teq hc6).2 ?_
      show Steps p.tables e below (T5.setTop (mkF m 21 #[.val (.ref r0), .val (.ref r1)] [])) _
      refine XS.aloadN X5.here hx rfl (hb hby d5_21) rfl rfl ?_
      show Steps p.tables e below (T5.setTop (mkF m 22 #[.val (.ref r0), .val (.ref r1)] [(.ref r1)])) _
      refine st8 _ ?_
      show Steps p.tables e below (T8.setTop (mkF m 25 #[.val (.ref r0), .val (.ref r1)] [(.ref r1)])) _
      refine st9 _ ?_
      show Steps p.tables e below (T9.setTop (mkF m 28 #[.val (.ref r0), .val (.ref r1)] [(.int u1)])) _
      refine XS.aloadN X9.here hx rfl (hb hby d5_28) rfl rfl ?_
      show Steps p.tables e below (T9.setTop (mkF m 29 #[.val (.ref r0), .val (.ref r1)] [(.ref r0), (.int u1)])) _
      refine st10 _ ?_
      exact k)
    by_cases hc11 : u1 = w1
    · skip
      have ohc11 : u1.toInt = w1.toInt := own_eq.mp hc11
      obtain ⟨fs, hr, hrun, hended, hW, hsame⟩ := X10.leave (v := some (.int (1 : Int32))) (fun h => by rw [Bd.returns] at h; cases h)
      refine ⟨_, _, pre0 _ (pre12 _ ?_), hrun, hended, _, _, rfl, ?_, ⟨_, rfl⟩, hW, hsame.mono (by decide) (by decide)⟩
      · skip
        show Steps p.tables e below (T10.setTop (mkF m 32 #[.val (.ref r0), .val (.ref r1)] [(.int w1), (.int u1)])) _
        refine XS.icmpNo X10.here hx rfl (hb hby d5_32) rfl (teq hc11).2 ?_
        show Steps p.tables e below (T10.setTop (mkF m 35 #[.val (.ref r0), .val (.ref r1)] [])) _
        refine XS.iconst X10.here hx rfl (hb hby d5_35) ?_
        show Steps p.tables e below (T10.setTop (mkF m 36 #[.val (.ref r0), .val (.ref r1)] [(.int (1 : Int32))])) _
        refine XS.goto X10.here hx rfl (pc0 := 36) (pc' := 40) rfl (hb hby d5_36) (by decide) (by decide) ?_
        show Steps p.tables e below (T10.setTop (mkF m 40 #[.val (.ref r0), .val (.ref r1)] [(.int (1 : Int32))])) _
        exact retN X10 hx (t := .boolean) Bd.returns (by simp) (hb hby d5_40) hr
      · show Q5 Z r0 r1 w0 w1 u0 u1 h0 n0 _ T10.heap _
        rw [e10]
        exact ⟨own_b1 (by omega), N0, rfl⟩
    · skip
      have ohc11 : ¬ (u1.toInt = w1.toInt) := own_neq.mp hc11
      obtain ⟨fs, hr, hrun, hended, hW, hsame⟩ := X10.leave (v := some (.int (0 : Int32))) (fun h => by rw [Bd.returns] at h; cases h)
      refine ⟨_, _, pre0 _ (pre12 _ ?_), hrun, hended, _, _, rfl, ?_, ⟨_, rfl⟩, hW, hsame.mono (by decide) (by decide)⟩
      · skip
        show Steps p.tables e below (T10.setTop (mkF m 32 #[.val (.ref r0), .val (.ref r1)] [(.int w1), (.int u1)])) _
        refine XS.icmpYes X10.here hx rfl (pc0 := 32) (pc' := 39) rfl (hb hby d5_32) rfl (feq hc11).2 (by decide) (by decide) ?_
        show Steps p.tables e below (T10.setTop (mkF m 39 #[.val (.ref r0), .val (.ref r1)] [])) _
        refine XS.iconst X10.here hx rfl (hb hby d5_39) ?_
        show Steps p.tables e below (T10.setTop (mkF m 40 #[.val (.ref r0), .val (.ref r1)] [(.int (0 : Int32))])) _
        exact retN X10 hx (t := .boolean) Bd.returns (by simp) (hb hby d5_40) hr
      · show Q5 Z r0 r1 w0 w1 u0 u1 h0 n0 _ T10.heap _
        rw [e10]
        exact ⟨own_b0 (by omega), N0, rfl⟩
  · skip
    have ohc6 : ¬ (u0.toInt = w0.toInt) := own_neq.mp hc6
    obtain ⟨fs, hr, hrun, hended, hW, hsame⟩ := X5.leave (v := some (.int (0 : Int32))) (fun h => by rw [Bd.returns] at h; cases h)
    refine ⟨_, _, pre0 _ (pre7 _ ?_), hrun, hended, _, _, rfl, ?_, ⟨_, rfl⟩, hW, hsame.mono (by decide) (by decide)⟩
    · skip
      show Steps p.tables e below (T5.setTop (mkF m 18 #[.val (.ref r0), .val (.ref r1)] [(.int w0), (.int u0)])) _
      refine XS.icmpYes X5.here hx rfl (pc0 := 18) (pc' := 39) rfl (hb hby d5_18) rfl (feq hc6).2 (by decide) (by decide) ?_
      show Steps p.tables e below (T5.setTop (mkF m 39 #[.val (.ref r0), .val (.ref r1)] [])) _
      refine XS.iconst X5.here hx rfl (hb hby d5_39) ?_
      show Steps p.tables e below (T5.setTop (mkF m 40 #[.val (.ref r0), .val (.ref r1)] [(.int (0 : Int32))])) _
      exact retN X5 hx (t := .boolean) Bd.returns (by simp) (hb hby d5_40) hr
    · show Q5 Z r0 r1 w0 w1 u0 u1 h0 n0 _ T5.heap _
      rw [e5]
      exact ⟨own_b0 (by omega), N0, rfl⟩
def Q5n (Z : State) (r0 : Addr) (h0 : Heap) (n0 : Nat) (v : Option Value) (h : Heap) (L : List Loc) : Prop := v = some (.int 0) ∧ Fr n0 L ∧ h = h0
set_option maxRecDepth 65536 in
set_option maxHeartbeats 40000000 in
theorem rm5n (l : Launch) (Z : State) (a0 : Array Value) (hw : ∀ d ∈ tables_1, d.before a0 Z = true) (ws : List Jvm.Cond) (r0 : Addr) (h0 : Heap) (n0 : Nat) (Z0 : n0 ≤ h0.size) :
    MetFree l (⟨"com/example/acker/acker/engine/Backoff", "equals", "(Ljava/lang/Object;)Z"⟩ : MethodName) (head1 (Jvm.Cond.code (⟨"com/example/acker/acker/engine/Backoff", "equals", "(Ljava/lang/Object;)Z"⟩ : MethodName) prog_2_method_5_code 2 (some .boolean) :: ws) ({ frames := 0, cells := 0, slots := 0, locals := 0 } : Room)) (fun a U => a = #[(.ref r0), .null] ∧ Z.Warmed39 U.vm ∧ U.heap = h0) (fun _ _ _ _ _ => True) (fun _ U o U' => ∃ v L, o = .returned v ∧ Q5n Z r0 h0 n0 v U'.heap L ∧ FrameEnd U o U' L ({ frames := 0, cells := 0, slots := 0, locals := 0 } : Room).cells ({ frames := 0, cells := 0, slots := 0, locals := 0 } : Room).slots) := by
  refine MetFree.of_bodySF (plainFor_of_name pn_com_example_acker_acker_engine_Backoff) hisR ?_
  intro p e s m args below meth c s₁ Bd hml0 hP hK
  obtain ⟨rfl, hZ, hh⟩ := hP
  have hx := Bd.exec
  have hby := Bd.bytes
  have hml : c.maxLocals = 2 := hml0
  have hown : s.vm.findClass "com/example/acker/acker/engine/Backoff" = some m.cls := findClass_of_methodNamed Bd.named
  have hnm := (name_of_methodNamed Bd.named Bd.method).1
  have X0 : Stand p l e ({ frames := 0, cells := 0, slots := 0, locals := 0 } : Room) s m #[(.ref r0), .null] below meth c s₁ [] 0 0 := Stand.of_body Bd
  have e0 : s₁.heap = h0 := by rw [← hh, Bd.state]; rfl
  have N0 := Fr.nil n0
  have pre0 : ∀ t, Steps p.tables e below (s₁.setTop (mkF m 0 #[.val (.ref r0), .val .null] [])) t → Steps p.tables e below (s₁.setTop (entryFrame m #[(.ref r0), .null] 2)) t := fun t k => castTop (ef_5_vn m r0) k
  have preS : ∀ t, Steps p.tables e below (s₁.setTop (mkF m 0 #[.val (.ref r0), .val .null] [])) t → Steps p.tables e below (s₁.setTop (mkF m 0 #[.val (.ref r0), .val .null] [])) t := fun t k => k
  have hc1 : (0 : Int32) = (0 : Int32) := by decide
  obtain ⟨fs, hr, hrun, hended, hW, hsame⟩ := X0.leave (v := some (.int (0 : Int32))) (fun h => by rw [Bd.returns] at h; cases h)
  refine ⟨_, _, pre0 _ (preS _ ?_), hrun, hended, _, _, rfl, ?_, ⟨_, rfl⟩, hW, hsame.mono (by decide) (by decide)⟩
  · skip
    show Steps p.tables e below (s₁.setTop (mkF m 0 #[.val (.ref r0), .val .null] [])) _
    refine XS.aloadN X0.here hx rfl (hb hby d5_0) rfl rfl ?_
    show Steps p.tables e below (s₁.setTop (mkF m 1 #[.val (.ref r0), .val .null] [.null])) _
    refine X0.instanceofNull hx (g := (mkF m 1 #[.val (.ref r0), .val .null] [.null])) rfl rfl (hb hby d5_1) _ ?_
    show Steps p.tables e below (s₁.setTop (mkF m 4 #[.val (.ref r0), .val .null] [(.int (0 : Int32))])) _
    refine XS.ifYes X0.here hx rfl (pc0 := 4) (pc' := 39) rfl (hb hby d5_4) rfl ((if0 _ _).trans (teq hc1).1) (by decide) (by decide) ?_
    show Steps p.tables e below (s₁.setTop (mkF m 39 #[.val (.ref r0), .val .null] [])) _
    refine XS.iconst X0.here hx rfl (hb hby d5_39) ?_
    show Steps p.tables e below (s₁.setTop (mkF m 40 #[.val (.ref r0), .val .null] [(.int (0 : Int32))])) _
    exact retN X0 hx (t := .boolean) Bd.returns (by simp) (hb hby d5_40) hr
  · show Q5n Z r0 h0 n0 _ s₁.heap _
    rw [e0]
    exact ⟨rfl, N0, rfl⟩
def Q5i (Z : State) (r0 : Addr) (r1 : Addr) (h0 : Heap) (n0 : Nat) (v : Option Value) (h : Heap) (L : List Loc) : Prop := v = some (.int 0) ∧ Fr n0 L ∧ h = h0
set_option maxRecDepth 65536 in
set_option maxHeartbeats 40000000 in
theorem rm5i (l : Launch) (Z : State) (a0 : Array Value) (hw : ∀ d ∈ tables_1, d.before a0 Z = true) (ws : List Jvm.Cond) (r0 : Addr) (r1 : Addr) (h0 : Heap) (n0 : Nat) (Z0 : n0 ≤ h0.size) (E1 : Exa Z h0 r1 "java/lang/Integer") :
    MetFree l (⟨"com/example/acker/acker/engine/Backoff", "equals", "(Ljava/lang/Object;)Z"⟩ : MethodName) (head1 (Jvm.Cond.code (⟨"com/example/acker/acker/engine/Backoff", "equals", "(Ljava/lang/Object;)Z"⟩ : MethodName) prog_2_method_5_code 2 (some .boolean) :: ws) ({ frames := 0, cells := 0, slots := 0, locals := 0 } : Room)) (fun a U => a = #[(.ref r0), (.ref r1)] ∧ Z.Warmed39 U.vm ∧ U.heap = h0) (fun _ _ _ _ _ => True) (fun _ U o U' => ∃ v L, o = .returned v ∧ Q5i Z r0 r1 h0 n0 v U'.heap L ∧ FrameEnd U o U' L ({ frames := 0, cells := 0, slots := 0, locals := 0 } : Room).cells ({ frames := 0, cells := 0, slots := 0, locals := 0 } : Room).slots) := by
  refine MetFree.of_bodySF (plainFor_of_name pn_com_example_acker_acker_engine_Backoff) hisR ?_
  intro p e s m args below meth c s₁ Bd hml0 hP hK
  obtain ⟨rfl, hZ, hh⟩ := hP
  have hx := Bd.exec
  have hby := Bd.bytes
  have hml : c.maxLocals = 2 := hml0
  have hown : s.vm.findClass "com/example/acker/acker/engine/Backoff" = some m.cls := findClass_of_methodNamed Bd.named
  have hnm := (name_of_methodNamed Bd.named Bd.method).1
  have X0 : Stand p l e ({ frames := 0, cells := 0, slots := 0, locals := 0 } : Room) s m #[(.ref r0), (.ref r1)] below meth c s₁ [] 0 0 := Stand.of_body Bd
  have e0 : s₁.heap = h0 := by rw [← hh, Bd.state]; rfl
  have N0 := Fr.nil n0
  have pre0 : ∀ t, Steps p.tables e below (s₁.setTop (mkF m 0 #[.val (.ref r0), .val (.ref r1)] [])) t → Steps p.tables e below (s₁.setTop (entryFrame m #[(.ref r0), (.ref r1)] 2)) t := fun t k => castTop (ef_5 m r0 r1) k
  have preS : ∀ t, Steps p.tables e below (s₁.setTop (mkF m 0 #[.val (.ref r0), .val (.ref r1)] [])) t → Steps p.tables e below (s₁.setTop (mkF m 0 #[.val (.ref r0), .val (.ref r1)] [])) t := fun t k => k
  obtain ⟨T1, X1, e1, st1⟩ := instNo X0 hx hZ hown (hw _ (List.mem_of_getElem? (i := 32) rfl)) e0 E1 (own_no2 (hw _ (List.mem_of_getElem? (i := 34) rfl)) (hw _ (List.mem_of_getElem? (i := 35) rfl)) (hw _ (List.mem_of_getElem? (i := 36) rfl)) (hw _ (List.mem_of_getElem? (i := 7) rfl)) (by decide) (by decide) (by decide)) (g := (mkF m 1 #[.val (.ref r0), .val (.ref r1)] [(.ref r1)])) rfl rfl (hb hby d5_1)
  have hc2 : (0 : Int32) = (0 : Int32) := by decide
  obtain ⟨fs, hr, hrun, hended, hW, hsame⟩ := X1.leave (v := some (.int (0 : Int32))) (fun h => by rw [Bd.returns] at h; cases h)
  refine ⟨_, _, pre0 _ (preS _ ?_), hrun, hended, _, _, rfl, ?_, ⟨_, rfl⟩, hW, hsame.mono (by decide) (by decide)⟩
  · skip
    show Steps p.tables e below (s₁.setTop (mkF m 0 #[.val (.ref r0), .val (.ref r1)] [])) _
    refine XS.aloadN X0.here hx rfl (hb hby d5_0) rfl rfl ?_
    show Steps p.tables e below (s₁.setTop (mkF m 1 #[.val (.ref r0), .val (.ref r1)] [(.ref r1)])) _
    refine st1 _ ?_
    show Steps p.tables e below (T1.setTop (mkF m 4 #[.val (.ref r0), .val (.ref r1)] [(.int (0 : Int32))])) _
    refine XS.ifYes X1.here hx rfl (pc0 := 4) (pc' := 39) rfl (hb hby d5_4) rfl ((if0 _ _).trans (teq hc2).1) (by decide) (by decide) ?_
    show Steps p.tables e below (T1.setTop (mkF m 39 #[.val (.ref r0), .val (.ref r1)] [])) _
    refine XS.iconst X1.here hx rfl (hb hby d5_39) ?_
    show Steps p.tables e below (T1.setTop (mkF m 40 #[.val (.ref r0), .val (.ref r1)] [(.int (0 : Int32))])) _
    exact retN X1 hx (t := .boolean) Bd.returns (by simp) (hb hby d5_40) hr
  · show Q5i Z r0 r1 h0 n0 _ T1.heap _
    rw [e1]
    exact ⟨rfl, N0, rfl⟩
def Q0 (Z : State) (p0 : Int32) (p1 : Int32) (p2 : Int32) (p3 : Int32) (p4 : Int32) (wc : Addr) (cl : Cell) (h0 : Heap) (n0 : Nat) (v : Option Value) (h : Heap) (L : List Loc) : Prop := v = some (.int 1) ∧ Fr n0 L
set_option maxRecDepth 65536 in
set_option maxHeartbeats 40000000 in
theorem rm0 (l : Launch) (Z : State) (a0 : Array Value) (hw : ∀ d ∈ tables_1, d.before a0 Z = true) (ws : List Jvm.Cond) (p0 : Int32) (p1 : Int32) (p2 : Int32) (p3 : Int32) (p4 : Int32) (wc : Addr) (cl : Cell) (h0 : Heap) (n0 : Nat) (Z0 : n0 ≤ h0.size) (S_h : Sta Z h0 "java/lang/Integer$IntegerCache" "high" "I" (.int (127 : Int32))) (S_c : Sta Z h0 "java/lang/Integer$IntegerCache" "cache" "[Ljava/lang/Integer;" (.ref wc)) (AR : Arr Z h0 wc cl (.object "java/lang/Integer")) (SZ : cl.slots.size = 256) (HE : ∀ j : Int32, ¬ (j < 0 ∨ cl.slots.size ≤ j.toNatClampNeg) → ∃ b : Addr, cl.slots[j.toNatClampNeg]? = some (.ref b) ∧ Exa Z h0 b "java/lang/Integer") :
    MetFree l x (head1 (Jvm.Cond.code x code maxLocals ret :: ws) room_1) (fun a U => a = #[(.int p0), (.int p1), (.int p2), (.int p3), (.int p4)] ∧ Z.Warmed39 U.vm ∧ U.heap = h0) (fun _ _ _ _ _ => True) (fun _ U o U' => ∃ v L, o = .returned v ∧ Q0 Z p0 p1 p2 p3 p4 wc cl h0 n0 v U'.heap L ∧ FrameEnd U o U' L room_1.cells room_1.slots) := by
  refine MetFree.of_bodySF (plainFor_of_name pn_com_example_acker_acker_engine_BackoffEqualsPinLaw) hisR ?_
  intro p e s m args below meth c s₁ Bd hml0 hP hK
  obtain ⟨rfl, hZ, hh⟩ := hP
  have hx := Bd.exec
  have hby := Bd.bytes
  have hml : c.maxLocals = 13 := hml0
  have hown : s.vm.findClass "com/example/acker/acker/engine/BackoffEqualsPinLaw" = some m.cls := findClass_of_methodNamed Bd.named
  have hnm := (name_of_methodNamed Bd.named Bd.method).1
  have X0 : Stand p l e room_1 s m #[(.int p0), (.int p1), (.int p2), (.int p3), (.int p4)] below meth c s₁ [] 0 0 := Stand.of_body Bd
  have e0 : s₁.heap = h0 := by rw [← hh, Bd.state]; rfl
  have N0 := Fr.nil n0
  have pre0 : ∀ t, Steps p.tables e below (s₁.setTop (mkF m 0 #[.val (.int p0), .val (.int p1), .val (.int p2), .val (.int p3), .val (.int p4), .unset, .unset, .unset, .unset, .unset, .unset, .unset, .unset] [])) t → Steps p.tables e below (s₁.setTop (entryFrame m #[(.int p0), (.int p1), (.int p2), (.int p3), (.int p4)] maxLocals)) t := fun t k => castTop (ef_0 m p0 p1 p2 p3 p4) k
  have preS : ∀ t, Steps p.tables e below (s₁.setTop (mkF m 0 #[.val (.int p0), .val (.int p1), .val (.int p2), .val (.int p3), .val (.int p4), .unset, .unset, .unset, .unset, .unset, .unset, .unset, .unset] [])) t → Steps p.tables e below (s₁.setTop (mkF m 0 #[.val (.int p0), .val (.int p1), .val (.int p2), .val (.int p3), .val (.int p4), .unset, .unset, .unset, .unset, .unset, .unset, .unset, .unset] [])) t := fun t k => k
  have m0 := own_mrem p0 (43201 : Int32) 43201 rfl
  have m1 := own_mrem p1 (43201 : Int32) 43201 rfl
  have m2 := own_mrem p2 (43201 : Int32) 43201 rfl
  have m3 := own_mrem p3 (43201 : Int32) 43201 rfl
  have KR : Keep h0 h0 [] := Keep.refl _ _
  obtain ⟨_, _, ⟨T1, L1, k1, n1⟩, -, X1, ⟨Lc1, hQ1, l1, y1, z1⟩, st1⟩ := Jvm.LawKit.callS X0 hx (y := (⟨"com/example/acker/acker/engine/BackoffEqualsPinLaw", "wait", "(I)I"⟩ : MethodName)) hown (mvT hZ (hw _ (List.mem_of_getElem? (i := 0) rfl))) (mvT hZ (hw _ (List.mem_of_getElem? (i := 1) rfl))) (mvT hZ (hw _ (List.mem_of_getElem? (i := 2) rfl))) (mvT hZ (hw _ (List.mem_of_getElem? (i := 3) rfl))) (by decide) (backOf (W := 0) (rm1 l Z a0 hw [] p0  h0 n0 Z0 ) hZ (hw _ (List.mem_of_getElem? (i := 3) rfl)) (hw _ (List.mem_of_getElem? (i := 2) rfl)) (by decide) (by decide)) (g := (mkF m 1 #[.val (.int p0), .val (.int p1), .val (.int p2), .val (.int p3), .val (.int p4), .unset, .unset, .unset, .unset, .unset, .unset, .unset, .unset] [(.int p0)])) rfl (by rw [hml]; rfl) (argsL := [(.int p0)]) (rest := []) (lenOf pd_2 rfl) rfl (by show 2 * 0 + _ ≤ _; exact Nat.le_of_eq rfl) (hb hby at_1) (fun _ _ => ⟨rfl, e0, (by decide : 0 + 0 ≤ _), (by decide : 0 + 0 ≤ _)⟩)
  dsimp only [Pt.U, Pt.locs, Pt.cells, Pt.slots] at X1 l1 y1 z1 st1 hQ1
  subst l1 y1 z1
  obtain ⟨rfl, Nq1, e1⟩ := hQ1
  have N1 := Fr.app N0 Nq1
  obtain ⟨_, _, ⟨T2, L2, k2, n2⟩, -, X2, ⟨Lc2, hQ2, l2, y2, z2⟩, st2⟩ := Jvm.LawKit.callS X1 hx (y := (⟨"com/example/acker/acker/engine/BackoffEqualsPinLaw", "wait", "(I)I"⟩ : MethodName)) hown (mvT hZ (hw _ (List.mem_of_getElem? (i := 0) rfl))) (mvT hZ (hw _ (List.mem_of_getElem? (i := 1) rfl))) (mvT hZ (hw _ (List.mem_of_getElem? (i := 2) rfl))) (mvT hZ (hw _ (List.mem_of_getElem? (i := 3) rfl))) (by decide) (backOf (W := 0) (rm1 l Z a0 hw [] p1  h0 n0 Z0 ) hZ (hw _ (List.mem_of_getElem? (i := 3) rfl)) (hw _ (List.mem_of_getElem? (i := 2) rfl)) (by decide) (by decide)) (g := (mkF m 7 #[.val (.int p0), .val (.int p1), .val (.int p2), .val (.int p3), .val (.int p4), .val (.int ((p0 &&& (2147483647 : Int32)) % (43201 : Int32))), .unset, .unset, .unset, .unset, .unset, .unset, .unset] [(.int p1)])) rfl (by rw [hml]; rfl) (argsL := [(.int p1)]) (rest := []) (lenOf pd_2 rfl) rfl (by show 2 * 0 + _ ≤ _; exact Nat.le_of_eq rfl) (hb hby at_7) (fun _ _ => ⟨rfl, e1, (by decide : 0 + 0 ≤ _), (by decide : 0 + 0 ≤ _)⟩)
  dsimp only [Pt.U, Pt.locs, Pt.cells, Pt.slots] at X2 l2 y2 z2 st2 hQ2
  subst l2 y2 z2
  obtain ⟨rfl, Nq2, e2⟩ := hQ2
  have N2 := Fr.app N1 Nq2
  have pre3 : ∀ t, Steps p.tables e below (T2.setTop (mkF m 12 #[.val (.int p0), .val (.int p1), .val (.int p2), .val (.int p3), .val (.int p4), .val (.int ((p0 &&& (2147483647 : Int32)) % (43201 : Int32))), .val (.int ((p1 &&& (2147483647 : Int32)) % (43201 : Int32))), .unset, .unset, .unset, .unset, .unset, .unset] [])) t → Steps p.tables e below (s₁.setTop (mkF m 0 #[.val (.int p0), .val (.int p1), .val (.int p2), .val (.int p3), .val (.int p4), .unset, .unset, .unset, .unset, .unset, .unset, .unset, .unset] [])) t := fun t k => preS t (by
    show Steps p.tables e below (s₁.setTop (mkF m 0 #[.val (.int p0), .val (.int p1), .val (.int p2), .val (.int p3), .val (.int p4), .unset, .unset, .unset, .unset, .unset, .unset, .unset, .unset] [])) _
    refine XS.iloadN X0.here hx rfl (hb hby at_0) rfl ?_
    show Steps p.tables e below (s₁.setTop (mkF m 1 #[.val (.int p0), .val (.int p1), .val (.int p2), .val (.int p3), .val (.int p4), .unset, .unset, .unset, .unset, .unset, .unset, .unset, .unset] [(.int p0)])) _
    refine st1 _ ?_
    show Steps p.tables e below (T1.setTop (mkF m 4 #[.val (.int p0), .val (.int p1), .val (.int p2), .val (.int p3), .val (.int p4), .unset, .unset, .unset, .unset, .unset, .unset, .unset, .unset] [(.int ((p0 &&& (2147483647 : Int32)) % (43201 : Int32)))])) _
    refine XS.istore X1.here hx rfl (hb hby at_4) rfl (l' := #[.val (.int p0), .val (.int p1), .val (.int p2), .val (.int p3), .val (.int p4), .val (.int ((p0 &&& (2147483647 : Int32)) % (43201 : Int32))), .unset, .unset, .unset, .unset, .unset, .unset, .unset]) rfl ?_
    show Steps p.tables e below (T1.setTop (mkF m 6 #[.val (.int p0), .val (.int p1), .val (.int p2), .val (.int p3), .val (.int p4), .val (.int ((p0 &&& (2147483647 : Int32)) % (43201 : Int32))), .unset, .unset, .unset, .unset, .unset, .unset, .unset] [])) _
    refine XS.iloadN X1.here hx rfl (hb hby at_6) rfl ?_
    show Steps p.tables e below (T1.setTop (mkF m 7 #[.val (.int p0), .val (.int p1), .val (.int p2), .val (.int p3), .val (.int p4), .val (.int ((p0 &&& (2147483647 : Int32)) % (43201 : Int32))), .unset, .unset, .unset, .unset, .unset, .unset, .unset] [(.int p1)])) _
    refine st2 _ ?_
    show Steps p.tables e below (T2.setTop (mkF m 10 #[.val (.int p0), .val (.int p1), .val (.int p2), .val (.int p3), .val (.int p4), .val (.int ((p0 &&& (2147483647 : Int32)) % (43201 : Int32))), .unset, .unset, .unset, .unset, .unset, .unset, .unset] [(.int ((p1 &&& (2147483647 : Int32)) % (43201 : Int32)))])) _
    refine XS.istore X2.here hx rfl (hb hby at_10) rfl (l' := #[.val (.int p0), .val (.int p1), .val (.int p2), .val (.int p3), .val (.int p4), .val (.int ((p0 &&& (2147483647 : Int32)) % (43201 : Int32))), .val (.int ((p1 &&& (2147483647 : Int32)) % (43201 : Int32))), .unset, .unset, .unset, .unset, .unset, .unset]) rfl ?_
    exact k)
  obtain ⟨va, h_va⟩ : ∃ z, z = ((p0 &&& (2147483647 : Int32)) % (43201 : Int32)) := ⟨_, rfl⟩
  rw [← h_va] at pre3
  obtain ⟨vb, h_vb⟩ : ∃ z, z = ((p1 &&& (2147483647 : Int32)) % (43201 : Int32)) := ⟨_, rfl⟩
  rw [← h_vb] at pre3
  rw [← h_va] at m0
  rw [← h_vb] at m1
  obtain ⟨vc, T4, L4, b_vc, X4, e4, N4, pre4⟩ : ∃ (vc : Int32) (T4 : State) (L4 : List Loc), (0 ≤ vc.toInt ∧ vc.toInt ≤ 43200) ∧ Stand p l e room_1 s m #[(.int p0), (.int p1), (.int p2), (.int p3), (.int p4)] below meth c T4 L4 0 0 ∧ T4.heap = h0 ∧ Fr n0 L4 ∧ ∀ t, Steps p.tables e below (T4.setTop (mkF m 28 #[.val (.int p0), .val (.int p1), .val (.int p2), .val (.int p3), .val (.int p4), .val (.int va), .val (.int vb), .unset, .unset, .unset, .unset, .unset, .unset] [(.int vc)])) t → Steps p.tables e below (s₁.setTop (mkF m 0 #[.val (.int p0), .val (.int p1), .val (.int p2), .val (.int p3), .val (.int p4), .unset, .unset, .unset, .unset, .unset, .unset, .unset, .unset] [])) t := by
    have pre6 : ∀ t, Steps p.tables e below (T2.setTop (mkF m 16 #[.val (.int p0), .val (.int p1), .val (.int p2), .val (.int p3), .val (.int p4), .val (.int va), .val (.int vb), .unset, .unset, .unset, .unset, .unset, .unset] [(.int (p4 &&& (1 : Int32)))])) t → Steps p.tables e below (s₁.setTop (mkF m 0 #[.val (.int p0), .val (.int p1), .val (.int p2), .val (.int p3), .val (.int p4), .unset, .unset, .unset, .unset, .unset, .unset, .unset, .unset] [])) t := fun t k => pre3 t (by
      show Steps p.tables e below (T2.setTop (mkF m 12 #[.val (.int p0), .val (.int p1), .val (.int p2), .val (.int p3), .val (.int p4), .val (.int va), .val (.int vb), .unset, .unset, .unset, .unset, .unset, .unset] [])) _
      refine XS.iload X2.here hx rfl (hb hby at_12) rfl ?_
      show Steps p.tables e below (T2.setTop (mkF m 14 #[.val (.int p0), .val (.int p1), .val (.int p2), .val (.int p3), .val (.int p4), .val (.int va), .val (.int vb), .unset, .unset, .unset, .unset, .unset, .unset] [(.int p4)])) _
      refine XS.iconst X2.here hx rfl (hb hby at_14) ?_
      show Steps p.tables e below (T2.setTop (mkF m 15 #[.val (.int p0), .val (.int p1), .val (.int p2), .val (.int p3), .val (.int p4), .val (.int va), .val (.int vb), .unset, .unset, .unset, .unset, .unset, .unset] [(.int (1 : Int32)), (.int p4)])) _
      refine XS.iand X2.here hx rfl (hb hby at_15) rfl ?_
      exact k)
    by_cases hc5 : (p4 &&& (1 : Int32)) = (0 : Int32)
    · skip
      have ohc5 : (p4 &&& (1 : Int32)).toInt = 0 := own_eq.mp hc5
      obtain ⟨_, _, ⟨T7, L7, k7, n7⟩, -, X7, ⟨Lc7, hQ7, l7, y7, z7⟩, st7⟩ := Jvm.LawKit.callS X2 hx (y := (⟨"com/example/acker/acker/engine/BackoffEqualsPinLaw", "wait", "(I)I"⟩ : MethodName)) hown (mvT hZ (hw _ (List.mem_of_getElem? (i := 0) rfl))) (mvT hZ (hw _ (List.mem_of_getElem? (i := 1) rfl))) (mvT hZ (hw _ (List.mem_of_getElem? (i := 2) rfl))) (mvT hZ (hw _ (List.mem_of_getElem? (i := 3) rfl))) (by decide) (backOf (W := 0) (rm1 l Z a0 hw [] p2  h0 n0 Z0 ) hZ (hw _ (List.mem_of_getElem? (i := 3) rfl)) (hw _ (List.mem_of_getElem? (i := 2) rfl)) (by decide) (by decide)) (g := (mkF m 25 #[.val (.int p0), .val (.int p1), .val (.int p2), .val (.int p3), .val (.int p4), .val (.int va), .val (.int vb), .unset, .unset, .unset, .unset, .unset, .unset] [(.int p2)])) rfl (by rw [hml]; rfl) (argsL := [(.int p2)]) (rest := []) (lenOf pd_2 rfl) rfl (by show 2 * 0 + _ ≤ _; exact Nat.le_of_eq rfl) (hb hby at_25) (fun _ _ => ⟨rfl, e2, (by decide : 0 + 0 ≤ _), (by decide : 0 + 0 ≤ _)⟩)
      dsimp only [Pt.U, Pt.locs, Pt.cells, Pt.slots] at X7 l7 y7 z7 st7 hQ7
      subst l7 y7 z7
      obtain ⟨rfl, Nq7, e7⟩ := hQ7
      have N7 := Fr.app N2 Nq7
      refine ⟨((p2 &&& (2147483647 : Int32)) % (43201 : Int32)), T7, _, ?_, X7, e7, N7, fun t k => pre6 t ?_⟩
      · constructor <;> omega
      · skip
        show Steps p.tables e below (T2.setTop (mkF m 16 #[.val (.int p0), .val (.int p1), .val (.int p2), .val (.int p3), .val (.int p4), .val (.int va), .val (.int vb), .unset, .unset, .unset, .unset, .unset, .unset] [(.int (p4 &&& (1 : Int32)))])) _
        refine XS.ifYes X2.here hx rfl (pc0 := 16) (pc' := 24) rfl (hb hby at_16) rfl ((if0 _ _).trans (teq hc5).1) (by decide) (by decide) ?_
        show Steps p.tables e below (T2.setTop (mkF m 24 #[.val (.int p0), .val (.int p1), .val (.int p2), .val (.int p3), .val (.int p4), .val (.int va), .val (.int vb), .unset, .unset, .unset, .unset, .unset, .unset] [])) _
        refine XS.iloadN X2.here hx rfl (hb hby at_24) rfl ?_
        show Steps p.tables e below (T2.setTop (mkF m 25 #[.val (.int p0), .val (.int p1), .val (.int p2), .val (.int p3), .val (.int p4), .val (.int va), .val (.int vb), .unset, .unset, .unset, .unset, .unset, .unset] [(.int p2)])) _
        refine st7 _ ?_
        exact k
    · skip
      have ohc5 : ¬ ((p4 &&& (1 : Int32)).toInt = 0) := own_neq.mp hc5
      refine ⟨va, T2, _, ?_, X2, e2, N2, fun t k => pre6 t ?_⟩
      · constructor <;> omega
      · skip
        show Steps p.tables e below (T2.setTop (mkF m 16 #[.val (.int p0), .val (.int p1), .val (.int p2), .val (.int p3), .val (.int p4), .val (.int va), .val (.int vb), .unset, .unset, .unset, .unset, .unset, .unset] [(.int (p4 &&& (1 : Int32)))])) _
        refine XS.ifNo X2.here hx rfl (hb hby at_16) rfl ((if0 _ _).trans (feq hc5).1) ?_
        show Steps p.tables e below (T2.setTop (mkF m 19 #[.val (.int p0), .val (.int p1), .val (.int p2), .val (.int p3), .val (.int p4), .val (.int va), .val (.int vb), .unset, .unset, .unset, .unset, .unset, .unset] [])) _
        refine XS.iload X2.here hx rfl (hb hby at_19) rfl ?_
        show Steps p.tables e below (T2.setTop (mkF m 21 #[.val (.int p0), .val (.int p1), .val (.int p2), .val (.int p3), .val (.int p4), .val (.int va), .val (.int vb), .unset, .unset, .unset, .unset, .unset, .unset] [(.int va)])) _
        refine XS.goto X2.here hx rfl (pc0 := 21) (pc' := 28) rfl (hb hby at_21) (by decide) (by decide) ?_
        exact k
  have pre8 : ∀ t, Steps p.tables e below (T4.setTop (mkF m 30 #[.val (.int p0), .val (.int p1), .val (.int p2), .val (.int p3), .val (.int p4), .val (.int va), .val (.int vb), .val (.int vc), .unset, .unset, .unset, .unset, .unset] [])) t → Steps p.tables e below (s₁.setTop (mkF m 0 #[.val (.int p0), .val (.int p1), .val (.int p2), .val (.int p3), .val (.int p4), .unset, .unset, .unset, .unset, .unset, .unset, .unset, .unset] [])) t := fun t k => pre4 t (by
    show Steps p.tables e below (T4.setTop (mkF m 28 #[.val (.int p0), .val (.int p1), .val (.int p2), .val (.int p3), .val (.int p4), .val (.int va), .val (.int vb), .unset, .unset, .unset, .unset, .unset, .unset] [(.int vc)])) _
    refine XS.istore X4.here hx rfl (hb hby at_28) rfl (l' := #[.val (.int p0), .val (.int p1), .val (.int p2), .val (.int p3), .val (.int p4), .val (.int va), .val (.int vb), .val (.int vc), .unset, .unset, .unset, .unset, .unset]) rfl ?_
    exact k)
  obtain ⟨vd, T9, L9, b_vd, X9, e9, N9, pre9⟩ : ∃ (vd : Int32) (T9 : State) (L9 : List Loc), (0 ≤ vd.toInt ∧ vd.toInt ≤ 43200) ∧ Stand p l e room_1 s m #[(.int p0), (.int p1), (.int p2), (.int p3), (.int p4)] below meth c T9 L9 0 0 ∧ T9.heap = h0 ∧ Fr n0 L9 ∧ ∀ t, Steps p.tables e below (T9.setTop (mkF m 46 #[.val (.int p0), .val (.int p1), .val (.int p2), .val (.int p3), .val (.int p4), .val (.int va), .val (.int vb), .val (.int vc), .unset, .unset, .unset, .unset, .unset] [(.int vd)])) t → Steps p.tables e below (s₁.setTop (mkF m 0 #[.val (.int p0), .val (.int p1), .val (.int p2), .val (.int p3), .val (.int p4), .unset, .unset, .unset, .unset, .unset, .unset, .unset, .unset] [])) t := by
    have pre11 : ∀ t, Steps p.tables e below (T4.setTop (mkF m 34 #[.val (.int p0), .val (.int p1), .val (.int p2), .val (.int p3), .val (.int p4), .val (.int va), .val (.int vb), .val (.int vc), .unset, .unset, .unset, .unset, .unset] [(.int (p4 &&& (2 : Int32)))])) t → Steps p.tables e below (s₁.setTop (mkF m 0 #[.val (.int p0), .val (.int p1), .val (.int p2), .val (.int p3), .val (.int p4), .unset, .unset, .unset, .unset, .unset, .unset, .unset, .unset] [])) t := fun t k => pre8 t (by
      show Steps p.tables e below (T4.setTop (mkF m 30 #[.val (.int p0), .val (.int p1), .val (.int p2), .val (.int p3), .val (.int p4), .val (.int va), .val (.int vb), .val (.int vc), .unset, .unset, .unset, .unset, .unset] [])) _
      refine XS.iload X4.here hx rfl (hb hby at_30) rfl ?_
      show Steps p.tables e below (T4.setTop (mkF m 32 #[.val (.int p0), .val (.int p1), .val (.int p2), .val (.int p3), .val (.int p4), .val (.int va), .val (.int vb), .val (.int vc), .unset, .unset, .unset, .unset, .unset] [(.int p4)])) _
      refine XS.iconst X4.here hx rfl (hb hby at_32) ?_
      show Steps p.tables e below (T4.setTop (mkF m 33 #[.val (.int p0), .val (.int p1), .val (.int p2), .val (.int p3), .val (.int p4), .val (.int va), .val (.int vb), .val (.int vc), .unset, .unset, .unset, .unset, .unset] [(.int (2 : Int32)), (.int p4)])) _
      refine XS.iand X4.here hx rfl (hb hby at_33) rfl ?_
      exact k)
    by_cases hc10 : (p4 &&& (2 : Int32)) = (0 : Int32)
    · skip
      have ohc10 : (p4 &&& (2 : Int32)).toInt = 0 := own_eq.mp hc10
      obtain ⟨_, _, ⟨T12, L12, k12, n12⟩, -, X12, ⟨Lc12, hQ12, l12, y12, z12⟩, st12⟩ := Jvm.LawKit.callS X4 hx (y := (⟨"com/example/acker/acker/engine/BackoffEqualsPinLaw", "wait", "(I)I"⟩ : MethodName)) hown (mvT hZ (hw _ (List.mem_of_getElem? (i := 0) rfl))) (mvT hZ (hw _ (List.mem_of_getElem? (i := 1) rfl))) (mvT hZ (hw _ (List.mem_of_getElem? (i := 2) rfl))) (mvT hZ (hw _ (List.mem_of_getElem? (i := 3) rfl))) (by decide) (backOf (W := 0) (rm1 l Z a0 hw [] p3  h0 n0 Z0 ) hZ (hw _ (List.mem_of_getElem? (i := 3) rfl)) (hw _ (List.mem_of_getElem? (i := 2) rfl)) (by decide) (by decide)) (g := (mkF m 43 #[.val (.int p0), .val (.int p1), .val (.int p2), .val (.int p3), .val (.int p4), .val (.int va), .val (.int vb), .val (.int vc), .unset, .unset, .unset, .unset, .unset] [(.int p3)])) rfl (by rw [hml]; rfl) (argsL := [(.int p3)]) (rest := []) (lenOf pd_2 rfl) rfl (by show 2 * 0 + _ ≤ _; exact Nat.le_of_eq rfl) (hb hby at_43) (fun _ _ => ⟨rfl, e4, (by decide : 0 + 0 ≤ _), (by decide : 0 + 0 ≤ _)⟩)
      dsimp only [Pt.U, Pt.locs, Pt.cells, Pt.slots] at X12 l12 y12 z12 st12 hQ12
      subst l12 y12 z12
      obtain ⟨rfl, Nq12, e12⟩ := hQ12
      have N12 := Fr.app N4 Nq12
      refine ⟨((p3 &&& (2147483647 : Int32)) % (43201 : Int32)), T12, _, ?_, X12, e12, N12, fun t k => pre11 t ?_⟩
      · constructor <;> omega
      · skip
        show Steps p.tables e below (T4.setTop (mkF m 34 #[.val (.int p0), .val (.int p1), .val (.int p2), .val (.int p3), .val (.int p4), .val (.int va), .val (.int vb), .val (.int vc), .unset, .unset, .unset, .unset, .unset] [(.int (p4 &&& (2 : Int32)))])) _
        refine XS.ifYes X4.here hx rfl (pc0 := 34) (pc' := 42) rfl (hb hby at_34) rfl ((if0 _ _).trans (teq hc10).1) (by decide) (by decide) ?_
        show Steps p.tables e below (T4.setTop (mkF m 42 #[.val (.int p0), .val (.int p1), .val (.int p2), .val (.int p3), .val (.int p4), .val (.int va), .val (.int vb), .val (.int vc), .unset, .unset, .unset, .unset, .unset] [])) _
        refine XS.iloadN X4.here hx rfl (hb hby at_42) rfl ?_
        show Steps p.tables e below (T4.setTop (mkF m 43 #[.val (.int p0), .val (.int p1), .val (.int p2), .val (.int p3), .val (.int p4), .val (.int va), .val (.int vb), .val (.int vc), .unset, .unset, .unset, .unset, .unset] [(.int p3)])) _
        refine st12 _ ?_
        exact k
    · skip
      have ohc10 : ¬ ((p4 &&& (2 : Int32)).toInt = 0) := own_neq.mp hc10
      refine ⟨vb, T4, _, ?_, X4, e4, N4, fun t k => pre11 t ?_⟩
      · constructor <;> omega
      · skip
        show Steps p.tables e below (T4.setTop (mkF m 34 #[.val (.int p0), .val (.int p1), .val (.int p2), .val (.int p3), .val (.int p4), .val (.int va), .val (.int vb), .val (.int vc), .unset, .unset, .unset, .unset, .unset] [(.int (p4 &&& (2 : Int32)))])) _
        refine XS.ifNo X4.here hx rfl (hb hby at_34) rfl ((if0 _ _).trans (feq hc10).1) ?_
        show Steps p.tables e below (T4.setTop (mkF m 37 #[.val (.int p0), .val (.int p1), .val (.int p2), .val (.int p3), .val (.int p4), .val (.int va), .val (.int vb), .val (.int vc), .unset, .unset, .unset, .unset, .unset] [])) _
        refine XS.iload X4.here hx rfl (hb hby at_37) rfl ?_
        show Steps p.tables e below (T4.setTop (mkF m 39 #[.val (.int p0), .val (.int p1), .val (.int p2), .val (.int p3), .val (.int p4), .val (.int va), .val (.int vb), .val (.int vc), .unset, .unset, .unset, .unset, .unset] [(.int vb)])) _
        refine XS.goto X4.here hx rfl (pc0 := 39) (pc' := 46) rfl (hb hby at_39) (by decide) (by decide) ?_
        exact k
  obtain ⟨T13, h13, X13, e13, E13, A13, D13, -, st13⟩ := newO X9 hx hZ hown (hw _ (List.mem_of_getElem? (i := 6) rfl)) (hw _ (List.mem_of_getElem? (i := 7) rfl)) (hw _ (List.mem_of_getElem? (i := 8) rfl)) e9 (g := (mkF m 48 #[.val (.int p0), .val (.int p1), .val (.int p2), .val (.int p3), .val (.int p4), .val (.int va), .val (.int vb), .val (.int vc), .val (.int vd), .unset, .unset, .unset, .unset] [])) rfl (hb hby at_48) (by decide) (by decide)
  obtain ⟨b13, g13⟩ : ∃ z, z = h0.size := ⟨_, rfl⟩
  rw [← g13] at A13 D13 st13
  have g_b13 : n0 ≤ b13 := Nat.le_trans Z0 (Nat.le_of_eq g13.symm)
  skip
  have Z13 : n0 ≤ h13.size := Nat.le_trans Z0 E13.1
  have K13 : Keep h0 h13 [] := KR.ext E13
  have sz_b13 : h0.size ≤ b13 := Nat.le_trans KR.1 (Nat.le_of_eq g13.symm)
  have F13_initialSeconds : Fld Z h13 b13 "com/example/acker/acker/engine/Backoff" "initialSeconds" "I" (.int (0 : Int32)) := D13 (Or.inr (hw _ (List.mem_of_getElem? (i := 17) rfl))) (ty := .int) (by decide)
  have F13_maxSeconds : Fld Z h13 b13 "com/example/acker/acker/engine/Backoff" "maxSeconds" "I" (.int (0 : Int32)) := D13 (Or.inr (hw _ (List.mem_of_getElem? (i := 19) rfl))) (ty := .int) (by decide)
  obtain ⟨_, _, ⟨T14, L14, k14, n14⟩, -, X14, ⟨Lc14, hQ14, l14, y14, z14⟩, st14⟩ := X13.specialBack hx (y := (⟨"com/example/acker/acker/engine/Backoff", "<init>", "(II)V"⟩ : MethodName)) rfl hown (mvT hZ (hw _ (List.mem_of_getElem? (i := 9) rfl))) (mvT hZ (hw _ (List.mem_of_getElem? (i := 10) rfl))) (mvT hZ (hw _ (List.mem_of_getElem? (i := 11) rfl))) (by decide) (backOf (W := 1) (rm2 l Z a0 hw [] b13 va vb h13 n0 Z13 A13 F13_initialSeconds F13_maxSeconds g_b13 (by omega) (by omega)) hZ (hw _ (List.mem_of_getElem? (i := 11) rfl)) (hw _ (List.mem_of_getElem? (i := 8) rfl)) (by decide) (by decide)) (g := (mkF m 56 #[.val (.int p0), .val (.int p1), .val (.int p2), .val (.int p3), .val (.int p4), .val (.int va), .val (.int vb), .val (.int vc), .val (.int vd), .unset, .unset, .unset, .unset] [(.int vb), (.int va), (.ref b13), (.ref b13)])) rfl (by rw [hml]; rfl) (Steps.refl _) (a := b13) (argsL := [(.int va), (.int vb)]) (rest := [(.ref b13)]) (lenOf pd_3 rfl) rfl (by show 2 * 0 + _ ≤ _; exact Nat.le_of_eq rfl) (hb hby at_56) (fun _ _ => ⟨rfl, e13, (by decide : 1 + 0 ≤ _), (by decide : 2 + 0 ≤ _)⟩)
  dsimp only [Pt.U, Pt.locs, Pt.cells, Pt.slots] at X14 l14 y14 z14 st14 hQ14
  subst l14 y14 z14
  obtain ⟨rfl, Nq14, Kq14, Eq14, Fq14_0, Fq14_1⟩ := hQ14
  have N14 := Fr.app N9 Nq14
  have Z14 : n0 ≤ T14.heap.size := Nat.le_trans Z13 Kq14.1
  have K14 : Keep h0 T14.heap [] := K13.trans Kq14 (fun x hx => by cases List.mem_singleton.mp hx; exact (Or.inr sz_b13))
  obtain ⟨T15, h15, X15, e15, E15, A15, D15, -, st15⟩ := newO X14 hx hZ hown (hw _ (List.mem_of_getElem? (i := 6) rfl)) (hw _ (List.mem_of_getElem? (i := 7) rfl)) (hw _ (List.mem_of_getElem? (i := 8) rfl)) rfl (g := (mkF m 61 #[.val (.int p0), .val (.int p1), .val (.int p2), .val (.int p3), .val (.int p4), .val (.int va), .val (.int vb), .val (.int vc), .val (.int vd), .val (.ref b13), .unset, .unset, .unset] [])) rfl (hb hby at_61) (by decide) (by decide)
  obtain ⟨b15, g15⟩ : ∃ z, z = T14.heap.size := ⟨_, rfl⟩
  rw [← g15] at A15 D15 st15
  have g_b15 : n0 ≤ b15 := Nat.le_trans Z14 (Nat.le_of_eq g15.symm)
  skip
  have Z15 : n0 ≤ h15.size := Nat.le_trans Z14 E15.1
  have ne_b13_b15 : b13 ≠ b15 := Nat.ne_of_lt (Nat.lt_of_lt_of_le Eq14.lt (Nat.le_of_eq g15.symm))
  have K15 : Keep h0 h15 [] := K14.ext E15
  have sz_b15 : h0.size ≤ b15 := Nat.le_trans K14.1 (Nat.le_of_eq g15.symm)
  have c16 : Exa Z h15 b13 "com/example/acker/acker/engine/Backoff" := Eq14.ext E15
  have c17 : Fld Z h15 b13 "com/example/acker/acker/engine/Backoff" "initialSeconds" "I" (.int va) := Fq14_0.ext E15
  have c18 : Fld Z h15 b13 "com/example/acker/acker/engine/Backoff" "maxSeconds" "I" (.int vb) := Fq14_1.ext E15
  have F15_initialSeconds : Fld Z h15 b15 "com/example/acker/acker/engine/Backoff" "initialSeconds" "I" (.int (0 : Int32)) := D15 (Or.inr (hw _ (List.mem_of_getElem? (i := 17) rfl))) (ty := .int) (by decide)
  have F15_maxSeconds : Fld Z h15 b15 "com/example/acker/acker/engine/Backoff" "maxSeconds" "I" (.int (0 : Int32)) := D15 (Or.inr (hw _ (List.mem_of_getElem? (i := 19) rfl))) (ty := .int) (by decide)
  obtain ⟨_, _, ⟨T19, L19, k19, n19⟩, -, X19, ⟨Lc19, hQ19, l19, y19, z19⟩, st19⟩ := X15.specialBack hx (y := (⟨"com/example/acker/acker/engine/Backoff", "<init>", "(II)V"⟩ : MethodName)) rfl hown (mvT hZ (hw _ (List.mem_of_getElem? (i := 9) rfl))) (mvT hZ (hw _ (List.mem_of_getElem? (i := 10) rfl))) (mvT hZ (hw _ (List.mem_of_getElem? (i := 11) rfl))) (by decide) (backOf (W := 1) (rm2 l Z a0 hw [] b15 vc vd h15 n0 Z15 A15 F15_initialSeconds F15_maxSeconds g_b15 (by omega) (by omega)) hZ (hw _ (List.mem_of_getElem? (i := 11) rfl)) (hw _ (List.mem_of_getElem? (i := 8) rfl)) (by decide) (by decide)) (g := (mkF m 69 #[.val (.int p0), .val (.int p1), .val (.int p2), .val (.int p3), .val (.int p4), .val (.int va), .val (.int vb), .val (.int vc), .val (.int vd), .val (.ref b13), .unset, .unset, .unset] [(.int vd), (.int vc), (.ref b15), (.ref b15)])) rfl (by rw [hml]; rfl) (Steps.refl _) (a := b15) (argsL := [(.int vc), (.int vd)]) (rest := [(.ref b15)]) (lenOf pd_3 rfl) rfl (by show 2 * 0 + _ ≤ _; exact Nat.le_of_eq rfl) (hb hby at_69) (fun _ _ => ⟨rfl, e15, (by decide : 2 + 0 ≤ _), (by decide : 4 + 0 ≤ _)⟩)
  dsimp only [Pt.U, Pt.locs, Pt.cells, Pt.slots] at X19 l19 y19 z19 st19 hQ19
  subst l19 y19 z19
  obtain ⟨rfl, Nq19, Kq19, Eq19, Fq19_0, Fq19_1⟩ := hQ19
  have N19 := Fr.app N14 Nq19
  have Z19 : n0 ≤ T19.heap.size := Nat.le_trans Z15 Kq19.1
  have K19 : Keep h0 T19.heap [] := K15.trans Kq19 (fun x hx => by cases List.mem_singleton.mp hx; exact (Or.inr sz_b15))
  have c20 : Exa Z T19.heap b13 "com/example/acker/acker/engine/Backoff" := c16.keep Kq19
  have c21 : Fld Z T19.heap b13 "com/example/acker/acker/engine/Backoff" "initialSeconds" "I" (.int va) := c17.keep Kq19 (fun q => ne_b13_b15 (List.mem_singleton.mp q))
  have c22 : Fld Z T19.heap b13 "com/example/acker/acker/engine/Backoff" "maxSeconds" "I" (.int vb) := c18.keep Kq19 (fun q => ne_b13_b15 (List.mem_singleton.mp q))
  have pre24 : ∀ t, Steps p.tables e below (T19.setTop (mkF m 78 #[.val (.int p0), .val (.int p1), .val (.int p2), .val (.int p3), .val (.int p4), .val (.int va), .val (.int vb), .val (.int vc), .val (.int vd), .val (.ref b13), .val (.ref b15), .unset, .unset] [(.int (p4 &&& (4 : Int32)))])) t → Steps p.tables e below (s₁.setTop (mkF m 0 #[.val (.int p0), .val (.int p1), .val (.int p2), .val (.int p3), .val (.int p4), .unset, .unset, .unset, .unset, .unset, .unset, .unset, .unset] [])) t := fun t k => pre9 t (by
    show Steps p.tables e below (T9.setTop (mkF m 46 #[.val (.int p0), .val (.int p1), .val (.int p2), .val (.int p3), .val (.int p4), .val (.int va), .val (.int vb), .val (.int vc), .unset, .unset, .unset, .unset, .unset] [(.int vd)])) _
    refine XS.istore X9.here hx rfl (hb hby at_46) rfl (l' := #[.val (.int p0), .val (.int p1), .val (.int p2), .val (.int p3), .val (.int p4), .val (.int va), .val (.int vb), .val (.int vc), .val (.int vd), .unset, .unset, .unset, .unset]) rfl ?_
    show Steps p.tables e below (T9.setTop (mkF m 48 #[.val (.int p0), .val (.int p1), .val (.int p2), .val (.int p3), .val (.int p4), .val (.int va), .val (.int vb), .val (.int vc), .val (.int vd), .unset, .unset, .unset, .unset] [])) _
    refine st13 _ ?_
    show Steps p.tables e below (T13.setTop (mkF m 51 #[.val (.int p0), .val (.int p1), .val (.int p2), .val (.int p3), .val (.int p4), .val (.int va), .val (.int vb), .val (.int vc), .val (.int vd), .unset, .unset, .unset, .unset] [(.ref b13)])) _
    refine XS.dup X13.here hx rfl (hb hby at_51) rfl rfl ?_
    show Steps p.tables e below (T13.setTop (mkF m 52 #[.val (.int p0), .val (.int p1), .val (.int p2), .val (.int p3), .val (.int p4), .val (.int va), .val (.int vb), .val (.int vc), .val (.int vd), .unset, .unset, .unset, .unset] [(.ref b13), (.ref b13)])) _
    refine XS.iload X13.here hx rfl (hb hby at_52) rfl ?_
    show Steps p.tables e below (T13.setTop (mkF m 54 #[.val (.int p0), .val (.int p1), .val (.int p2), .val (.int p3), .val (.int p4), .val (.int va), .val (.int vb), .val (.int vc), .val (.int vd), .unset, .unset, .unset, .unset] [(.int va), (.ref b13), (.ref b13)])) _
    refine XS.iload X13.here hx rfl (hb hby at_54) rfl ?_
    show Steps p.tables e below (T13.setTop (mkF m 56 #[.val (.int p0), .val (.int p1), .val (.int p2), .val (.int p3), .val (.int p4), .val (.int va), .val (.int vb), .val (.int vc), .val (.int vd), .unset, .unset, .unset, .unset] [(.int vb), (.int va), (.ref b13), (.ref b13)])) _
    refine st14.trans ?_
    show Steps p.tables e below (T14.setTop (mkF m 59 #[.val (.int p0), .val (.int p1), .val (.int p2), .val (.int p3), .val (.int p4), .val (.int va), .val (.int vb), .val (.int vc), .val (.int vd), .unset, .unset, .unset, .unset] [(.ref b13)])) _
    refine XS.astore X14.here hx rfl (hb hby at_59) rfl rfl (l' := #[.val (.int p0), .val (.int p1), .val (.int p2), .val (.int p3), .val (.int p4), .val (.int va), .val (.int vb), .val (.int vc), .val (.int vd), .val (.ref b13), .unset, .unset, .unset]) rfl ?_
    show Steps p.tables e below (T14.setTop (mkF m 61 #[.val (.int p0), .val (.int p1), .val (.int p2), .val (.int p3), .val (.int p4), .val (.int va), .val (.int vb), .val (.int vc), .val (.int vd), .val (.ref b13), .unset, .unset, .unset] [])) _
    refine st15 _ ?_
    show Steps p.tables e below (T15.setTop (mkF m 64 #[.val (.int p0), .val (.int p1), .val (.int p2), .val (.int p3), .val (.int p4), .val (.int va), .val (.int vb), .val (.int vc), .val (.int vd), .val (.ref b13), .unset, .unset, .unset] [(.ref b15)])) _
    refine XS.dup X15.here hx rfl (hb hby at_64) rfl rfl ?_
    show Steps p.tables e below (T15.setTop (mkF m 65 #[.val (.int p0), .val (.int p1), .val (.int p2), .val (.int p3), .val (.int p4), .val (.int va), .val (.int vb), .val (.int vc), .val (.int vd), .val (.ref b13), .unset, .unset, .unset] [(.ref b15), (.ref b15)])) _
    refine XS.iload X15.here hx rfl (hb hby at_65) rfl ?_
    show Steps p.tables e below (T15.setTop (mkF m 67 #[.val (.int p0), .val (.int p1), .val (.int p2), .val (.int p3), .val (.int p4), .val (.int va), .val (.int vb), .val (.int vc), .val (.int vd), .val (.ref b13), .unset, .unset, .unset] [(.int vc), (.ref b15), (.ref b15)])) _
    refine XS.iload X15.here hx rfl (hb hby at_67) rfl ?_
    show Steps p.tables e below (T15.setTop (mkF m 69 #[.val (.int p0), .val (.int p1), .val (.int p2), .val (.int p3), .val (.int p4), .val (.int va), .val (.int vb), .val (.int vc), .val (.int vd), .val (.ref b13), .unset, .unset, .unset] [(.int vd), (.int vc), (.ref b15), (.ref b15)])) _
    refine st19.trans ?_
    show Steps p.tables e below (T19.setTop (mkF m 72 #[.val (.int p0), .val (.int p1), .val (.int p2), .val (.int p3), .val (.int p4), .val (.int va), .val (.int vb), .val (.int vc), .val (.int vd), .val (.ref b13), .unset, .unset, .unset] [(.ref b15)])) _
    refine XS.astore X19.here hx rfl (hb hby at_72) rfl rfl (l' := #[.val (.int p0), .val (.int p1), .val (.int p2), .val (.int p3), .val (.int p4), .val (.int va), .val (.int vb), .val (.int vc), .val (.int vd), .val (.ref b13), .val (.ref b15), .unset, .unset]) rfl ?_
    show Steps p.tables e below (T19.setTop (mkF m 74 #[.val (.int p0), .val (.int p1), .val (.int p2), .val (.int p3), .val (.int p4), .val (.int va), .val (.int vb), .val (.int vc), .val (.int vd), .val (.ref b13), .val (.ref b15), .unset, .unset] [])) _
    refine XS.iload X19.here hx rfl (hb hby at_74) rfl ?_
    show Steps p.tables e below (T19.setTop (mkF m 76 #[.val (.int p0), .val (.int p1), .val (.int p2), .val (.int p3), .val (.int p4), .val (.int va), .val (.int vb), .val (.int vc), .val (.int vd), .val (.ref b13), .val (.ref b15), .unset, .unset] [(.int p4)])) _
    refine XS.iconst X19.here hx rfl (hb hby at_76) ?_
    show Steps p.tables e below (T19.setTop (mkF m 77 #[.val (.int p0), .val (.int p1), .val (.int p2), .val (.int p3), .val (.int p4), .val (.int va), .val (.int vb), .val (.int vc), .val (.int vd), .val (.ref b13), .val (.ref b15), .unset, .unset] [(.int (4 : Int32)), (.int p4)])) _
    refine XS.iand X19.here hx rfl (hb hby at_77) rfl ?_
    exact k)
  by_cases hc23 : (p4 &&& (4 : Int32)) = (0 : Int32)
  · skip
    have ohc23 : (p4 &&& (4 : Int32)).toInt = 0 := own_eq.mp hc23
    obtain ⟨_, _, ⟨T25, L25, k25, n25⟩, -, X25, ⟨Lc25, hQ25, l25, y25, z25⟩, st25⟩ := Jvm.LawKit.callS X19 hx (y := (⟨"java/lang/Integer", "valueOf", "(I)Ljava/lang/Integer;"⟩ : MethodName)) hown (mvT hZ (hw _ (List.mem_of_getElem? (i := 20) rfl))) (mvT hZ (hw _ (List.mem_of_getElem? (i := 21) rfl))) (mvT hZ (hw _ (List.mem_of_getElem? (i := 22) rfl))) (mvT hZ (hw _ (List.mem_of_getElem? (i := 23) rfl))) (by decide) (backOf (W := 0) (rm4 l Z a0 hw [] va wc cl T19.heap n0 Z19 (own_s0 S_h K19) (own_s0 S_c K19) (own_a0 AR K19) SZ (fun j hj => (HE j hj).imp fun _ q => ⟨q.1, q.2.keep K19⟩)) hZ (hw _ (List.mem_of_getElem? (i := 23) rfl)) (hw _ (List.mem_of_getElem? (i := 22) rfl)) (by decide) (by decide)) (g := (mkF m 87 #[.val (.int p0), .val (.int p1), .val (.int p2), .val (.int p3), .val (.int p4), .val (.int va), .val (.int vb), .val (.int vc), .val (.int vd), .val (.ref b13), .val (.ref b15), .unset, .unset] [(.int va)])) rfl (by rw [hml]; rfl) (argsL := [(.int va)]) (rest := []) (lenOf pd_4 rfl) rfl (by show 2 * 0 + _ ≤ _; exact Nat.le_of_eq rfl) (hb hby at_87) (fun _ _ => ⟨rfl, rfl, (by decide : 2 + 1 ≤ _), (by decide : 4 + 1 ≤ _)⟩)
    dsimp only [Pt.U, Pt.locs, Pt.cells, Pt.slots] at X25 l25 y25 z25 st25 hQ25
    subst l25 y25 z25
    obtain ⟨bx25, rfl, Nq25, Kq25, Eq25⟩ := hQ25
    have N25 := Fr.app N19 Nq25
    have Z25 : n0 ≤ T25.heap.size := Nat.le_trans Z19 Kq25.1
    have K25 : Keep h0 T25.heap [] := K19.trans Kq25 (fun x hx => by cases hx)
    have c26 : Exa Z T25.heap b13 "com/example/acker/acker/engine/Backoff" := c20.keep Kq25
    have c27 : Fld Z T25.heap b13 "com/example/acker/acker/engine/Backoff" "initialSeconds" "I" (.int va) := own_f0 c21 Kq25
    have c28 : Fld Z T25.heap b13 "com/example/acker/acker/engine/Backoff" "maxSeconds" "I" (.int vb) := own_f0 c22 Kq25
    have c29 : Exa Z T25.heap b15 "com/example/acker/acker/engine/Backoff" := Eq19.keep Kq25
    have c30 : Fld Z T25.heap b15 "com/example/acker/acker/engine/Backoff" "initialSeconds" "I" (.int vc) := own_f0 Fq19_0 Kq25
    have c31 : Fld Z T25.heap b15 "com/example/acker/acker/engine/Backoff" "maxSeconds" "I" (.int vd) := own_f0 Fq19_1 Kq25
    have pre32 : ∀ t, Steps p.tables e below (T25.setTop (mkF m 92 #[.val (.int p0), .val (.int p1), .val (.int p2), .val (.int p3), .val (.int p4), .val (.int va), .val (.int vb), .val (.int vc), .val (.int vd), .val (.ref b13), .val (.ref b15), .val (.ref bx25), .unset] [])) t → Steps p.tables e below (s₁.setTop (mkF m 0 #[.val (.int p0), .val (.int p1), .val (.int p2), .val (.int p3), .val (.int p4), .unset, .unset, .unset, .unset, .unset, .unset, .unset, .unset] [])) t := fun t k => pre24 t (by
      show Steps p.tables e below (T19.setTop (mkF m 78 #[.val (.int p0), .val (.int p1), .val (.int p2), .val (.int p3), .val (.int p4), .val (.int va), .val (.int vb), .val (.int vc), .val (.int vd), .val (.ref b13), .val (.ref b15), .unset, .unset] [(.int (p4 &&& (4 : Int32)))])) _
      refine XS.ifYes X19.here hx rfl (pc0 := 78) (pc' := 85) rfl (hb hby at_78) rfl ((if0 _ _).trans (teq hc23).1) (by decide) (by decide) ?_
      show Steps p.tables e below (T19.setTop (mkF m 85 #[.val (.int p0), .val (.int p1), .val (.int p2), .val (.int p3), .val (.int p4), .val (.int va), .val (.int vb), .val (.int vc), .val (.int vd), .val (.ref b13), .val (.ref b15), .unset, .unset] [])) _
      refine XS.iload X19.here hx rfl (hb hby at_85) rfl ?_
      show Steps p.tables e below (T19.setTop (mkF m 87 #[.val (.int p0), .val (.int p1), .val (.int p2), .val (.int p3), .val (.int p4), .val (.int va), .val (.int vb), .val (.int vc), .val (.int vd), .val (.ref b13), .val (.ref b15), .unset, .unset] [(.int va)])) _
      refine st25 _ ?_
      show Steps p.tables e below (T25.setTop (mkF m 90 #[.val (.int p0), .val (.int p1), .val (.int p2), .val (.int p3), .val (.int p4), .val (.int va), .val (.int vb), .val (.int vc), .val (.int vd), .val (.ref b13), .val (.ref b15), .unset, .unset] [(.ref bx25)])) _
      refine XS.astore X25.here hx rfl (hb hby at_90) rfl rfl (l' := #[.val (.int p0), .val (.int p1), .val (.int p2), .val (.int p3), .val (.int p4), .val (.int va), .val (.int vb), .val (.int vc), .val (.int vd), .val (.ref b13), .val (.ref b15), .val (.ref bx25), .unset]) rfl ?_
      exact k)
    obtain ⟨sf, rfl, pre33⟩ : ∃ (sf : Int32), (sf = bI (va.toInt = vc.toInt ∧ vb.toInt = vd.toInt)) ∧ ∀ t, Steps p.tables e below (T25.setTop (mkF m 111 #[.val (.int p0), .val (.int p1), .val (.int p2), .val (.int p3), .val (.int p4), .val (.int va), .val (.int vb), .val (.int vc), .val (.int vd), .val (.ref b13), .val (.ref b15), .val (.ref bx25), .unset] [(.int sf)])) t → Steps p.tables e below (s₁.setTop (mkF m 0 #[.val (.int p0), .val (.int p1), .val (.int p2), .val (.int p3), .val (.int p4), .unset, .unset, .unset, .unset, .unset, .unset, .unset, .unset] [])) t := by
      have pre35 : ∀ t, Steps p.tables e below (T25.setTop (mkF m 96 #[.val (.int p0), .val (.int p1), .val (.int p2), .val (.int p3), .val (.int p4), .val (.int va), .val (.int vb), .val (.int vc), .val (.int vd), .val (.ref b13), .val (.ref b15), .val (.ref bx25), .unset] [(.int vc), (.int va)])) t → Steps p.tables e below (s₁.setTop (mkF m 0 #[.val (.int p0), .val (.int p1), .val (.int p2), .val (.int p3), .val (.int p4), .unset, .unset, .unset, .unset, .unset, .unset, .unset, .unset] [])) t := fun t k => pre32 t (by
        show Steps p.tables e below (T25.setTop (mkF m 92 #[.val (.int p0), .val (.int p1), .val (.int p2), .val (.int p3), .val (.int p4), .val (.int va), .val (.int vb), .val (.int vc), .val (.int vd), .val (.ref b13), .val (.ref b15), .val (.ref bx25), .unset] [])) _
        refine XS.iload X25.here hx rfl (hb hby at_92) rfl ?_
        show Steps p.tables e below (T25.setTop (mkF m 94 #[.val (.int p0), .val (.int p1), .val (.int p2), .val (.int p3), .val (.int p4), .val (.int va), .val (.int vb), .val (.int vc), .val (.int vd), .val (.ref b13), .val (.ref b15), .val (.ref bx25), .unset] [(.int va)])) _
        refine XS.iload X25.here hx rfl (hb hby at_94) rfl ?_
        exact k)
      by_cases hc34 : va = vc
      · skip
        have ohc34 : va.toInt = vc.toInt := own_eq.mp hc34
        have pre37 : ∀ t, Steps p.tables e below (T25.setTop (mkF m 103 #[.val (.int p0), .val (.int p1), .val (.int p2), .val (.int p3), .val (.int p4), .val (.int va), .val (.int vb), .val (.int vc), .val (.int vd), .val (.ref b13), .val (.ref b15), .val (.ref bx25), .unset] [(.int vd), (.int vb)])) t → Steps p.tables e below (s₁.setTop (mkF m 0 #[.val (.int p0), .val (.int p1), .val (.int p2), .val (.int p3), .val (.int p4), .unset, .unset, .unset, .unset, .unset, .unset, .unset, .unset] [])) t := fun t k => pre35 t (by
          show Steps p.tables e below (T25.setTop (mkF m 96 #[.val (.int p0), .val (.int p1), .val (.int p2), .val (.int p3), .val (.int p4), .val (.int va), .val (.int vb), .val (.int vc), .val (.int vd), .val (.ref b13), .val (.ref b15), .val (.ref bx25), .unset] [(.int vc), (.int va)])) _
          refine XS.icmpNo X25.here hx rfl (hb hby at_96) rfl (teq hc34).2 ?_
          show Steps p.tables e below (T25.setTop (mkF m 99 #[.val (.int p0), .val (.int p1), .val (.int p2), .val (.int p3), .val (.int p4), .val (.int va), .val (.int vb), .val (.int vc), .val (.int vd), .val (.ref b13), .val (.ref b15), .val (.ref bx25), .unset] [])) _
          refine XS.iload X25.here hx rfl (hb hby at_99) rfl ?_
          show Steps p.tables e below (T25.setTop (mkF m 101 #[.val (.int p0), .val (.int p1), .val (.int p2), .val (.int p3), .val (.int p4), .val (.int va), .val (.int vb), .val (.int vc), .val (.int vd), .val (.ref b13), .val (.ref b15), .val (.ref bx25), .unset] [(.int vb)])) _
          refine XS.iload X25.here hx rfl (hb hby at_101) rfl ?_
          exact k)
        by_cases hc36 : vb = vd
        · skip
          have ohc36 : vb.toInt = vd.toInt := own_eq.mp hc36
          refine ⟨(1 : Int32), ?_, fun t k => pre37 t ?_⟩
          · exact own_c1 (by omega)
          · skip
            show Steps p.tables e below (T25.setTop (mkF m 103 #[.val (.int p0), .val (.int p1), .val (.int p2), .val (.int p3), .val (.int p4), .val (.int va), .val (.int vb), .val (.int vc), .val (.int vd), .val (.ref b13), .val (.ref b15), .val (.ref bx25), .unset] [(.int vd), (.int vb)])) _
            refine XS.icmpNo X25.here hx rfl (hb hby at_103) rfl (teq hc36).2 ?_
            show Steps p.tables e below (T25.setTop (mkF m 106 #[.val (.int p0), .val (.int p1), .val (.int p2), .val (.int p3), .val (.int p4), .val (.int va), .val (.int vb), .val (.int vc), .val (.int vd), .val (.ref b13), .val (.ref b15), .val (.ref bx25), .unset] [])) _
            refine XS.iconst X25.here hx rfl (hb hby at_106) ?_
            show Steps p.tables e below (T25.setTop (mkF m 107 #[.val (.int p0), .val (.int p1), .val (.int p2), .val (.int p3), .val (.int p4), .val (.int va), .val (.int vb), .val (.int vc), .val (.int vd), .val (.ref b13), .val (.ref b15), .val (.ref bx25), .unset] [(.int (1 : Int32))])) _
            refine XS.goto X25.here hx rfl (pc0 := 107) (pc' := 111) rfl (hb hby at_107) (by decide) (by decide) ?_
            exact k
        · skip
          have ohc36 : ¬ (vb.toInt = vd.toInt) := own_neq.mp hc36
          refine ⟨(0 : Int32), ?_, fun t k => pre37 t ?_⟩
          · exact own_c0 (by omega)
          · skip
            show Steps p.tables e below (T25.setTop (mkF m 103 #[.val (.int p0), .val (.int p1), .val (.int p2), .val (.int p3), .val (.int p4), .val (.int va), .val (.int vb), .val (.int vc), .val (.int vd), .val (.ref b13), .val (.ref b15), .val (.ref bx25), .unset] [(.int vd), (.int vb)])) _
            refine XS.icmpYes X25.here hx rfl (pc0 := 103) (pc' := 110) rfl (hb hby at_103) rfl (feq hc36).2 (by decide) (by decide) ?_
            show Steps p.tables e below (T25.setTop (mkF m 110 #[.val (.int p0), .val (.int p1), .val (.int p2), .val (.int p3), .val (.int p4), .val (.int va), .val (.int vb), .val (.int vc), .val (.int vd), .val (.ref b13), .val (.ref b15), .val (.ref bx25), .unset] [])) _
            refine XS.iconst X25.here hx rfl (hb hby at_110) ?_
            exact k
      · skip
        have ohc34 : ¬ (va.toInt = vc.toInt) := own_neq.mp hc34
        refine ⟨(0 : Int32), ?_, fun t k => pre35 t ?_⟩
        · exact own_c0 (by omega)
        · skip
          show Steps p.tables e below (T25.setTop (mkF m 96 #[.val (.int p0), .val (.int p1), .val (.int p2), .val (.int p3), .val (.int p4), .val (.int va), .val (.int vb), .val (.int vc), .val (.int vd), .val (.ref b13), .val (.ref b15), .val (.ref bx25), .unset] [(.int vc), (.int va)])) _
          refine XS.icmpYes X25.here hx rfl (pc0 := 96) (pc' := 110) rfl (hb hby at_96) rfl (feq hc34).2 (by decide) (by decide) ?_
          show Steps p.tables e below (T25.setTop (mkF m 110 #[.val (.int p0), .val (.int p1), .val (.int p2), .val (.int p3), .val (.int p4), .val (.int va), .val (.int vb), .val (.int vc), .val (.int vd), .val (.ref b13), .val (.ref b15), .val (.ref bx25), .unset] [])) _
          refine XS.iconst X25.here hx rfl (hb hby at_110) ?_
          exact k
    have tsf := own_bt (P := va.toInt = vc.toInt ∧ vb.toInt = vd.toInt)
    obtain ⟨cq38, kq38, q38a, q38b, q38c⟩ := isOf hZ rfl c26
    obtain ⟨_, _, ⟨T38, L38, k38, n38⟩, -, X38, ⟨Lc38, hQ38, l38, y38, z38⟩, st38⟩ := X25.virtualBack hx (y := (⟨"com/example/acker/acker/engine/Backoff", "equals", "(Ljava/lang/Object;)Z"⟩ : MethodName)) (z := (⟨"com/example/acker/acker/engine/Backoff", "equals", "(Ljava/lang/Object;)Z"⟩ : MethodName)) hown (mvT hZ (hw _ (List.mem_of_getElem? (i := 27) rfl))) (mvT hZ (hw _ (List.mem_of_getElem? (i := 28) rfl))) (notFace_of_selects (args := #[]) (mvT hZ (hw _ (List.mem_of_getElem? (i := 30) rfl)))) (mvT hZ (hw _ (List.mem_of_getElem? (i := 30) rfl))) (mvT hZ (hw _ (List.mem_of_getElem? (i := 29) rfl))) (by decide) (backOf (W := 0) (rm5 l Z a0 hw [] b13 b15 va vb vc vd T25.heap n0 Z25 c27 c28 c30 c31 c29) hZ (hw _ (List.mem_of_getElem? (i := 31) rfl)) (hw _ (List.mem_of_getElem? (i := 8) rfl)) (by decide) (by decide)) q38a q38c (g := (mkF m 117 #[.val (.int p0), .val (.int p1), .val (.int p2), .val (.int p3), .val (.int p4), .val (.int va), .val (.int vb), .val (.int vc), .val (.int vd), .val (.ref b13), .val (.ref b15), .val (.ref bx25), .val (.int (bI (va.toInt = vc.toInt ∧ vb.toInt = vd.toInt)))] [(.ref b15), (.ref b13)])) rfl (by rw [hml]; rfl) (Steps.refl _) (argsL := [(.ref b15)]) (rest := []) (lenOf pd_5 rfl) rfl (by show 2 * 0 + _ ≤ _; exact Nat.le_of_eq rfl) (hb hby at_117) (fun _ _ => ⟨rfl, rfl, (by decide : 3 + 0 ≤ _), (by decide : 5 + 0 ≤ _)⟩)
    dsimp only [Pt.U, Pt.locs, Pt.cells, Pt.slots] at X38 l38 y38 z38 st38 hQ38
    subst l38 y38 z38
    obtain ⟨rfl, Nq38, e38⟩ := hQ38
    have N38 := Fr.app N25 Nq38
    have t38 := own_bt (P := va.toInt = vc.toInt ∧ vb.toInt = vd.toInt)
    have hc39 : (bI (va.toInt = vc.toInt ∧ vb.toInt = vd.toInt)) = (bI (va.toInt = vc.toInt ∧ vb.toInt = vd.toInt)) := own_eq.mpr (show (bI (va.toInt = vc.toInt ∧ vb.toInt = vd.toInt)).toInt = (bI (va.toInt = vc.toInt ∧ vb.toInt = vd.toInt)).toInt by omega)
    have ohc39 : (bI (va.toInt = vc.toInt ∧ vb.toInt = vd.toInt)).toInt = (bI (va.toInt = vc.toInt ∧ vb.toInt = vd.toInt)).toInt := own_eq.mp hc39
    obtain ⟨cq40, kq40, q40a, q40b, q40c⟩ := isOf hZ e38 c29
    obtain ⟨_, _, ⟨T40, L40, k40, n40⟩, -, X40, ⟨Lc40, hQ40, l40, y40, z40⟩, st40⟩ := X38.virtualBack hx (y := (⟨"com/example/acker/acker/engine/Backoff", "equals", "(Ljava/lang/Object;)Z"⟩ : MethodName)) (z := (⟨"com/example/acker/acker/engine/Backoff", "equals", "(Ljava/lang/Object;)Z"⟩ : MethodName)) hown (mvT hZ (hw _ (List.mem_of_getElem? (i := 27) rfl))) (mvT hZ (hw _ (List.mem_of_getElem? (i := 28) rfl))) (notFace_of_selects (args := #[]) (mvT hZ (hw _ (List.mem_of_getElem? (i := 30) rfl)))) (mvT hZ (hw _ (List.mem_of_getElem? (i := 30) rfl))) (mvT hZ (hw _ (List.mem_of_getElem? (i := 29) rfl))) (by decide) (backOf (W := 0) (rm5 l Z a0 hw [] b15 b13 vc vd va vb T25.heap n0 Z25 c30 c31 c27 c28 c26) hZ (hw _ (List.mem_of_getElem? (i := 31) rfl)) (hw _ (List.mem_of_getElem? (i := 8) rfl)) (by decide) (by decide)) q40a q40c (g := (mkF m 129 #[.val (.int p0), .val (.int p1), .val (.int p2), .val (.int p3), .val (.int p4), .val (.int va), .val (.int vb), .val (.int vc), .val (.int vd), .val (.ref b13), .val (.ref b15), .val (.ref bx25), .val (.int (bI (va.toInt = vc.toInt ∧ vb.toInt = vd.toInt)))] [(.ref b13), (.ref b15)])) rfl (by rw [hml]; rfl) (Steps.refl _) (argsL := [(.ref b13)]) (rest := []) (lenOf pd_5 rfl) rfl (by show 2 * 0 + _ ≤ _; exact Nat.le_of_eq rfl) (hb hby at_129) (fun _ _ => ⟨rfl, e38, (by decide : 3 + 0 ≤ _), (by decide : 5 + 0 ≤ _)⟩)
    dsimp only [Pt.U, Pt.locs, Pt.cells, Pt.slots] at X40 l40 y40 z40 st40 hQ40
    subst l40 y40 z40
    obtain ⟨rfl, Nq40, e40⟩ := hQ40
    have N40 := Fr.app N38 Nq40
    have t40 := own_bt (P := vc.toInt = va.toInt ∧ vd.toInt = vb.toInt)
    have hc41 : (bI (vc.toInt = va.toInt ∧ vd.toInt = vb.toInt)) = (bI (va.toInt = vc.toInt ∧ vb.toInt = vd.toInt)) := own_eq.mpr (show (bI (vc.toInt = va.toInt ∧ vd.toInt = vb.toInt)).toInt = (bI (va.toInt = vc.toInt ∧ vb.toInt = vd.toInt)).toInt by omega)
    have ohc41 : (bI (vc.toInt = va.toInt ∧ vd.toInt = vb.toInt)).toInt = (bI (va.toInt = vc.toInt ∧ vb.toInt = vd.toInt)).toInt := own_eq.mp hc41
    obtain ⟨cq42, kq42, q42a, q42b, q42c⟩ := isOf hZ e40 c26
    obtain ⟨_, _, ⟨T42, L42, k42, n42⟩, -, X42, ⟨Lc42, hQ42, l42, y42, z42⟩, st42⟩ := X40.virtualBack hx (y := (⟨"com/example/acker/acker/engine/Backoff", "equals", "(Ljava/lang/Object;)Z"⟩ : MethodName)) (z := (⟨"com/example/acker/acker/engine/Backoff", "equals", "(Ljava/lang/Object;)Z"⟩ : MethodName)) hown (mvT hZ (hw _ (List.mem_of_getElem? (i := 27) rfl))) (mvT hZ (hw _ (List.mem_of_getElem? (i := 28) rfl))) (notFace_of_selects (args := #[]) (mvT hZ (hw _ (List.mem_of_getElem? (i := 30) rfl)))) (mvT hZ (hw _ (List.mem_of_getElem? (i := 30) rfl))) (mvT hZ (hw _ (List.mem_of_getElem? (i := 29) rfl))) (by decide) (backOf (W := 0) (rm5 l Z a0 hw [] b13 b13 va vb va vb T25.heap n0 Z25 c27 c28 c27 c28 c26) hZ (hw _ (List.mem_of_getElem? (i := 31) rfl)) (hw _ (List.mem_of_getElem? (i := 8) rfl)) (by decide) (by decide)) q42a q42c (g := (mkF m 141 #[.val (.int p0), .val (.int p1), .val (.int p2), .val (.int p3), .val (.int p4), .val (.int va), .val (.int vb), .val (.int vc), .val (.int vd), .val (.ref b13), .val (.ref b15), .val (.ref bx25), .val (.int (bI (va.toInt = vc.toInt ∧ vb.toInt = vd.toInt)))] [(.ref b13), (.ref b13)])) rfl (by rw [hml]; rfl) (Steps.refl _) (argsL := [(.ref b13)]) (rest := []) (lenOf pd_5 rfl) rfl (by show 2 * 0 + _ ≤ _; exact Nat.le_of_eq rfl) (hb hby at_141) (fun _ _ => ⟨rfl, e40, (by decide : 3 + 0 ≤ _), (by decide : 5 + 0 ≤ _)⟩)
    dsimp only [Pt.U, Pt.locs, Pt.cells, Pt.slots] at X42 l42 y42 z42 st42 hQ42
    subst l42 y42 z42
    obtain ⟨rfl, Nq42, e42⟩ := hQ42
    have N42 := Fr.app N40 Nq42
    have t42 := own_bt (P := va.toInt = va.toInt ∧ vb.toInt = vb.toInt)
    have hc43 : ¬ ((bI (va.toInt = va.toInt ∧ vb.toInt = vb.toInt)) = (0 : Int32)) := own_neq.mpr (show ¬ ((bI (va.toInt = va.toInt ∧ vb.toInt = vb.toInt)).toInt = 0) by omega)
    have ohc43 : ¬ ((bI (va.toInt = va.toInt ∧ vb.toInt = vb.toInt)).toInt = 0) := own_neq.mp hc43
    obtain ⟨cq44, kq44, q44a, q44b, q44c⟩ := isOf hZ e42 c26
    obtain ⟨_, _, ⟨T44, L44, k44, n44⟩, -, X44, ⟨Lc44, hQ44, l44, y44, z44⟩, st44⟩ := X42.virtualBack hx (y := (⟨"com/example/acker/acker/engine/Backoff", "equals", "(Ljava/lang/Object;)Z"⟩ : MethodName)) (z := (⟨"com/example/acker/acker/engine/Backoff", "equals", "(Ljava/lang/Object;)Z"⟩ : MethodName)) hown (mvT hZ (hw _ (List.mem_of_getElem? (i := 27) rfl))) (mvT hZ (hw _ (List.mem_of_getElem? (i := 28) rfl))) (notFace_of_selects (args := #[]) (mvT hZ (hw _ (List.mem_of_getElem? (i := 30) rfl)))) (mvT hZ (hw _ (List.mem_of_getElem? (i := 30) rfl))) (mvT hZ (hw _ (List.mem_of_getElem? (i := 29) rfl))) (by decide) (backOf (W := 0) (rm5i l Z a0 hw [] b13 bx25  T25.heap n0 Z25 Eq25) hZ (hw _ (List.mem_of_getElem? (i := 31) rfl)) (hw _ (List.mem_of_getElem? (i := 8) rfl)) (by decide) (by decide)) q44a q44c (g := (mkF m 151 #[.val (.int p0), .val (.int p1), .val (.int p2), .val (.int p3), .val (.int p4), .val (.int va), .val (.int vb), .val (.int vc), .val (.int vd), .val (.ref b13), .val (.ref b15), .val (.ref bx25), .val (.int (bI (va.toInt = vc.toInt ∧ vb.toInt = vd.toInt)))] [(.ref bx25), (.ref b13)])) rfl (by rw [hml]; rfl) (Steps.refl _) (argsL := [(.ref bx25)]) (rest := []) (lenOf pd_5 rfl) rfl (by show 2 * 0 + _ ≤ _; exact Nat.le_of_eq rfl) (hb hby at_151) (fun _ _ => ⟨rfl, e42, (by decide : 3 + 0 ≤ _), (by decide : 5 + 0 ≤ _)⟩)
    dsimp only [Pt.U, Pt.locs, Pt.cells, Pt.slots] at X44 l44 y44 z44 st44 hQ44
    subst l44 y44 z44
    obtain ⟨rfl, Nq44, e44⟩ := hQ44
    have N44 := Fr.app N42 Nq44
    have hc45 : (0 : Int32) = (0 : Int32) := by decide
    obtain ⟨cq46, kq46, q46a, q46b, q46c⟩ := isOf hZ e44 c29
    obtain ⟨_, _, ⟨T46, L46, k46, n46⟩, -, X46, ⟨Lc46, hQ46, l46, y46, z46⟩, st46⟩ := X44.virtualBack hx (y := (⟨"com/example/acker/acker/engine/Backoff", "equals", "(Ljava/lang/Object;)Z"⟩ : MethodName)) (z := (⟨"com/example/acker/acker/engine/Backoff", "equals", "(Ljava/lang/Object;)Z"⟩ : MethodName)) hown (mvT hZ (hw _ (List.mem_of_getElem? (i := 27) rfl))) (mvT hZ (hw _ (List.mem_of_getElem? (i := 28) rfl))) (notFace_of_selects (args := #[]) (mvT hZ (hw _ (List.mem_of_getElem? (i := 30) rfl)))) (mvT hZ (hw _ (List.mem_of_getElem? (i := 30) rfl))) (mvT hZ (hw _ (List.mem_of_getElem? (i := 29) rfl))) (by decide) (backOf (W := 0) (rm5i l Z a0 hw [] b15 bx25  T25.heap n0 Z25 Eq25) hZ (hw _ (List.mem_of_getElem? (i := 31) rfl)) (hw _ (List.mem_of_getElem? (i := 8) rfl)) (by decide) (by decide)) q46a q46c (g := (mkF m 161 #[.val (.int p0), .val (.int p1), .val (.int p2), .val (.int p3), .val (.int p4), .val (.int va), .val (.int vb), .val (.int vc), .val (.int vd), .val (.ref b13), .val (.ref b15), .val (.ref bx25), .val (.int (bI (va.toInt = vc.toInt ∧ vb.toInt = vd.toInt)))] [(.ref bx25), (.ref b15)])) rfl (by rw [hml]; rfl) (Steps.refl _) (argsL := [(.ref bx25)]) (rest := []) (lenOf pd_5 rfl) rfl (by show 2 * 0 + _ ≤ _; exact Nat.le_of_eq rfl) (hb hby at_161) (fun _ _ => ⟨rfl, e44, (by decide : 3 + 0 ≤ _), (by decide : 5 + 0 ≤ _)⟩)
    dsimp only [Pt.U, Pt.locs, Pt.cells, Pt.slots] at X46 l46 y46 z46 st46 hQ46
    subst l46 y46 z46
    obtain ⟨rfl, Nq46, e46⟩ := hQ46
    have N46 := Fr.app N44 Nq46
    have hc47 : (0 : Int32) = (0 : Int32) := by decide
    obtain ⟨fs, hr, hrun, hended, hW, hsame⟩ := X46.leave (v := some (.int (1 : Int32))) (fun h => by rw [Bd.returns] at h; cases h)
    refine ⟨_, _, pre0 _ (pre33 _ ?_), hrun, hended, _, _, rfl, ?_, ⟨_, rfl⟩, hW, hsame.mono (by decide) (by decide)⟩
    · skip
      show Steps p.tables e below (T25.setTop (mkF m 111 #[.val (.int p0), .val (.int p1), .val (.int p2), .val (.int p3), .val (.int p4), .val (.int va), .val (.int vb), .val (.int vc), .val (.int vd), .val (.ref b13), .val (.ref b15), .val (.ref bx25), .unset] [(.int (bI (va.toInt = vc.toInt ∧ vb.toInt = vd.toInt)))])) _
      refine XS.istore X25.here hx rfl (hb hby at_111) rfl (l' := #[.val (.int p0), .val (.int p1), .val (.int p2), .val (.int p3), .val (.int p4), .val (.int va), .val (.int vb), .val (.int vc), .val (.int vd), .val (.ref b13), .val (.ref b15), .val (.ref bx25), .val (.int (bI (va.toInt = vc.toInt ∧ vb.toInt = vd.toInt)))]) rfl ?_
      show Steps p.tables e below (T25.setTop (mkF m 113 #[.val (.int p0), .val (.int p1), .val (.int p2), .val (.int p3), .val (.int p4), .val (.int va), .val (.int vb), .val (.int vc), .val (.int vd), .val (.ref b13), .val (.ref b15), .val (.ref bx25), .val (.int (bI (va.toInt = vc.toInt ∧ vb.toInt = vd.toInt)))] [])) _
      refine XS.aload X25.here hx rfl (hb hby at_113) rfl rfl ?_
      show Steps p.tables e below (T25.setTop (mkF m 115 #[.val (.int p0), .val (.int p1), .val (.int p2), .val (.int p3), .val (.int p4), .val (.int va), .val (.int vb), .val (.int vc), .val (.int vd), .val (.ref b13), .val (.ref b15), .val (.ref bx25), .val (.int (bI (va.toInt = vc.toInt ∧ vb.toInt = vd.toInt)))] [(.ref b13)])) _
      refine XS.aload X25.here hx rfl (hb hby at_115) rfl rfl ?_
      show Steps p.tables e below (T25.setTop (mkF m 117 #[.val (.int p0), .val (.int p1), .val (.int p2), .val (.int p3), .val (.int p4), .val (.int va), .val (.int vb), .val (.int vc), .val (.int vd), .val (.ref b13), .val (.ref b15), .val (.ref bx25), .val (.int (bI (va.toInt = vc.toInt ∧ vb.toInt = vd.toInt)))] [(.ref b15), (.ref b13)])) _
      refine st38.trans ?_
      show Steps p.tables e below (T38.setTop (mkF m 120 #[.val (.int p0), .val (.int p1), .val (.int p2), .val (.int p3), .val (.int p4), .val (.int va), .val (.int vb), .val (.int vc), .val (.int vd), .val (.ref b13), .val (.ref b15), .val (.ref bx25), .val (.int (bI (va.toInt = vc.toInt ∧ vb.toInt = vd.toInt)))] [(.int (bI (va.toInt = vc.toInt ∧ vb.toInt = vd.toInt)))])) _
      refine XS.iload X38.here hx rfl (hb hby at_120) rfl ?_
      show Steps p.tables e below (T38.setTop (mkF m 122 #[.val (.int p0), .val (.int p1), .val (.int p2), .val (.int p3), .val (.int p4), .val (.int va), .val (.int vb), .val (.int vc), .val (.int vd), .val (.ref b13), .val (.ref b15), .val (.ref bx25), .val (.int (bI (va.toInt = vc.toInt ∧ vb.toInt = vd.toInt)))] [(.int (bI (va.toInt = vc.toInt ∧ vb.toInt = vd.toInt))), (.int (bI (va.toInt = vc.toInt ∧ vb.toInt = vd.toInt)))])) _
      refine XS.icmpNo X38.here hx rfl (hb hby at_122) rfl (teq hc39).2 ?_
      show Steps p.tables e below (T38.setTop (mkF m 125 #[.val (.int p0), .val (.int p1), .val (.int p2), .val (.int p3), .val (.int p4), .val (.int va), .val (.int vb), .val (.int vc), .val (.int vd), .val (.ref b13), .val (.ref b15), .val (.ref bx25), .val (.int (bI (va.toInt = vc.toInt ∧ vb.toInt = vd.toInt)))] [])) _
      refine XS.aload X38.here hx rfl (hb hby at_125) rfl rfl ?_
      show Steps p.tables e below (T38.setTop (mkF m 127 #[.val (.int p0), .val (.int p1), .val (.int p2), .val (.int p3), .val (.int p4), .val (.int va), .val (.int vb), .val (.int vc), .val (.int vd), .val (.ref b13), .val (.ref b15), .val (.ref bx25), .val (.int (bI (va.toInt = vc.toInt ∧ vb.toInt = vd.toInt)))] [(.ref b15)])) _
      refine XS.aload X38.here hx rfl (hb hby at_127) rfl rfl ?_
      show Steps p.tables e below (T38.setTop (mkF m 129 #[.val (.int p0), .val (.int p1), .val (.int p2), .val (.int p3), .val (.int p4), .val (.int va), .val (.int vb), .val (.int vc), .val (.int vd), .val (.ref b13), .val (.ref b15), .val (.ref bx25), .val (.int (bI (va.toInt = vc.toInt ∧ vb.toInt = vd.toInt)))] [(.ref b13), (.ref b15)])) _
      refine st40.trans ?_
      show Steps p.tables e below (T40.setTop (mkF m 132 #[.val (.int p0), .val (.int p1), .val (.int p2), .val (.int p3), .val (.int p4), .val (.int va), .val (.int vb), .val (.int vc), .val (.int vd), .val (.ref b13), .val (.ref b15), .val (.ref bx25), .val (.int (bI (va.toInt = vc.toInt ∧ vb.toInt = vd.toInt)))] [(.int (bI (vc.toInt = va.toInt ∧ vd.toInt = vb.toInt)))])) _
      refine XS.iload X40.here hx rfl (hb hby at_132) rfl ?_
      show Steps p.tables e below (T40.setTop (mkF m 134 #[.val (.int p0), .val (.int p1), .val (.int p2), .val (.int p3), .val (.int p4), .val (.int va), .val (.int vb), .val (.int vc), .val (.int vd), .val (.ref b13), .val (.ref b15), .val (.ref bx25), .val (.int (bI (va.toInt = vc.toInt ∧ vb.toInt = vd.toInt)))] [(.int (bI (va.toInt = vc.toInt ∧ vb.toInt = vd.toInt))), (.int (bI (vc.toInt = va.toInt ∧ vd.toInt = vb.toInt)))])) _
      refine XS.icmpNo X40.here hx rfl (hb hby at_134) rfl (teq hc41).2 ?_
      show Steps p.tables e below (T40.setTop (mkF m 137 #[.val (.int p0), .val (.int p1), .val (.int p2), .val (.int p3), .val (.int p4), .val (.int va), .val (.int vb), .val (.int vc), .val (.int vd), .val (.ref b13), .val (.ref b15), .val (.ref bx25), .val (.int (bI (va.toInt = vc.toInt ∧ vb.toInt = vd.toInt)))] [])) _
      refine XS.aload X40.here hx rfl (hb hby at_137) rfl rfl ?_
      show Steps p.tables e below (T40.setTop (mkF m 139 #[.val (.int p0), .val (.int p1), .val (.int p2), .val (.int p3), .val (.int p4), .val (.int va), .val (.int vb), .val (.int vc), .val (.int vd), .val (.ref b13), .val (.ref b15), .val (.ref bx25), .val (.int (bI (va.toInt = vc.toInt ∧ vb.toInt = vd.toInt)))] [(.ref b13)])) _
      refine XS.aload X40.here hx rfl (hb hby at_139) rfl rfl ?_
      show Steps p.tables e below (T40.setTop (mkF m 141 #[.val (.int p0), .val (.int p1), .val (.int p2), .val (.int p3), .val (.int p4), .val (.int va), .val (.int vb), .val (.int vc), .val (.int vd), .val (.ref b13), .val (.ref b15), .val (.ref bx25), .val (.int (bI (va.toInt = vc.toInt ∧ vb.toInt = vd.toInt)))] [(.ref b13), (.ref b13)])) _
      refine st42.trans ?_
      show Steps p.tables e below (T42.setTop (mkF m 144 #[.val (.int p0), .val (.int p1), .val (.int p2), .val (.int p3), .val (.int p4), .val (.int va), .val (.int vb), .val (.int vc), .val (.int vd), .val (.ref b13), .val (.ref b15), .val (.ref bx25), .val (.int (bI (va.toInt = vc.toInt ∧ vb.toInt = vd.toInt)))] [(.int (bI (va.toInt = va.toInt ∧ vb.toInt = vb.toInt)))])) _
      refine XS.ifNo X42.here hx rfl (hb hby at_144) rfl ((if0 _ _).trans (feq hc43).1) ?_
      show Steps p.tables e below (T42.setTop (mkF m 147 #[.val (.int p0), .val (.int p1), .val (.int p2), .val (.int p3), .val (.int p4), .val (.int va), .val (.int vb), .val (.int vc), .val (.int vd), .val (.ref b13), .val (.ref b15), .val (.ref bx25), .val (.int (bI (va.toInt = vc.toInt ∧ vb.toInt = vd.toInt)))] [])) _
      refine XS.aload X42.here hx rfl (hb hby at_147) rfl rfl ?_
      show Steps p.tables e below (T42.setTop (mkF m 149 #[.val (.int p0), .val (.int p1), .val (.int p2), .val (.int p3), .val (.int p4), .val (.int va), .val (.int vb), .val (.int vc), .val (.int vd), .val (.ref b13), .val (.ref b15), .val (.ref bx25), .val (.int (bI (va.toInt = vc.toInt ∧ vb.toInt = vd.toInt)))] [(.ref b13)])) _
      refine XS.aload X42.here hx rfl (hb hby at_149) rfl rfl ?_
      show Steps p.tables e below (T42.setTop (mkF m 151 #[.val (.int p0), .val (.int p1), .val (.int p2), .val (.int p3), .val (.int p4), .val (.int va), .val (.int vb), .val (.int vc), .val (.int vd), .val (.ref b13), .val (.ref b15), .val (.ref bx25), .val (.int (bI (va.toInt = vc.toInt ∧ vb.toInt = vd.toInt)))] [(.ref bx25), (.ref b13)])) _
      refine st44.trans ?_
      show Steps p.tables e below (T44.setTop (mkF m 154 #[.val (.int p0), .val (.int p1), .val (.int p2), .val (.int p3), .val (.int p4), .val (.int va), .val (.int vb), .val (.int vc), .val (.int vd), .val (.ref b13), .val (.ref b15), .val (.ref bx25), .val (.int (bI (va.toInt = vc.toInt ∧ vb.toInt = vd.toInt)))] [(.int (0 : Int32))])) _
      refine XS.ifNo X44.here hx rfl (hb hby at_154) rfl ((if0 _ _).trans (teq hc45).2) ?_
      show Steps p.tables e below (T44.setTop (mkF m 157 #[.val (.int p0), .val (.int p1), .val (.int p2), .val (.int p3), .val (.int p4), .val (.int va), .val (.int vb), .val (.int vc), .val (.int vd), .val (.ref b13), .val (.ref b15), .val (.ref bx25), .val (.int (bI (va.toInt = vc.toInt ∧ vb.toInt = vd.toInt)))] [])) _
      refine XS.aload X44.here hx rfl (hb hby at_157) rfl rfl ?_
      show Steps p.tables e below (T44.setTop (mkF m 159 #[.val (.int p0), .val (.int p1), .val (.int p2), .val (.int p3), .val (.int p4), .val (.int va), .val (.int vb), .val (.int vc), .val (.int vd), .val (.ref b13), .val (.ref b15), .val (.ref bx25), .val (.int (bI (va.toInt = vc.toInt ∧ vb.toInt = vd.toInt)))] [(.ref b15)])) _
      refine XS.aload X44.here hx rfl (hb hby at_159) rfl rfl ?_
      show Steps p.tables e below (T44.setTop (mkF m 161 #[.val (.int p0), .val (.int p1), .val (.int p2), .val (.int p3), .val (.int p4), .val (.int va), .val (.int vb), .val (.int vc), .val (.int vd), .val (.ref b13), .val (.ref b15), .val (.ref bx25), .val (.int (bI (va.toInt = vc.toInt ∧ vb.toInt = vd.toInt)))] [(.ref bx25), (.ref b15)])) _
      refine st46.trans ?_
      show Steps p.tables e below (T46.setTop (mkF m 164 #[.val (.int p0), .val (.int p1), .val (.int p2), .val (.int p3), .val (.int p4), .val (.int va), .val (.int vb), .val (.int vc), .val (.int vd), .val (.ref b13), .val (.ref b15), .val (.ref bx25), .val (.int (bI (va.toInt = vc.toInt ∧ vb.toInt = vd.toInt)))] [(.int (0 : Int32))])) _
      refine XS.ifNo X46.here hx rfl (hb hby at_164) rfl ((if0 _ _).trans (teq hc47).2) ?_
      show Steps p.tables e below (T46.setTop (mkF m 167 #[.val (.int p0), .val (.int p1), .val (.int p2), .val (.int p3), .val (.int p4), .val (.int va), .val (.int vb), .val (.int vc), .val (.int vd), .val (.ref b13), .val (.ref b15), .val (.ref bx25), .val (.int (bI (va.toInt = vc.toInt ∧ vb.toInt = vd.toInt)))] [])) _
      refine XS.iconst X46.here hx rfl (hb hby at_167) ?_
      show Steps p.tables e below (T46.setTop (mkF m 168 #[.val (.int p0), .val (.int p1), .val (.int p2), .val (.int p3), .val (.int p4), .val (.int va), .val (.int vb), .val (.int vc), .val (.int vd), .val (.ref b13), .val (.ref b15), .val (.ref bx25), .val (.int (bI (va.toInt = vc.toInt ∧ vb.toInt = vd.toInt)))] [(.int (1 : Int32))])) _
      refine XS.goto X46.here hx rfl (pc0 := 168) (pc' := 172) rfl (hb hby at_168) (by decide) (by decide) ?_
      show Steps p.tables e below (T46.setTop (mkF m 172 #[.val (.int p0), .val (.int p1), .val (.int p2), .val (.int p3), .val (.int p4), .val (.int va), .val (.int vb), .val (.int vc), .val (.int vd), .val (.ref b13), .val (.ref b15), .val (.ref bx25), .val (.int (bI (va.toInt = vc.toInt ∧ vb.toInt = vd.toInt)))] [(.int (1 : Int32))])) _
      exact retN X46 hx (t := .boolean) Bd.returns (by simp) (hb hby at_172) hr
    · show Q0 Z p0 p1 p2 p3 p4 wc cl h0 n0 _ T46.heap _
      rw [e46]
      exact ⟨rfl, N46⟩
  · skip
    have ohc23 : ¬ ((p4 &&& (4 : Int32)).toInt = 0) := own_neq.mp hc23
    have pre48 : ∀ t, Steps p.tables e below (T19.setTop (mkF m 92 #[.val (.int p0), .val (.int p1), .val (.int p2), .val (.int p3), .val (.int p4), .val (.int va), .val (.int vb), .val (.int vc), .val (.int vd), .val (.ref b13), .val (.ref b15), .val .null, .unset] [])) t → Steps p.tables e below (s₁.setTop (mkF m 0 #[.val (.int p0), .val (.int p1), .val (.int p2), .val (.int p3), .val (.int p4), .unset, .unset, .unset, .unset, .unset, .unset, .unset, .unset] [])) t := fun t k => pre24 t (by
      show Steps p.tables e below (T19.setTop (mkF m 78 #[.val (.int p0), .val (.int p1), .val (.int p2), .val (.int p3), .val (.int p4), .val (.int va), .val (.int vb), .val (.int vc), .val (.int vd), .val (.ref b13), .val (.ref b15), .unset, .unset] [(.int (p4 &&& (4 : Int32)))])) _
      refine XS.ifNo X19.here hx rfl (hb hby at_78) rfl ((if0 _ _).trans (feq hc23).1) ?_
      show Steps p.tables e below (T19.setTop (mkF m 81 #[.val (.int p0), .val (.int p1), .val (.int p2), .val (.int p3), .val (.int p4), .val (.int va), .val (.int vb), .val (.int vc), .val (.int vd), .val (.ref b13), .val (.ref b15), .unset, .unset] [])) _
      refine XS.aconstNull X19.here hx rfl (hb hby at_81) ?_
      show Steps p.tables e below (T19.setTop (mkF m 82 #[.val (.int p0), .val (.int p1), .val (.int p2), .val (.int p3), .val (.int p4), .val (.int va), .val (.int vb), .val (.int vc), .val (.int vd), .val (.ref b13), .val (.ref b15), .unset, .unset] [.null])) _
      refine XS.goto X19.here hx rfl (pc0 := 82) (pc' := 90) rfl (hb hby at_82) (by decide) (by decide) ?_
      show Steps p.tables e below (T19.setTop (mkF m 90 #[.val (.int p0), .val (.int p1), .val (.int p2), .val (.int p3), .val (.int p4), .val (.int va), .val (.int vb), .val (.int vc), .val (.int vd), .val (.ref b13), .val (.ref b15), .unset, .unset] [.null])) _
      refine XS.astore X19.here hx rfl (hb hby at_90) rfl rfl (l' := #[.val (.int p0), .val (.int p1), .val (.int p2), .val (.int p3), .val (.int p4), .val (.int va), .val (.int vb), .val (.int vc), .val (.int vd), .val (.ref b13), .val (.ref b15), .val .null, .unset]) rfl ?_
      exact k)
    obtain ⟨sf, rfl, pre49⟩ : ∃ (sf : Int32), (sf = bI (va.toInt = vc.toInt ∧ vb.toInt = vd.toInt)) ∧ ∀ t, Steps p.tables e below (T19.setTop (mkF m 111 #[.val (.int p0), .val (.int p1), .val (.int p2), .val (.int p3), .val (.int p4), .val (.int va), .val (.int vb), .val (.int vc), .val (.int vd), .val (.ref b13), .val (.ref b15), .val .null, .unset] [(.int sf)])) t → Steps p.tables e below (s₁.setTop (mkF m 0 #[.val (.int p0), .val (.int p1), .val (.int p2), .val (.int p3), .val (.int p4), .unset, .unset, .unset, .unset, .unset, .unset, .unset, .unset] [])) t := by
      have pre51 : ∀ t, Steps p.tables e below (T19.setTop (mkF m 96 #[.val (.int p0), .val (.int p1), .val (.int p2), .val (.int p3), .val (.int p4), .val (.int va), .val (.int vb), .val (.int vc), .val (.int vd), .val (.ref b13), .val (.ref b15), .val .null, .unset] [(.int vc), (.int va)])) t → Steps p.tables e below (s₁.setTop (mkF m 0 #[.val (.int p0), .val (.int p1), .val (.int p2), .val (.int p3), .val (.int p4), .unset, .unset, .unset, .unset, .unset, .unset, .unset, .unset] [])) t := fun t k => pre48 t (by
        show Steps p.tables e below (T19.setTop (mkF m 92 #[.val (.int p0), .val (.int p1), .val (.int p2), .val (.int p3), .val (.int p4), .val (.int va), .val (.int vb), .val (.int vc), .val (.int vd), .val (.ref b13), .val (.ref b15), .val .null, .unset] [])) _
        refine XS.iload X19.here hx rfl (hb hby at_92) rfl ?_
        show Steps p.tables e below (T19.setTop (mkF m 94 #[.val (.int p0), .val (.int p1), .val (.int p2), .val (.int p3), .val (.int p4), .val (.int va), .val (.int vb), .val (.int vc), .val (.int vd), .val (.ref b13), .val (.ref b15), .val .null, .unset] [(.int va)])) _
        refine XS.iload X19.here hx rfl (hb hby at_94) rfl ?_
        exact k)
      by_cases hc50 : va = vc
      · skip
        have ohc50 : va.toInt = vc.toInt := own_eq.mp hc50
        have pre53 : ∀ t, Steps p.tables e below (T19.setTop (mkF m 103 #[.val (.int p0), .val (.int p1), .val (.int p2), .val (.int p3), .val (.int p4), .val (.int va), .val (.int vb), .val (.int vc), .val (.int vd), .val (.ref b13), .val (.ref b15), .val .null, .unset] [(.int vd), (.int vb)])) t → Steps p.tables e below (s₁.setTop (mkF m 0 #[.val (.int p0), .val (.int p1), .val (.int p2), .val (.int p3), .val (.int p4), .unset, .unset, .unset, .unset, .unset, .unset, .unset, .unset] [])) t := fun t k => pre51 t (by
          show Steps p.tables e below (T19.setTop (mkF m 96 #[.val (.int p0), .val (.int p1), .val (.int p2), .val (.int p3), .val (.int p4), .val (.int va), .val (.int vb), .val (.int vc), .val (.int vd), .val (.ref b13), .val (.ref b15), .val .null, .unset] [(.int vc), (.int va)])) _
          refine XS.icmpNo X19.here hx rfl (hb hby at_96) rfl (teq hc50).2 ?_
          show Steps p.tables e below (T19.setTop (mkF m 99 #[.val (.int p0), .val (.int p1), .val (.int p2), .val (.int p3), .val (.int p4), .val (.int va), .val (.int vb), .val (.int vc), .val (.int vd), .val (.ref b13), .val (.ref b15), .val .null, .unset] [])) _
          refine XS.iload X19.here hx rfl (hb hby at_99) rfl ?_
          show Steps p.tables e below (T19.setTop (mkF m 101 #[.val (.int p0), .val (.int p1), .val (.int p2), .val (.int p3), .val (.int p4), .val (.int va), .val (.int vb), .val (.int vc), .val (.int vd), .val (.ref b13), .val (.ref b15), .val .null, .unset] [(.int vb)])) _
          refine XS.iload X19.here hx rfl (hb hby at_101) rfl ?_
          exact k)
        by_cases hc52 : vb = vd
        · skip
          have ohc52 : vb.toInt = vd.toInt := own_eq.mp hc52
          refine ⟨(1 : Int32), ?_, fun t k => pre53 t ?_⟩
          · exact own_c1 (by omega)
          · skip
            show Steps p.tables e below (T19.setTop (mkF m 103 #[.val (.int p0), .val (.int p1), .val (.int p2), .val (.int p3), .val (.int p4), .val (.int va), .val (.int vb), .val (.int vc), .val (.int vd), .val (.ref b13), .val (.ref b15), .val .null, .unset] [(.int vd), (.int vb)])) _
            refine XS.icmpNo X19.here hx rfl (hb hby at_103) rfl (teq hc52).2 ?_
            show Steps p.tables e below (T19.setTop (mkF m 106 #[.val (.int p0), .val (.int p1), .val (.int p2), .val (.int p3), .val (.int p4), .val (.int va), .val (.int vb), .val (.int vc), .val (.int vd), .val (.ref b13), .val (.ref b15), .val .null, .unset] [])) _
            refine XS.iconst X19.here hx rfl (hb hby at_106) ?_
            show Steps p.tables e below (T19.setTop (mkF m 107 #[.val (.int p0), .val (.int p1), .val (.int p2), .val (.int p3), .val (.int p4), .val (.int va), .val (.int vb), .val (.int vc), .val (.int vd), .val (.ref b13), .val (.ref b15), .val .null, .unset] [(.int (1 : Int32))])) _
            refine XS.goto X19.here hx rfl (pc0 := 107) (pc' := 111) rfl (hb hby at_107) (by decide) (by decide) ?_
            exact k
        · skip
          have ohc52 : ¬ (vb.toInt = vd.toInt) := own_neq.mp hc52
          refine ⟨(0 : Int32), ?_, fun t k => pre53 t ?_⟩
          · exact own_c0 (by omega)
          · skip
            show Steps p.tables e below (T19.setTop (mkF m 103 #[.val (.int p0), .val (.int p1), .val (.int p2), .val (.int p3), .val (.int p4), .val (.int va), .val (.int vb), .val (.int vc), .val (.int vd), .val (.ref b13), .val (.ref b15), .val .null, .unset] [(.int vd), (.int vb)])) _
            refine XS.icmpYes X19.here hx rfl (pc0 := 103) (pc' := 110) rfl (hb hby at_103) rfl (feq hc52).2 (by decide) (by decide) ?_
            show Steps p.tables e below (T19.setTop (mkF m 110 #[.val (.int p0), .val (.int p1), .val (.int p2), .val (.int p3), .val (.int p4), .val (.int va), .val (.int vb), .val (.int vc), .val (.int vd), .val (.ref b13), .val (.ref b15), .val .null, .unset] [])) _
            refine XS.iconst X19.here hx rfl (hb hby at_110) ?_
            exact k
      · skip
        have ohc50 : ¬ (va.toInt = vc.toInt) := own_neq.mp hc50
        refine ⟨(0 : Int32), ?_, fun t k => pre51 t ?_⟩
        · exact own_c0 (by omega)
        · skip
          show Steps p.tables e below (T19.setTop (mkF m 96 #[.val (.int p0), .val (.int p1), .val (.int p2), .val (.int p3), .val (.int p4), .val (.int va), .val (.int vb), .val (.int vc), .val (.int vd), .val (.ref b13), .val (.ref b15), .val .null, .unset] [(.int vc), (.int va)])) _
          refine XS.icmpYes X19.here hx rfl (pc0 := 96) (pc' := 110) rfl (hb hby at_96) rfl (feq hc50).2 (by decide) (by decide) ?_
          show Steps p.tables e below (T19.setTop (mkF m 110 #[.val (.int p0), .val (.int p1), .val (.int p2), .val (.int p3), .val (.int p4), .val (.int va), .val (.int vb), .val (.int vc), .val (.int vd), .val (.ref b13), .val (.ref b15), .val .null, .unset] [])) _
          refine XS.iconst X19.here hx rfl (hb hby at_110) ?_
          exact k
    have tsf := own_bt (P := va.toInt = vc.toInt ∧ vb.toInt = vd.toInt)
    obtain ⟨cq54, kq54, q54a, q54b, q54c⟩ := isOf hZ rfl c20
    obtain ⟨_, _, ⟨T54, L54, k54, n54⟩, -, X54, ⟨Lc54, hQ54, l54, y54, z54⟩, st54⟩ := X19.virtualBack hx (y := (⟨"com/example/acker/acker/engine/Backoff", "equals", "(Ljava/lang/Object;)Z"⟩ : MethodName)) (z := (⟨"com/example/acker/acker/engine/Backoff", "equals", "(Ljava/lang/Object;)Z"⟩ : MethodName)) hown (mvT hZ (hw _ (List.mem_of_getElem? (i := 27) rfl))) (mvT hZ (hw _ (List.mem_of_getElem? (i := 28) rfl))) (notFace_of_selects (args := #[]) (mvT hZ (hw _ (List.mem_of_getElem? (i := 30) rfl)))) (mvT hZ (hw _ (List.mem_of_getElem? (i := 30) rfl))) (mvT hZ (hw _ (List.mem_of_getElem? (i := 29) rfl))) (by decide) (backOf (W := 0) (rm5 l Z a0 hw [] b13 b15 va vb vc vd T19.heap n0 Z19 c21 c22 Fq19_0 Fq19_1 Eq19) hZ (hw _ (List.mem_of_getElem? (i := 31) rfl)) (hw _ (List.mem_of_getElem? (i := 8) rfl)) (by decide) (by decide)) q54a q54c (g := (mkF m 117 #[.val (.int p0), .val (.int p1), .val (.int p2), .val (.int p3), .val (.int p4), .val (.int va), .val (.int vb), .val (.int vc), .val (.int vd), .val (.ref b13), .val (.ref b15), .val .null, .val (.int (bI (va.toInt = vc.toInt ∧ vb.toInt = vd.toInt)))] [(.ref b15), (.ref b13)])) rfl (by rw [hml]; rfl) (Steps.refl _) (argsL := [(.ref b15)]) (rest := []) (lenOf pd_5 rfl) rfl (by show 2 * 0 + _ ≤ _; exact Nat.le_of_eq rfl) (hb hby at_117) (fun _ _ => ⟨rfl, rfl, (by decide : 2 + 0 ≤ _), (by decide : 4 + 0 ≤ _)⟩)
    dsimp only [Pt.U, Pt.locs, Pt.cells, Pt.slots] at X54 l54 y54 z54 st54 hQ54
    subst l54 y54 z54
    obtain ⟨rfl, Nq54, e54⟩ := hQ54
    have N54 := Fr.app N19 Nq54
    have t54 := own_bt (P := va.toInt = vc.toInt ∧ vb.toInt = vd.toInt)
    have hc55 : (bI (va.toInt = vc.toInt ∧ vb.toInt = vd.toInt)) = (bI (va.toInt = vc.toInt ∧ vb.toInt = vd.toInt)) := own_eq.mpr (show (bI (va.toInt = vc.toInt ∧ vb.toInt = vd.toInt)).toInt = (bI (va.toInt = vc.toInt ∧ vb.toInt = vd.toInt)).toInt by omega)
    have ohc55 : (bI (va.toInt = vc.toInt ∧ vb.toInt = vd.toInt)).toInt = (bI (va.toInt = vc.toInt ∧ vb.toInt = vd.toInt)).toInt := own_eq.mp hc55
    obtain ⟨cq56, kq56, q56a, q56b, q56c⟩ := isOf hZ e54 Eq19
    obtain ⟨_, _, ⟨T56, L56, k56, n56⟩, -, X56, ⟨Lc56, hQ56, l56, y56, z56⟩, st56⟩ := X54.virtualBack hx (y := (⟨"com/example/acker/acker/engine/Backoff", "equals", "(Ljava/lang/Object;)Z"⟩ : MethodName)) (z := (⟨"com/example/acker/acker/engine/Backoff", "equals", "(Ljava/lang/Object;)Z"⟩ : MethodName)) hown (mvT hZ (hw _ (List.mem_of_getElem? (i := 27) rfl))) (mvT hZ (hw _ (List.mem_of_getElem? (i := 28) rfl))) (notFace_of_selects (args := #[]) (mvT hZ (hw _ (List.mem_of_getElem? (i := 30) rfl)))) (mvT hZ (hw _ (List.mem_of_getElem? (i := 30) rfl))) (mvT hZ (hw _ (List.mem_of_getElem? (i := 29) rfl))) (by decide) (backOf (W := 0) (rm5 l Z a0 hw [] b15 b13 vc vd va vb T19.heap n0 Z19 Fq19_0 Fq19_1 c21 c22 c20) hZ (hw _ (List.mem_of_getElem? (i := 31) rfl)) (hw _ (List.mem_of_getElem? (i := 8) rfl)) (by decide) (by decide)) q56a q56c (g := (mkF m 129 #[.val (.int p0), .val (.int p1), .val (.int p2), .val (.int p3), .val (.int p4), .val (.int va), .val (.int vb), .val (.int vc), .val (.int vd), .val (.ref b13), .val (.ref b15), .val .null, .val (.int (bI (va.toInt = vc.toInt ∧ vb.toInt = vd.toInt)))] [(.ref b13), (.ref b15)])) rfl (by rw [hml]; rfl) (Steps.refl _) (argsL := [(.ref b13)]) (rest := []) (lenOf pd_5 rfl) rfl (by show 2 * 0 + _ ≤ _; exact Nat.le_of_eq rfl) (hb hby at_129) (fun _ _ => ⟨rfl, e54, (by decide : 2 + 0 ≤ _), (by decide : 4 + 0 ≤ _)⟩)
    dsimp only [Pt.U, Pt.locs, Pt.cells, Pt.slots] at X56 l56 y56 z56 st56 hQ56
    subst l56 y56 z56
    obtain ⟨rfl, Nq56, e56⟩ := hQ56
    have N56 := Fr.app N54 Nq56
    have t56 := own_bt (P := vc.toInt = va.toInt ∧ vd.toInt = vb.toInt)
    have hc57 : (bI (vc.toInt = va.toInt ∧ vd.toInt = vb.toInt)) = (bI (va.toInt = vc.toInt ∧ vb.toInt = vd.toInt)) := own_eq.mpr (show (bI (vc.toInt = va.toInt ∧ vd.toInt = vb.toInt)).toInt = (bI (va.toInt = vc.toInt ∧ vb.toInt = vd.toInt)).toInt by omega)
    have ohc57 : (bI (vc.toInt = va.toInt ∧ vd.toInt = vb.toInt)).toInt = (bI (va.toInt = vc.toInt ∧ vb.toInt = vd.toInt)).toInt := own_eq.mp hc57
    obtain ⟨cq58, kq58, q58a, q58b, q58c⟩ := isOf hZ e56 c20
    obtain ⟨_, _, ⟨T58, L58, k58, n58⟩, -, X58, ⟨Lc58, hQ58, l58, y58, z58⟩, st58⟩ := X56.virtualBack hx (y := (⟨"com/example/acker/acker/engine/Backoff", "equals", "(Ljava/lang/Object;)Z"⟩ : MethodName)) (z := (⟨"com/example/acker/acker/engine/Backoff", "equals", "(Ljava/lang/Object;)Z"⟩ : MethodName)) hown (mvT hZ (hw _ (List.mem_of_getElem? (i := 27) rfl))) (mvT hZ (hw _ (List.mem_of_getElem? (i := 28) rfl))) (notFace_of_selects (args := #[]) (mvT hZ (hw _ (List.mem_of_getElem? (i := 30) rfl)))) (mvT hZ (hw _ (List.mem_of_getElem? (i := 30) rfl))) (mvT hZ (hw _ (List.mem_of_getElem? (i := 29) rfl))) (by decide) (backOf (W := 0) (rm5 l Z a0 hw [] b13 b13 va vb va vb T19.heap n0 Z19 c21 c22 c21 c22 c20) hZ (hw _ (List.mem_of_getElem? (i := 31) rfl)) (hw _ (List.mem_of_getElem? (i := 8) rfl)) (by decide) (by decide)) q58a q58c (g := (mkF m 141 #[.val (.int p0), .val (.int p1), .val (.int p2), .val (.int p3), .val (.int p4), .val (.int va), .val (.int vb), .val (.int vc), .val (.int vd), .val (.ref b13), .val (.ref b15), .val .null, .val (.int (bI (va.toInt = vc.toInt ∧ vb.toInt = vd.toInt)))] [(.ref b13), (.ref b13)])) rfl (by rw [hml]; rfl) (Steps.refl _) (argsL := [(.ref b13)]) (rest := []) (lenOf pd_5 rfl) rfl (by show 2 * 0 + _ ≤ _; exact Nat.le_of_eq rfl) (hb hby at_141) (fun _ _ => ⟨rfl, e56, (by decide : 2 + 0 ≤ _), (by decide : 4 + 0 ≤ _)⟩)
    dsimp only [Pt.U, Pt.locs, Pt.cells, Pt.slots] at X58 l58 y58 z58 st58 hQ58
    subst l58 y58 z58
    obtain ⟨rfl, Nq58, e58⟩ := hQ58
    have N58 := Fr.app N56 Nq58
    have t58 := own_bt (P := va.toInt = va.toInt ∧ vb.toInt = vb.toInt)
    have hc59 : ¬ ((bI (va.toInt = va.toInt ∧ vb.toInt = vb.toInt)) = (0 : Int32)) := own_neq.mpr (show ¬ ((bI (va.toInt = va.toInt ∧ vb.toInt = vb.toInt)).toInt = 0) by omega)
    have ohc59 : ¬ ((bI (va.toInt = va.toInt ∧ vb.toInt = vb.toInt)).toInt = 0) := own_neq.mp hc59
    obtain ⟨cq60, kq60, q60a, q60b, q60c⟩ := isOf hZ e58 c20
    obtain ⟨_, _, ⟨T60, L60, k60, n60⟩, -, X60, ⟨Lc60, hQ60, l60, y60, z60⟩, st60⟩ := X58.virtualBack hx (y := (⟨"com/example/acker/acker/engine/Backoff", "equals", "(Ljava/lang/Object;)Z"⟩ : MethodName)) (z := (⟨"com/example/acker/acker/engine/Backoff", "equals", "(Ljava/lang/Object;)Z"⟩ : MethodName)) hown (mvT hZ (hw _ (List.mem_of_getElem? (i := 27) rfl))) (mvT hZ (hw _ (List.mem_of_getElem? (i := 28) rfl))) (notFace_of_selects (args := #[]) (mvT hZ (hw _ (List.mem_of_getElem? (i := 30) rfl)))) (mvT hZ (hw _ (List.mem_of_getElem? (i := 30) rfl))) (mvT hZ (hw _ (List.mem_of_getElem? (i := 29) rfl))) (by decide) (backOf (W := 0) (rm5n l Z a0 hw [] b13  T19.heap n0 Z19 ) hZ (hw _ (List.mem_of_getElem? (i := 31) rfl)) (hw _ (List.mem_of_getElem? (i := 8) rfl)) (by decide) (by decide)) q60a q60c (g := (mkF m 151 #[.val (.int p0), .val (.int p1), .val (.int p2), .val (.int p3), .val (.int p4), .val (.int va), .val (.int vb), .val (.int vc), .val (.int vd), .val (.ref b13), .val (.ref b15), .val .null, .val (.int (bI (va.toInt = vc.toInt ∧ vb.toInt = vd.toInt)))] [.null, (.ref b13)])) rfl (by rw [hml]; rfl) (Steps.refl _) (argsL := [.null]) (rest := []) (lenOf pd_5 rfl) rfl (by show 2 * 0 + _ ≤ _; exact Nat.le_of_eq rfl) (hb hby at_151) (fun _ _ => ⟨rfl, e58, (by decide : 2 + 0 ≤ _), (by decide : 4 + 0 ≤ _)⟩)
    dsimp only [Pt.U, Pt.locs, Pt.cells, Pt.slots] at X60 l60 y60 z60 st60 hQ60
    subst l60 y60 z60
    obtain ⟨rfl, Nq60, e60⟩ := hQ60
    have N60 := Fr.app N58 Nq60
    have hc61 : (0 : Int32) = (0 : Int32) := by decide
    obtain ⟨cq62, kq62, q62a, q62b, q62c⟩ := isOf hZ e60 Eq19
    obtain ⟨_, _, ⟨T62, L62, k62, n62⟩, -, X62, ⟨Lc62, hQ62, l62, y62, z62⟩, st62⟩ := X60.virtualBack hx (y := (⟨"com/example/acker/acker/engine/Backoff", "equals", "(Ljava/lang/Object;)Z"⟩ : MethodName)) (z := (⟨"com/example/acker/acker/engine/Backoff", "equals", "(Ljava/lang/Object;)Z"⟩ : MethodName)) hown (mvT hZ (hw _ (List.mem_of_getElem? (i := 27) rfl))) (mvT hZ (hw _ (List.mem_of_getElem? (i := 28) rfl))) (notFace_of_selects (args := #[]) (mvT hZ (hw _ (List.mem_of_getElem? (i := 30) rfl)))) (mvT hZ (hw _ (List.mem_of_getElem? (i := 30) rfl))) (mvT hZ (hw _ (List.mem_of_getElem? (i := 29) rfl))) (by decide) (backOf (W := 0) (rm5n l Z a0 hw [] b15  T19.heap n0 Z19 ) hZ (hw _ (List.mem_of_getElem? (i := 31) rfl)) (hw _ (List.mem_of_getElem? (i := 8) rfl)) (by decide) (by decide)) q62a q62c (g := (mkF m 161 #[.val (.int p0), .val (.int p1), .val (.int p2), .val (.int p3), .val (.int p4), .val (.int va), .val (.int vb), .val (.int vc), .val (.int vd), .val (.ref b13), .val (.ref b15), .val .null, .val (.int (bI (va.toInt = vc.toInt ∧ vb.toInt = vd.toInt)))] [.null, (.ref b15)])) rfl (by rw [hml]; rfl) (Steps.refl _) (argsL := [.null]) (rest := []) (lenOf pd_5 rfl) rfl (by show 2 * 0 + _ ≤ _; exact Nat.le_of_eq rfl) (hb hby at_161) (fun _ _ => ⟨rfl, e60, (by decide : 2 + 0 ≤ _), (by decide : 4 + 0 ≤ _)⟩)
    dsimp only [Pt.U, Pt.locs, Pt.cells, Pt.slots] at X62 l62 y62 z62 st62 hQ62
    subst l62 y62 z62
    obtain ⟨rfl, Nq62, e62⟩ := hQ62
    have N62 := Fr.app N60 Nq62
    have hc63 : (0 : Int32) = (0 : Int32) := by decide
    obtain ⟨fs, hr, hrun, hended, hW, hsame⟩ := X62.leave (v := some (.int (1 : Int32))) (fun h => by rw [Bd.returns] at h; cases h)
    refine ⟨_, _, pre0 _ (pre49 _ ?_), hrun, hended, _, _, rfl, ?_, ⟨_, rfl⟩, hW, hsame.mono (by decide) (by decide)⟩
    · skip
      show Steps p.tables e below (T19.setTop (mkF m 111 #[.val (.int p0), .val (.int p1), .val (.int p2), .val (.int p3), .val (.int p4), .val (.int va), .val (.int vb), .val (.int vc), .val (.int vd), .val (.ref b13), .val (.ref b15), .val .null, .unset] [(.int (bI (va.toInt = vc.toInt ∧ vb.toInt = vd.toInt)))])) _
      refine XS.istore X19.here hx rfl (hb hby at_111) rfl (l' := #[.val (.int p0), .val (.int p1), .val (.int p2), .val (.int p3), .val (.int p4), .val (.int va), .val (.int vb), .val (.int vc), .val (.int vd), .val (.ref b13), .val (.ref b15), .val .null, .val (.int (bI (va.toInt = vc.toInt ∧ vb.toInt = vd.toInt)))]) rfl ?_
      show Steps p.tables e below (T19.setTop (mkF m 113 #[.val (.int p0), .val (.int p1), .val (.int p2), .val (.int p3), .val (.int p4), .val (.int va), .val (.int vb), .val (.int vc), .val (.int vd), .val (.ref b13), .val (.ref b15), .val .null, .val (.int (bI (va.toInt = vc.toInt ∧ vb.toInt = vd.toInt)))] [])) _
      refine XS.aload X19.here hx rfl (hb hby at_113) rfl rfl ?_
      show Steps p.tables e below (T19.setTop (mkF m 115 #[.val (.int p0), .val (.int p1), .val (.int p2), .val (.int p3), .val (.int p4), .val (.int va), .val (.int vb), .val (.int vc), .val (.int vd), .val (.ref b13), .val (.ref b15), .val .null, .val (.int (bI (va.toInt = vc.toInt ∧ vb.toInt = vd.toInt)))] [(.ref b13)])) _
      refine XS.aload X19.here hx rfl (hb hby at_115) rfl rfl ?_
      show Steps p.tables e below (T19.setTop (mkF m 117 #[.val (.int p0), .val (.int p1), .val (.int p2), .val (.int p3), .val (.int p4), .val (.int va), .val (.int vb), .val (.int vc), .val (.int vd), .val (.ref b13), .val (.ref b15), .val .null, .val (.int (bI (va.toInt = vc.toInt ∧ vb.toInt = vd.toInt)))] [(.ref b15), (.ref b13)])) _
      refine st54.trans ?_
      show Steps p.tables e below (T54.setTop (mkF m 120 #[.val (.int p0), .val (.int p1), .val (.int p2), .val (.int p3), .val (.int p4), .val (.int va), .val (.int vb), .val (.int vc), .val (.int vd), .val (.ref b13), .val (.ref b15), .val .null, .val (.int (bI (va.toInt = vc.toInt ∧ vb.toInt = vd.toInt)))] [(.int (bI (va.toInt = vc.toInt ∧ vb.toInt = vd.toInt)))])) _
      refine XS.iload X54.here hx rfl (hb hby at_120) rfl ?_
      show Steps p.tables e below (T54.setTop (mkF m 122 #[.val (.int p0), .val (.int p1), .val (.int p2), .val (.int p3), .val (.int p4), .val (.int va), .val (.int vb), .val (.int vc), .val (.int vd), .val (.ref b13), .val (.ref b15), .val .null, .val (.int (bI (va.toInt = vc.toInt ∧ vb.toInt = vd.toInt)))] [(.int (bI (va.toInt = vc.toInt ∧ vb.toInt = vd.toInt))), (.int (bI (va.toInt = vc.toInt ∧ vb.toInt = vd.toInt)))])) _
      refine XS.icmpNo X54.here hx rfl (hb hby at_122) rfl (teq hc55).2 ?_
      show Steps p.tables e below (T54.setTop (mkF m 125 #[.val (.int p0), .val (.int p1), .val (.int p2), .val (.int p3), .val (.int p4), .val (.int va), .val (.int vb), .val (.int vc), .val (.int vd), .val (.ref b13), .val (.ref b15), .val .null, .val (.int (bI (va.toInt = vc.toInt ∧ vb.toInt = vd.toInt)))] [])) _
      refine XS.aload X54.here hx rfl (hb hby at_125) rfl rfl ?_
      show Steps p.tables e below (T54.setTop (mkF m 127 #[.val (.int p0), .val (.int p1), .val (.int p2), .val (.int p3), .val (.int p4), .val (.int va), .val (.int vb), .val (.int vc), .val (.int vd), .val (.ref b13), .val (.ref b15), .val .null, .val (.int (bI (va.toInt = vc.toInt ∧ vb.toInt = vd.toInt)))] [(.ref b15)])) _
      refine XS.aload X54.here hx rfl (hb hby at_127) rfl rfl ?_
      show Steps p.tables e below (T54.setTop (mkF m 129 #[.val (.int p0), .val (.int p1), .val (.int p2), .val (.int p3), .val (.int p4), .val (.int va), .val (.int vb), .val (.int vc), .val (.int vd), .val (.ref b13), .val (.ref b15), .val .null, .val (.int (bI (va.toInt = vc.toInt ∧ vb.toInt = vd.toInt)))] [(.ref b13), (.ref b15)])) _
      refine st56.trans ?_
      show Steps p.tables e below (T56.setTop (mkF m 132 #[.val (.int p0), .val (.int p1), .val (.int p2), .val (.int p3), .val (.int p4), .val (.int va), .val (.int vb), .val (.int vc), .val (.int vd), .val (.ref b13), .val (.ref b15), .val .null, .val (.int (bI (va.toInt = vc.toInt ∧ vb.toInt = vd.toInt)))] [(.int (bI (vc.toInt = va.toInt ∧ vd.toInt = vb.toInt)))])) _
      refine XS.iload X56.here hx rfl (hb hby at_132) rfl ?_
      show Steps p.tables e below (T56.setTop (mkF m 134 #[.val (.int p0), .val (.int p1), .val (.int p2), .val (.int p3), .val (.int p4), .val (.int va), .val (.int vb), .val (.int vc), .val (.int vd), .val (.ref b13), .val (.ref b15), .val .null, .val (.int (bI (va.toInt = vc.toInt ∧ vb.toInt = vd.toInt)))] [(.int (bI (va.toInt = vc.toInt ∧ vb.toInt = vd.toInt))), (.int (bI (vc.toInt = va.toInt ∧ vd.toInt = vb.toInt)))])) _
      refine XS.icmpNo X56.here hx rfl (hb hby at_134) rfl (teq hc57).2 ?_
      show Steps p.tables e below (T56.setTop (mkF m 137 #[.val (.int p0), .val (.int p1), .val (.int p2), .val (.int p3), .val (.int p4), .val (.int va), .val (.int vb), .val (.int vc), .val (.int vd), .val (.ref b13), .val (.ref b15), .val .null, .val (.int (bI (va.toInt = vc.toInt ∧ vb.toInt = vd.toInt)))] [])) _
      refine XS.aload X56.here hx rfl (hb hby at_137) rfl rfl ?_
      show Steps p.tables e below (T56.setTop (mkF m 139 #[.val (.int p0), .val (.int p1), .val (.int p2), .val (.int p3), .val (.int p4), .val (.int va), .val (.int vb), .val (.int vc), .val (.int vd), .val (.ref b13), .val (.ref b15), .val .null, .val (.int (bI (va.toInt = vc.toInt ∧ vb.toInt = vd.toInt)))] [(.ref b13)])) _
      refine XS.aload X56.here hx rfl (hb hby at_139) rfl rfl ?_
      show Steps p.tables e below (T56.setTop (mkF m 141 #[.val (.int p0), .val (.int p1), .val (.int p2), .val (.int p3), .val (.int p4), .val (.int va), .val (.int vb), .val (.int vc), .val (.int vd), .val (.ref b13), .val (.ref b15), .val .null, .val (.int (bI (va.toInt = vc.toInt ∧ vb.toInt = vd.toInt)))] [(.ref b13), (.ref b13)])) _
      refine st58.trans ?_
      show Steps p.tables e below (T58.setTop (mkF m 144 #[.val (.int p0), .val (.int p1), .val (.int p2), .val (.int p3), .val (.int p4), .val (.int va), .val (.int vb), .val (.int vc), .val (.int vd), .val (.ref b13), .val (.ref b15), .val .null, .val (.int (bI (va.toInt = vc.toInt ∧ vb.toInt = vd.toInt)))] [(.int (bI (va.toInt = va.toInt ∧ vb.toInt = vb.toInt)))])) _
      refine XS.ifNo X58.here hx rfl (hb hby at_144) rfl ((if0 _ _).trans (feq hc59).1) ?_
      show Steps p.tables e below (T58.setTop (mkF m 147 #[.val (.int p0), .val (.int p1), .val (.int p2), .val (.int p3), .val (.int p4), .val (.int va), .val (.int vb), .val (.int vc), .val (.int vd), .val (.ref b13), .val (.ref b15), .val .null, .val (.int (bI (va.toInt = vc.toInt ∧ vb.toInt = vd.toInt)))] [])) _
      refine XS.aload X58.here hx rfl (hb hby at_147) rfl rfl ?_
      show Steps p.tables e below (T58.setTop (mkF m 149 #[.val (.int p0), .val (.int p1), .val (.int p2), .val (.int p3), .val (.int p4), .val (.int va), .val (.int vb), .val (.int vc), .val (.int vd), .val (.ref b13), .val (.ref b15), .val .null, .val (.int (bI (va.toInt = vc.toInt ∧ vb.toInt = vd.toInt)))] [(.ref b13)])) _
      refine XS.aload X58.here hx rfl (hb hby at_149) rfl rfl ?_
      show Steps p.tables e below (T58.setTop (mkF m 151 #[.val (.int p0), .val (.int p1), .val (.int p2), .val (.int p3), .val (.int p4), .val (.int va), .val (.int vb), .val (.int vc), .val (.int vd), .val (.ref b13), .val (.ref b15), .val .null, .val (.int (bI (va.toInt = vc.toInt ∧ vb.toInt = vd.toInt)))] [.null, (.ref b13)])) _
      refine st60.trans ?_
      show Steps p.tables e below (T60.setTop (mkF m 154 #[.val (.int p0), .val (.int p1), .val (.int p2), .val (.int p3), .val (.int p4), .val (.int va), .val (.int vb), .val (.int vc), .val (.int vd), .val (.ref b13), .val (.ref b15), .val .null, .val (.int (bI (va.toInt = vc.toInt ∧ vb.toInt = vd.toInt)))] [(.int (0 : Int32))])) _
      refine XS.ifNo X60.here hx rfl (hb hby at_154) rfl ((if0 _ _).trans (teq hc61).2) ?_
      show Steps p.tables e below (T60.setTop (mkF m 157 #[.val (.int p0), .val (.int p1), .val (.int p2), .val (.int p3), .val (.int p4), .val (.int va), .val (.int vb), .val (.int vc), .val (.int vd), .val (.ref b13), .val (.ref b15), .val .null, .val (.int (bI (va.toInt = vc.toInt ∧ vb.toInt = vd.toInt)))] [])) _
      refine XS.aload X60.here hx rfl (hb hby at_157) rfl rfl ?_
      show Steps p.tables e below (T60.setTop (mkF m 159 #[.val (.int p0), .val (.int p1), .val (.int p2), .val (.int p3), .val (.int p4), .val (.int va), .val (.int vb), .val (.int vc), .val (.int vd), .val (.ref b13), .val (.ref b15), .val .null, .val (.int (bI (va.toInt = vc.toInt ∧ vb.toInt = vd.toInt)))] [(.ref b15)])) _
      refine XS.aload X60.here hx rfl (hb hby at_159) rfl rfl ?_
      show Steps p.tables e below (T60.setTop (mkF m 161 #[.val (.int p0), .val (.int p1), .val (.int p2), .val (.int p3), .val (.int p4), .val (.int va), .val (.int vb), .val (.int vc), .val (.int vd), .val (.ref b13), .val (.ref b15), .val .null, .val (.int (bI (va.toInt = vc.toInt ∧ vb.toInt = vd.toInt)))] [.null, (.ref b15)])) _
      refine st62.trans ?_
      show Steps p.tables e below (T62.setTop (mkF m 164 #[.val (.int p0), .val (.int p1), .val (.int p2), .val (.int p3), .val (.int p4), .val (.int va), .val (.int vb), .val (.int vc), .val (.int vd), .val (.ref b13), .val (.ref b15), .val .null, .val (.int (bI (va.toInt = vc.toInt ∧ vb.toInt = vd.toInt)))] [(.int (0 : Int32))])) _
      refine XS.ifNo X62.here hx rfl (hb hby at_164) rfl ((if0 _ _).trans (teq hc63).2) ?_
      show Steps p.tables e below (T62.setTop (mkF m 167 #[.val (.int p0), .val (.int p1), .val (.int p2), .val (.int p3), .val (.int p4), .val (.int va), .val (.int vb), .val (.int vc), .val (.int vd), .val (.ref b13), .val (.ref b15), .val .null, .val (.int (bI (va.toInt = vc.toInt ∧ vb.toInt = vd.toInt)))] [])) _
      refine XS.iconst X62.here hx rfl (hb hby at_167) ?_
      show Steps p.tables e below (T62.setTop (mkF m 168 #[.val (.int p0), .val (.int p1), .val (.int p2), .val (.int p3), .val (.int p4), .val (.int va), .val (.int vb), .val (.int vc), .val (.int vd), .val (.ref b13), .val (.ref b15), .val .null, .val (.int (bI (va.toInt = vc.toInt ∧ vb.toInt = vd.toInt)))] [(.int (1 : Int32))])) _
      refine XS.goto X62.here hx rfl (pc0 := 168) (pc' := 172) rfl (hb hby at_168) (by decide) (by decide) ?_
      show Steps p.tables e below (T62.setTop (mkF m 172 #[.val (.int p0), .val (.int p1), .val (.int p2), .val (.int p3), .val (.int p4), .val (.int va), .val (.int vb), .val (.int vc), .val (.int vd), .val (.ref b13), .val (.ref b15), .val .null, .val (.int (bI (va.toInt = vc.toInt ∧ vb.toInt = vd.toInt)))] [(.int (1 : Int32))])) _
      exact retN X62 hx (t := .boolean) Bd.returns (by simp) (hb hby at_172) hr
    · show Q0 Z p0 p1 p2 p3 p4 wc cl h0 n0 _ T62.heap _
      rw [e62]
      exact ⟨rfl, N62⟩
set_option maxRecDepth 65536 in
set_option maxHeartbeats 40000000 in
theorem comes_1 {Post : Tables → Env → Array Value → State → Outcome → State → Prop} (hpost : ∀ tb e args s v u, (limb_1_1.after args s (.returned v) u = true ∧ limb_1_2.after args s (.returned v) u = true ∧ True) → FrameEnd s (.returned v) u (Jvm.fieldLocs frame_1_writes args s ++ Jvm.arrayLocs frame_1_arrays args s ++ Jvm.staticLocs frame_1_statics s) 16 128 → Post tb e args s (.returned v) u) :
    ArmFor flags0 classFile x code maxLocals ret World_1 tables_1 room_1 Calls_1 rest_1 Pre_1 Post := by
  intro l hfl _ _ p e ha hc hk s m args below hf hA hF happ hP
  obtain ⟨hcalls, hrest, hpre⟩ := hP
  obtain ⟨-, -, -, hnamed, -, -, -, hat⟩ := (Spec.applies_iff hf).mp happ
  obtain ⟨hg, hn⟩ := and_e (Cond.before_iff.mp (show (Jvm.Cond.and given_1 narrow_1).before args s = true from hpre))
  obtain ⟨g1, g2⟩ := and_e hg
  obtain ⟨g3, g4⟩ := and_e g2
  obtain ⟨g5, g6⟩ := and_e g4
  obtain ⟨g7, g8⟩ := and_e g6
  obtain ⟨g9, g10⟩ := and_e g8
  obtain ⟨w0, w1, w2, w3, w4, rfl⟩ : ∃ w0 w1 w2 w3 w4 : Value, args = #[w0, w1, w2, w3, w4] := by
    have hs : args.size = 5 := by simpa [Cond.value, given_1] using g1
    obtain ⟨L⟩ := args
    match L, hs with
    | [w0, w1, w2, w3, w4], _ => exact ⟨w0, w1, w2, w3, w4, rfl⟩
  have hw := fun d (hd : d ∈ tables_1) => atoms_spec (ws := Jvm.Cond.code x code maxLocals ret :: tables_1) hat d (List.mem_cons_of_mem _ hd)
  have hfit : Fit s := fun {y c} hc i hi => by
    obtain ⟨ha, rfl⟩ := Array.getElem?_eq_some_iff.mp hc
    have q := List.all_eq_true.mp ((Array.all_eq_true_iff_forall_mem.mp hF) _ (Array.getElem_mem ha)) i (List.mem_range.mpr hi)
    simpa [Array.getElem?_eq_getElem hi] using q
  obtain ⟨hsets, hown0⟩ := atoms_of _ (rest_1_c_eq ▸ (show rest_1_c.before _ s = true from hrest))
  have hr0 := Cond.before_iff.mp hown0
  obtain ⟨i0, ei0⟩ := is_v g3
  obtain rfl : w0 = (.int i0) := Option.some.inj ei0
  obtain ⟨i1, ei1⟩ := is_v g5
  obtain rfl : w1 = (.int i1) := Option.some.inj ei1
  obtain ⟨i2, ei2⟩ := is_v g7
  obtain rfl : w2 = (.int i2) := Option.some.inj ei2
  obtain ⟨i3, ei3⟩ := is_v g9
  obtain rfl : w3 = (.int i3) := Option.some.inj ei3
  obtain ⟨i4, ei4⟩ := is_v g10
  obtain rfl : w4 = (.int i4) := Option.some.inj ei4
  have ev_h := own_eqI (Cond.before_iff.mp (hsets _ (List.mem_of_getElem? (i := 3) rfl)))
  have S_h : Sta s s.heap "java/lang/Integer$IntegerCache" "high" "I" (.int (127 : Int32)) := Sta.start ev_h (Or.inl (hsets _ (List.mem_of_getElem? (i := 1) rfl)))
  obtain ⟨wc, ev_c⟩ := arr_v (Cond.before_iff.mp (hsets _ (List.mem_of_getElem? (i := 4) rfl)))
  have S_c : Sta s s.heap "java/lang/Integer$IntegerCache" "cache" "[Ljava/lang/Integer;" (.ref wc) := Sta.start ev_c (Or.inr ⟨(hw _ (List.mem_of_getElem? (i := 25) rfl)), (hsets _ (List.mem_of_getElem? (i := 2) rfl))⟩)
  obtain ⟨cl, AR⟩ := Arr.start ev_c (Cond.before_iff.mp (hsets _ (List.mem_of_getElem? (i := 4) rfl)))
  have SZ : cl.slots.size = 256 := own_size (own_len ev_c AR (own_eqI (Cond.before_iff.mp (hsets _ (List.mem_of_getElem? (i := 6) rfl))))) rfl
  have HE := own_box (fun _ => ev_c) AR (Cond.before_iff.mp (hsets _ (List.mem_of_getElem? (i := 7) rfl)))
  obtain ⟨n, o, h1, h2, h3, _, L, rfl, ⟨rfl, N⟩, hq⟩ := rm0 l s _ hw tables_1 i0 i1 i2 i3 i4 wc cl s.heap s.heap.size (Nat.le_refl _) S_h S_c AR SZ HE p e ha hc hk s m _ below hf ((Spec.applies_iff_loose hf).mp happ).1 ⟨rfl, State.Warmed39.refl s, rfl⟩ trivial
  refine ⟨n, _, h1, h2, h3, hpost _ _ _ _ _ _ ⟨Cond.after_iff.mpr rfl, Cond.after_iff.mpr (eq_i res_at (Term.int_eval (1)) rfl), trivial⟩ ⟨hq.1, hq.2.1, (hq.2.2.sift fun y hy => Or.inr (N y hy)).mono (by decide) (by decide)⟩⟩
theorem main_1_1 : Claimed_1_1 := comes_1 fun _ _ _ _ _ _ h hF => ⟨h.1, hF⟩
theorem main_1_2 : Claimed_1_2 := comes_1 fun _ _ _ _ _ _ h hF => ⟨h.2.1, hF⟩
end Jvm.Pilot.@@N@@
namespace Jvm.Pilot.@@N@@
open Jvm Jvm.ClassFile Sem Op Lib Jvm.Free Jvm.Stand Jvm.Pilot.@@N@@.Jvm.D
/-! MADE BY PROGRAM (witnessworld.py) out of the Statement's table words and the real class files: 16 classes; the members and pool entries that the words name. The judged class is class 1, her method 2. -/
namespace start1
open Jvm.ClassFile
def u (s : String) : CpInfo := .utf8 (stringToUtf16 s)
/-- a pool by its gaps: so many unusable entries, then the entry; so many at the end -/
def gap : Nat → List CpInfo → List CpInfo
  | 0, r => r
  | n + 1, r => .unusable :: gap n r
def poolList (es : List (Nat × CpInfo)) (last : Nat) : List CpInfo := es.foldr (fun e r => gap e.1 (e.2 :: r)) (gap last [])
def pool (es : List (Nat × CpInfo)) (last : Nat) : Array CpInfo := ⟨poolList es last⟩
def fileOf (pool : Array CpInfo) (this : Nat) (attrs : Array Attribute := #[]) (ms : Array MethodInfo := #[]) (fl : Nat := 33) (sup : Nat := 0) (ifs : Array Nat := #[]) (fds : Array FieldInfo := #[]) : ClassFile where
  minorVersion := 0
  majorVersion := 65
  constantPool := pool
  accessFlags := fl
  thisClass := this
  superClass := sup
  interfaces := ifs
  fields := fds
  methods := ms
  attributes := attrs
def plain (name : String) (sup : Option ClassId) : Class where
  name := name
  kind := .ordinary
  loader := none
  accessFlags := 33
  super := sup
  interfaces := #[]
  cf := none
  fields := #[]
  methods := #[]
  instanceTypes := #[]
  staticTypes := #[]
  resolved := #[]
  callSites := []
  init := .initialized
  statics := none
  mirror := none

def pool0 : Array CpInfo := pool [(5, u "<init>"), (0, u "()V"), (1, .class_ 10), (1, u "java/lang/Object")] 113

def k0c0 : Code := { maxStack := 0, maxLocals := 1, code := object_method_1_code, exceptionTable := #[], attributes := #[] }
def k0m0 : Method := { name := "<init>", desc := "()V", sig := { parameters := [], returnType := none }, accessFlags := 1, code := some k0c0 }
/-- java/lang/Object -/
def k0 : Class := { plain "java/lang/Object" none with
  accessFlags := 33
  interfaces := #[]
  cf := some (fileOf pool0 8 #[] #[{ accessFlags := 1, nameIndex := 5, descriptorIndex := 6, attributes := #[] }] 33 0 #[] #[])
  fields := #[]
  methods := #[k0m0]
  instanceTypes := #[]
  staticTypes := #[]
  resolved := Array.replicate 124 none
  statics := none }

def pool1 : Array CpInfo := pool [(2, .class_ 4), (1, u "java/lang/Object"), (0, u "<init>"), (0, u "()V"), (0, .integer 2147483647), (0, .integer 43201), (0, .methodref 10 11), (0, .class_ 12), (0, .nameAndType 13 14), (0, u "com/example/acker/acker/engine/BackoffEqualsPinLaw"), (0, u "wait"), (0, u "(I)I"), (0, .class_ 16), (0, u "com/example/acker/acker/engine/Backoff"), (0, .methodref 15 18), (0, .nameAndType 5 19), (0, u "(II)V"), (0, .methodref 21 22), (0, .class_ 23), (0, .nameAndType 24 25), (0, u "java/lang/Integer"), (0, u "valueOf"), (0, u "(I)Ljava/lang/Integer;"), (0, .methodref 15 27), (0, .nameAndType 28 29), (0, u "equals"), (0, u "(Ljava/lang/Object;)Z"), (2, u "law"), (0, u "(IIIII)Z")] 3

def k1m0 : Method := { name := "<init>", desc := "()V", sig := { parameters := [], returnType := none }, accessFlags := 1, code := none }
def k1c1 : Code := { maxStack := 2, maxLocals := 1, code := method_2_code, exceptionTable := #[], attributes := #[] }
def k1m1 : Method := { name := "wait", desc := "(I)I", sig := { parameters := [.int], returnType := some .int }, accessFlags := 10, code := some k1c1 }
def k1c2 : Code := { maxStack := 4, maxLocals := 13, code := code, exceptionTable := #[], attributes := #[] }
def k1m2 : Method := { name := "law", desc := "(IIIII)Z", sig := { parameters := [.int, .int, .int, .int, .int], returnType := some .boolean }, accessFlags := 9, code := some k1c2 }
/-- com/example/acker/acker/engine/BackoffEqualsPinLaw -/
def k1 : Class := { plain "com/example/acker/acker/engine/BackoffEqualsPinLaw" (some 0) with
  accessFlags := 49
  interfaces := #[]
  cf := some (fileOf pool1 10 #[] #[{ accessFlags := 1, nameIndex := 5, descriptorIndex := 6, attributes := #[] }, { accessFlags := 10, nameIndex := 13, descriptorIndex := 14, attributes := #[] }, { accessFlags := 9, nameIndex := 32, descriptorIndex := 33, attributes := #[] }] 49 2 #[] #[])
  fields := #[]
  methods := #[k1m0, k1m1, k1m2]
  instanceTypes := #[]
  staticTypes := #[]
  resolved := Array.replicate 37 none
  statics := none }

def pool2 : Array CpInfo := pool [(1, .methodref 2 3), (0, .class_ 4), (0, .nameAndType 5 6), (0, u "java/lang/Object"), (0, u "<init>"), (0, u "()V"), (0, .class_ 8), (0, u "com/example/acker/acker/engine/Backoff"), (0, .integer 43200), (9, .fieldref 7 20), (0, .nameAndType 21 22), (0, u "initialSeconds"), (0, u "I"), (0, .fieldref 7 24), (0, .nameAndType 25 22), (0, u "maxSeconds"), (16, u "(II)V"), (2, u "DEFAULT"), (0, u "Lcom/example/acker/acker/engine/Backoff;"), (0, u "DEFAULT_INITIAL_SECONDS"), (2, u "DEFAULT_MAX_SECONDS"), (1, u "MAX_SECONDS"), (8, u "equals"), (0, u "(Ljava/lang/Object;)Z")] 4

def k2c0 : Code := { maxStack := 3, maxLocals := 3, code := prog_2_method_1_code, exceptionTable := #[], attributes := #[] }
def k2m0 : Method := { name := "<init>", desc := "(II)V", sig := { parameters := [.int, .int], returnType := none }, accessFlags := 1, code := some k2c0 }
def k2c1 : Code := { maxStack := 2, maxLocals := 2, code := prog_2_method_5_code, exceptionTable := #[], attributes := #[] }
def k2m1 : Method := { name := "equals", desc := "(Ljava/lang/Object;)Z", sig := { parameters := [(.object "java/lang/Object")], returnType := some .boolean }, accessFlags := 1, code := some k2c1 }
/-- com/example/acker/acker/engine/Backoff -/
def k2 : Class := { plain "com/example/acker/acker/engine/Backoff" (some 0) with
  accessFlags := 49
  interfaces := #[]
  cf := some (fileOf pool2 7 #[] #[{ accessFlags := 1, nameIndex := 5, descriptorIndex := 42, attributes := #[] }, { accessFlags := 1, nameIndex := 61, descriptorIndex := 62, attributes := #[] }] 49 2 #[] #[{ accessFlags := 25, nameIndex := 47, descriptorIndex := 22, attributes := #[] }, { accessFlags := 25, nameIndex := 50, descriptorIndex := 22, attributes := #[] }, { accessFlags := 25, nameIndex := 52, descriptorIndex := 22, attributes := #[] }, { accessFlags := 25, nameIndex := 45, descriptorIndex := 46, attributes := #[] }, { accessFlags := 18, nameIndex := 21, descriptorIndex := 22, attributes := #[] }, { accessFlags := 18, nameIndex := 25, descriptorIndex := 22, attributes := #[] }])
  fields := #[{ name := "DEFAULT_INITIAL_SECONDS", type := .int, accessFlags := 25, slot := 0, constantValue := 0 }, { name := "DEFAULT_MAX_SECONDS", type := .int, accessFlags := 25, slot := 1, constantValue := 0 }, { name := "MAX_SECONDS", type := .int, accessFlags := 25, slot := 2, constantValue := 0 }, { name := "DEFAULT", type := (.object "com/example/acker/acker/engine/Backoff"), accessFlags := 25, slot := 3, constantValue := 0 }, { name := "initialSeconds", type := .int, accessFlags := 18, slot := 0, constantValue := 0 }, { name := "maxSeconds", type := .int, accessFlags := 18, slot := 1, constantValue := 0 }]
  methods := #[k2m0, k2m1]
  instanceTypes := #[.int, .int]
  staticTypes := #[.int, .int, .int, (.object "com/example/acker/acker/engine/Backoff")]
  resolved := Array.replicate 67 none
  statics := none }

def pool3 : Array CpInfo := pool [(1, .class_ 2), (0, u "java/io/Serializable"), (0, .class_ 4), (0, u "java/lang/Object")] 2

/-- java/io/Serializable -/
def k3 : Class := { plain "java/io/Serializable" (some 0) with
  accessFlags := 1537
  interfaces := #[]
  cf := some (fileOf pool3 1 #[] #[] 1537 3 #[] #[])
  fields := #[]
  methods := #[]
  instanceTypes := #[]
  staticTypes := #[]
  resolved := Array.replicate 7 none
  statics := none }

def pool4 : Array CpInfo := pool [(1, .methodref 2 3), (0, .class_ 4), (0, .nameAndType 5 6), (0, u "java/lang/Object"), (0, u "<init>"), (0, u "()V"), (1, .class_ 10), (1, u "java/lang/Number"), (2, .class_ 14), (0, u "java/io/Serializable"), (0, u "serialVersionUID"), (0, u "J")] 20

def k4c0 : Code := { maxStack := 1, maxLocals := 1, code := jdk_18_method_1_code, exceptionTable := #[], attributes := #[] }
def k4m0 : Method := { name := "<init>", desc := "()V", sig := { parameters := [], returnType := none }, accessFlags := 1, code := some k4c0 }
/-- java/lang/Number -/
def k4 : Class := { plain "java/lang/Number" (some 0) with
  accessFlags := 1057
  interfaces := #[3]
  cf := some (fileOf pool4 8 #[] #[{ accessFlags := 1, nameIndex := 5, descriptorIndex := 6, attributes := #[] }] 1057 2 #[13] #[{ accessFlags := 26, nameIndex := 15, descriptorIndex := 16, attributes := #[] }])
  fields := #[{ name := "serialVersionUID", type := .long, accessFlags := 26, slot := 0, constantValue := 0 }]
  methods := #[k4m0]
  instanceTypes := #[]
  staticTypes := #[.long]
  resolved := Array.replicate 37 none
  statics := none }

def pool5 : Array CpInfo := pool [(1, .class_ 2), (0, u "java/lang/Comparable"), (0, .class_ 4), (0, u "java/lang/Object")] 7

/-- java/lang/Comparable -/
def k5 : Class := { plain "java/lang/Comparable" (some 0) with
  accessFlags := 1537
  interfaces := #[]
  cf := some (fileOf pool5 1 #[] #[] 1537 3 #[] #[])
  fields := #[]
  methods := #[]
  instanceTypes := #[]
  staticTypes := #[]
  resolved := Array.replicate 12 none
  statics := none }

def pool6 : Array CpInfo := pool [(1, .class_ 2), (0, u "java/lang/constant/Constable"), (0, .class_ 4), (0, u "java/lang/Object")] 6

/-- java/lang/constant/Constable -/
def k6 : Class := { plain "java/lang/constant/Constable" (some 0) with
  accessFlags := 1537
  interfaces := #[]
  cf := some (fileOf pool6 1 #[] #[] 1537 3 #[] #[])
  fields := #[]
  methods := #[]
  instanceTypes := #[]
  staticTypes := #[]
  resolved := Array.replicate 11 none
  statics := none }

def pool7 : Array CpInfo := pool [(1, .class_ 2), (0, u "java/lang/constant/ConstantDesc"), (0, .class_ 4), (0, u "java/lang/Object")] 32

/-- java/lang/constant/ConstantDesc -/
def k7 : Class := { plain "java/lang/constant/ConstantDesc" (some 0) with
  accessFlags := 1537
  interfaces := #[]
  cf := some (fileOf pool7 1 #[] #[] 1537 3 #[] #[])
  fields := #[]
  methods := #[]
  instanceTypes := #[]
  staticTypes := #[]
  resolved := Array.replicate 37 none
  statics := none }

def pool8 : Array CpInfo := pool [(1, .class_ 2), (0, u "java/lang/Integer"), (16, u "digits"), (0, u "[C"), (46, u "<init>"), (17, u "DigitOnes"), (0, u "[B"), (2, u "DigitTens"), (10, .nameAndType 67 101), (0, u "()V"), (85, u "valueOf"), (0, u "(I)Ljava/lang/Integer;"), (0, .class_ 190), (0, u "java/lang/Integer$IntegerCache"), (0, .fieldref 189 192), (0, .nameAndType 193 194), (0, u "high"), (0, u "I"), (0, .fieldref 189 196), (0, .nameAndType 197 198), (0, u "cache"), (0, u "[Ljava/lang/Integer;"), (0, .methodref 1 200), (0, .nameAndType 67 201), (0, u "(I)V"), (0, .methodref 203 100), (0, .class_ 204), (0, u "java/lang/Number"), (0, .fieldref 1 206), (0, .nameAndType 207 194), (0, u "value"), (94, u "TYPE"), (0, u "Ljava/lang/Class;"), (0, .class_ 305), (0, u "java/lang/Comparable"), (0, .class_ 307), (0, u "java/lang/constant/Constable"), (0, .class_ 309), (0, u "java/lang/constant/ConstantDesc"), (0, u "MIN_VALUE"), (1, u "MAX_VALUE"), (3, u "SIZE"), (1, u "BYTES"), (1, u "serialVersionUID"), (0, u "J")] 131

def k8c0 : Code := { maxStack := 3, maxLocals := 1, code := jdk_33_method_22_code, exceptionTable := #[], attributes := #[] }
def k8m0 : Method := { name := "valueOf", desc := "(I)Ljava/lang/Integer;", sig := { parameters := [.int], returnType := some (.object "java/lang/Integer") }, accessFlags := 9, code := some k8c0 }
def k8c1 : Code := { maxStack := 2, maxLocals := 2, code := jdk_33_method_23_code, exceptionTable := #[], attributes := #[] }
def k8m1 : Method := { name := "<init>", desc := "(I)V", sig := { parameters := [.int], returnType := none }, accessFlags := 1, code := some k8c1 }
/-- java/lang/Integer -/
def k8 : Class := { plain "java/lang/Integer" (some 4) with
  accessFlags := 49
  interfaces := #[5, 6, 7]
  cf := some (fileOf pool8 1 #[.nestMembers #[189]] #[{ accessFlags := 9, nameIndex := 187, descriptorIndex := 188, attributes := #[] }, { accessFlags := 1, nameIndex := 67, descriptorIndex := 201, attributes := #[] }] 49 203 #[304, 306, 308] #[{ accessFlags := 25, nameIndex := 310, descriptorIndex := 194, attributes := #[] }, { accessFlags := 25, nameIndex := 312, descriptorIndex := 194, attributes := #[] }, { accessFlags := 25, nameIndex := 302, descriptorIndex := 303, attributes := #[] }, { accessFlags := 24, nameIndex := 19, descriptorIndex := 20, attributes := #[] }, { accessFlags := 24, nameIndex := 89, descriptorIndex := 86, attributes := #[] }, { accessFlags := 24, nameIndex := 85, descriptorIndex := 86, attributes := #[] }, { accessFlags := 18, nameIndex := 207, descriptorIndex := 194, attributes := #[] }, { accessFlags := 25, nameIndex := 316, descriptorIndex := 194, attributes := #[] }, { accessFlags := 25, nameIndex := 318, descriptorIndex := 194, attributes := #[] }, { accessFlags := 26, nameIndex := 320, descriptorIndex := 321, attributes := #[] }])
  fields := #[{ name := "MIN_VALUE", type := .int, accessFlags := 25, slot := 0, constantValue := 0 }, { name := "MAX_VALUE", type := .int, accessFlags := 25, slot := 1, constantValue := 0 }, { name := "TYPE", type := (.object "java/lang/Class"), accessFlags := 25, slot := 2, constantValue := 0 }, { name := "digits", type := (.array .char), accessFlags := 24, slot := 3, constantValue := 0 }, { name := "DigitTens", type := (.array .byte), accessFlags := 24, slot := 4, constantValue := 0 }, { name := "DigitOnes", type := (.array .byte), accessFlags := 24, slot := 5, constantValue := 0 }, { name := "value", type := .int, accessFlags := 18, slot := 0, constantValue := 0 }, { name := "SIZE", type := .int, accessFlags := 25, slot := 6, constantValue := 0 }, { name := "BYTES", type := .int, accessFlags := 25, slot := 7, constantValue := 0 }, { name := "serialVersionUID", type := .long, accessFlags := 26, slot := 8, constantValue := 0 }]
  methods := #[k8m0, k8m1]
  instanceTypes := #[.int]
  staticTypes := #[.int, .int, (.object "java/lang/Class"), (.array .char), (.array .byte), (.array .byte), .int, .int, .long]
  resolved := Array.replicate 453 none
  statics := none }

def pool9 : Array CpInfo := pool [(2, .class_ 4), (1, u "java/lang/Object"), (0, u "<init>"), (0, u "()V"), (0, .class_ 8), (0, u "java/lang/Integer"), (7, .class_ 18), (1, u "java/lang/Integer$IntegerCache"), (0, u "$assertionsDisabled"), (0, u "Z"), (26, u "high"), (0, u "I"), (8, u "archivedCache"), (0, u "[Ljava/lang/Integer;"), (12, u "cache"), (0, u "low")] 27

def k9m0 : Method := { name := "<init>", desc := "()V", sig := { parameters := [], returnType := none }, accessFlags := 2, code := none }
/-- java/lang/Integer$IntegerCache -/
def k9 : Class := { plain "java/lang/Integer$IntegerCache" (some 0) with
  accessFlags := 48
  interfaces := #[]
  cf := some (fileOf pool9 16 #[.nestHost 7] #[{ accessFlags := 2, nameIndex := 5, descriptorIndex := 6, attributes := #[] }] 48 2 #[] #[{ accessFlags := 24, nameIndex := 72, descriptorIndex := 48, attributes := #[] }, { accessFlags := 24, nameIndex := 47, descriptorIndex := 48, attributes := #[] }, { accessFlags := 24, nameIndex := 71, descriptorIndex := 58, attributes := #[] }, { accessFlags := 8, nameIndex := 57, descriptorIndex := 58, attributes := #[] }, { accessFlags := 4120, nameIndex := 19, descriptorIndex := 20, attributes := #[] }])
  fields := #[{ name := "low", type := .int, accessFlags := 24, slot := 0, constantValue := 0 }, { name := "high", type := .int, accessFlags := 24, slot := 1, constantValue := 0 }, { name := "cache", type := (.array (.object "java/lang/Integer")), accessFlags := 24, slot := 2, constantValue := 0 }, { name := "archivedCache", type := (.array (.object "java/lang/Integer")), accessFlags := 8, slot := 3, constantValue := 0 }, { name := "$assertionsDisabled", type := .boolean, accessFlags := 4120, slot := 4, constantValue := 0 }]
  methods := #[k9m0]
  instanceTypes := #[]
  staticTypes := #[.int, .int, (.array (.object "java/lang/Integer")), (.array (.object "java/lang/Integer")), .boolean]
  resolved := Array.replicate 100 none
  statics := some 0 }

def pool10 : Array CpInfo := pool [(1, u "java/lang/Cloneable"), (0, .class_ 1), (0, u "java/lang/Object"), (0, .class_ 3)] 3

/-- java/lang/Cloneable -/
def k10 : Class := { plain "java/lang/Cloneable" (some 0) with
  accessFlags := 1537
  interfaces := #[]
  cf := some (fileOf pool10 2 #[] #[] 1537 4 #[] #[])
  fields := #[]
  methods := #[]
  instanceTypes := #[]
  staticTypes := #[]
  resolved := Array.replicate 8 none
  statics := none }

/-- the primitive byte -/
def k11 : Class := { plain "byte" none with kind := .primitive 'B', accessFlags := 0x411 }
/-- [B -/
def k12 : Class := { plain "[B" (some 0) with kind := .array 11 .byte, interfaces := #[10, 3], accessFlags := 1041 }

/-- the primitive int -/
def k13 : Class := { plain "int" none with kind := .primitive 'I', accessFlags := 0x411 }
/-- [I -/
def k14 : Class := { plain "[I" (some 0) with kind := .array 13 .int, interfaces := #[10, 3], accessFlags := 1041 }

/-- [Ljava/lang/Integer; -/
def k15 : Class := { plain "[Ljava/lang/Integer;" (some 0) with kind := .array 8 (.object "java/lang/Integer"), interfaces := #[10, 3], accessFlags := 1041 }

def heap : Heap := #[{ cls := 9, slots := #[.int 0, .int 127, .ref 1, .null, .int 0], vm := .statics 9 },
  { cls := 15, slots := #[.ref 2, .ref 3, .ref 4, .ref 5, .ref 6, .ref 7, .ref 8, .ref 9, .ref 10, .ref 11, .ref 12, .ref 13, .ref 14, .ref 15, .ref 16, .ref 17, .ref 18, .ref 19, .ref 20, .ref 21, .ref 22, .ref 23, .ref 24, .ref 25, .ref 26, .ref 27, .ref 28, .ref 29, .ref 30, .ref 31, .ref 32, .ref 33, .ref 34, .ref 35, .ref 36, .ref 37, .ref 38, .ref 39, .ref 40, .ref 41, .ref 42, .ref 43, .ref 44, .ref 45, .ref 46, .ref 47, .ref 48, .ref 49, .ref 50, .ref 51, .ref 52, .ref 53, .ref 54, .ref 55, .ref 56, .ref 57, .ref 58, .ref 59, .ref 60, .ref 61, .ref 62, .ref 63, .ref 64, .ref 65, .ref 66, .ref 67, .ref 68, .ref 69, .ref 70, .ref 71, .ref 72, .ref 73, .ref 74, .ref 75, .ref 76, .ref 77, .ref 78, .ref 79, .ref 80, .ref 81, .ref 82, .ref 83, .ref 84, .ref 85, .ref 86, .ref 87, .ref 88, .ref 89, .ref 90, .ref 91, .ref 92, .ref 93, .ref 94, .ref 95, .ref 96, .ref 97, .ref 98, .ref 99, .ref 100, .ref 101, .ref 102, .ref 103, .ref 104, .ref 105, .ref 106, .ref 107, .ref 108, .ref 109, .ref 110, .ref 111, .ref 112, .ref 113, .ref 114, .ref 115, .ref 116, .ref 117, .ref 118, .ref 119, .ref 120, .ref 121, .ref 122, .ref 123, .ref 124, .ref 125, .ref 126, .ref 127, .ref 128, .ref 129, .ref 130, .ref 131, .ref 132, .ref 133, .ref 134, .ref 135, .ref 136, .ref 137, .ref 138, .ref 139, .ref 140, .ref 141, .ref 142, .ref 143, .ref 144, .ref 145, .ref 146, .ref 147, .ref 148, .ref 149, .ref 150, .ref 151, .ref 152, .ref 153, .ref 154, .ref 155, .ref 156, .ref 157, .ref 158, .ref 159, .ref 160, .ref 161, .ref 162, .ref 163, .ref 164, .ref 165, .ref 166, .ref 167, .ref 168, .ref 169, .ref 170, .ref 171, .ref 172, .ref 173, .ref 174, .ref 175, .ref 176, .ref 177, .ref 178, .ref 179, .ref 180, .ref 181, .ref 182, .ref 183, .ref 184, .ref 185, .ref 186, .ref 187, .ref 188, .ref 189, .ref 190, .ref 191, .ref 192, .ref 193, .ref 194, .ref 195, .ref 196, .ref 197, .ref 198, .ref 199, .ref 200, .ref 201, .ref 202, .ref 203, .ref 204, .ref 205, .ref 206, .ref 207, .ref 208, .ref 209, .ref 210, .ref 211, .ref 212, .ref 213, .ref 214, .ref 215, .ref 216, .ref 217, .ref 218, .ref 219, .ref 220, .ref 221, .ref 222, .ref 223, .ref 224, .ref 225, .ref 226, .ref 227, .ref 228, .ref 229, .ref 230, .ref 231, .ref 232, .ref 233, .ref 234, .ref 235, .ref 236, .ref 237, .ref 238, .ref 239, .ref 240, .ref 241, .ref 242, .ref 243, .ref 244, .ref 245, .ref 246, .ref 247, .ref 248, .ref 249, .ref 250, .ref 251, .ref 252, .ref 253, .ref 254, .ref 255, .ref 256, .ref 257], vm := .none },
  { cls := 8, slots := #[.int (-128)], vm := .none },
  { cls := 8, slots := #[.int (-127)], vm := .none },
  { cls := 8, slots := #[.int (-126)], vm := .none },
  { cls := 8, slots := #[.int (-125)], vm := .none },
  { cls := 8, slots := #[.int (-124)], vm := .none },
  { cls := 8, slots := #[.int (-123)], vm := .none },
  { cls := 8, slots := #[.int (-122)], vm := .none },
  { cls := 8, slots := #[.int (-121)], vm := .none },
  { cls := 8, slots := #[.int (-120)], vm := .none },
  { cls := 8, slots := #[.int (-119)], vm := .none },
  { cls := 8, slots := #[.int (-118)], vm := .none },
  { cls := 8, slots := #[.int (-117)], vm := .none },
  { cls := 8, slots := #[.int (-116)], vm := .none },
  { cls := 8, slots := #[.int (-115)], vm := .none },
  { cls := 8, slots := #[.int (-114)], vm := .none },
  { cls := 8, slots := #[.int (-113)], vm := .none },
  { cls := 8, slots := #[.int (-112)], vm := .none },
  { cls := 8, slots := #[.int (-111)], vm := .none },
  { cls := 8, slots := #[.int (-110)], vm := .none },
  { cls := 8, slots := #[.int (-109)], vm := .none },
  { cls := 8, slots := #[.int (-108)], vm := .none },
  { cls := 8, slots := #[.int (-107)], vm := .none },
  { cls := 8, slots := #[.int (-106)], vm := .none },
  { cls := 8, slots := #[.int (-105)], vm := .none },
  { cls := 8, slots := #[.int (-104)], vm := .none },
  { cls := 8, slots := #[.int (-103)], vm := .none },
  { cls := 8, slots := #[.int (-102)], vm := .none },
  { cls := 8, slots := #[.int (-101)], vm := .none },
  { cls := 8, slots := #[.int (-100)], vm := .none },
  { cls := 8, slots := #[.int (-99)], vm := .none },
  { cls := 8, slots := #[.int (-98)], vm := .none },
  { cls := 8, slots := #[.int (-97)], vm := .none },
  { cls := 8, slots := #[.int (-96)], vm := .none },
  { cls := 8, slots := #[.int (-95)], vm := .none },
  { cls := 8, slots := #[.int (-94)], vm := .none },
  { cls := 8, slots := #[.int (-93)], vm := .none },
  { cls := 8, slots := #[.int (-92)], vm := .none },
  { cls := 8, slots := #[.int (-91)], vm := .none },
  { cls := 8, slots := #[.int (-90)], vm := .none },
  { cls := 8, slots := #[.int (-89)], vm := .none },
  { cls := 8, slots := #[.int (-88)], vm := .none },
  { cls := 8, slots := #[.int (-87)], vm := .none },
  { cls := 8, slots := #[.int (-86)], vm := .none },
  { cls := 8, slots := #[.int (-85)], vm := .none },
  { cls := 8, slots := #[.int (-84)], vm := .none },
  { cls := 8, slots := #[.int (-83)], vm := .none },
  { cls := 8, slots := #[.int (-82)], vm := .none },
  { cls := 8, slots := #[.int (-81)], vm := .none },
  { cls := 8, slots := #[.int (-80)], vm := .none },
  { cls := 8, slots := #[.int (-79)], vm := .none },
  { cls := 8, slots := #[.int (-78)], vm := .none },
  { cls := 8, slots := #[.int (-77)], vm := .none },
  { cls := 8, slots := #[.int (-76)], vm := .none },
  { cls := 8, slots := #[.int (-75)], vm := .none },
  { cls := 8, slots := #[.int (-74)], vm := .none },
  { cls := 8, slots := #[.int (-73)], vm := .none },
  { cls := 8, slots := #[.int (-72)], vm := .none },
  { cls := 8, slots := #[.int (-71)], vm := .none },
  { cls := 8, slots := #[.int (-70)], vm := .none },
  { cls := 8, slots := #[.int (-69)], vm := .none },
  { cls := 8, slots := #[.int (-68)], vm := .none },
  { cls := 8, slots := #[.int (-67)], vm := .none },
  { cls := 8, slots := #[.int (-66)], vm := .none },
  { cls := 8, slots := #[.int (-65)], vm := .none },
  { cls := 8, slots := #[.int (-64)], vm := .none },
  { cls := 8, slots := #[.int (-63)], vm := .none },
  { cls := 8, slots := #[.int (-62)], vm := .none },
  { cls := 8, slots := #[.int (-61)], vm := .none },
  { cls := 8, slots := #[.int (-60)], vm := .none },
  { cls := 8, slots := #[.int (-59)], vm := .none },
  { cls := 8, slots := #[.int (-58)], vm := .none },
  { cls := 8, slots := #[.int (-57)], vm := .none },
  { cls := 8, slots := #[.int (-56)], vm := .none },
  { cls := 8, slots := #[.int (-55)], vm := .none },
  { cls := 8, slots := #[.int (-54)], vm := .none },
  { cls := 8, slots := #[.int (-53)], vm := .none },
  { cls := 8, slots := #[.int (-52)], vm := .none },
  { cls := 8, slots := #[.int (-51)], vm := .none },
  { cls := 8, slots := #[.int (-50)], vm := .none },
  { cls := 8, slots := #[.int (-49)], vm := .none },
  { cls := 8, slots := #[.int (-48)], vm := .none },
  { cls := 8, slots := #[.int (-47)], vm := .none },
  { cls := 8, slots := #[.int (-46)], vm := .none },
  { cls := 8, slots := #[.int (-45)], vm := .none },
  { cls := 8, slots := #[.int (-44)], vm := .none },
  { cls := 8, slots := #[.int (-43)], vm := .none },
  { cls := 8, slots := #[.int (-42)], vm := .none },
  { cls := 8, slots := #[.int (-41)], vm := .none },
  { cls := 8, slots := #[.int (-40)], vm := .none },
  { cls := 8, slots := #[.int (-39)], vm := .none },
  { cls := 8, slots := #[.int (-38)], vm := .none },
  { cls := 8, slots := #[.int (-37)], vm := .none },
  { cls := 8, slots := #[.int (-36)], vm := .none },
  { cls := 8, slots := #[.int (-35)], vm := .none },
  { cls := 8, slots := #[.int (-34)], vm := .none },
  { cls := 8, slots := #[.int (-33)], vm := .none },
  { cls := 8, slots := #[.int (-32)], vm := .none },
  { cls := 8, slots := #[.int (-31)], vm := .none },
  { cls := 8, slots := #[.int (-30)], vm := .none },
  { cls := 8, slots := #[.int (-29)], vm := .none },
  { cls := 8, slots := #[.int (-28)], vm := .none },
  { cls := 8, slots := #[.int (-27)], vm := .none },
  { cls := 8, slots := #[.int (-26)], vm := .none },
  { cls := 8, slots := #[.int (-25)], vm := .none },
  { cls := 8, slots := #[.int (-24)], vm := .none },
  { cls := 8, slots := #[.int (-23)], vm := .none },
  { cls := 8, slots := #[.int (-22)], vm := .none },
  { cls := 8, slots := #[.int (-21)], vm := .none },
  { cls := 8, slots := #[.int (-20)], vm := .none },
  { cls := 8, slots := #[.int (-19)], vm := .none },
  { cls := 8, slots := #[.int (-18)], vm := .none },
  { cls := 8, slots := #[.int (-17)], vm := .none },
  { cls := 8, slots := #[.int (-16)], vm := .none },
  { cls := 8, slots := #[.int (-15)], vm := .none },
  { cls := 8, slots := #[.int (-14)], vm := .none },
  { cls := 8, slots := #[.int (-13)], vm := .none },
  { cls := 8, slots := #[.int (-12)], vm := .none },
  { cls := 8, slots := #[.int (-11)], vm := .none },
  { cls := 8, slots := #[.int (-10)], vm := .none },
  { cls := 8, slots := #[.int (-9)], vm := .none },
  { cls := 8, slots := #[.int (-8)], vm := .none },
  { cls := 8, slots := #[.int (-7)], vm := .none },
  { cls := 8, slots := #[.int (-6)], vm := .none },
  { cls := 8, slots := #[.int (-5)], vm := .none },
  { cls := 8, slots := #[.int (-4)], vm := .none },
  { cls := 8, slots := #[.int (-3)], vm := .none },
  { cls := 8, slots := #[.int (-2)], vm := .none },
  { cls := 8, slots := #[.int (-1)], vm := .none },
  { cls := 8, slots := #[.int 0], vm := .none },
  { cls := 8, slots := #[.int 1], vm := .none },
  { cls := 8, slots := #[.int 2], vm := .none },
  { cls := 8, slots := #[.int 3], vm := .none },
  { cls := 8, slots := #[.int 4], vm := .none },
  { cls := 8, slots := #[.int 5], vm := .none },
  { cls := 8, slots := #[.int 6], vm := .none },
  { cls := 8, slots := #[.int 7], vm := .none },
  { cls := 8, slots := #[.int 8], vm := .none },
  { cls := 8, slots := #[.int 9], vm := .none },
  { cls := 8, slots := #[.int 10], vm := .none },
  { cls := 8, slots := #[.int 11], vm := .none },
  { cls := 8, slots := #[.int 12], vm := .none },
  { cls := 8, slots := #[.int 13], vm := .none },
  { cls := 8, slots := #[.int 14], vm := .none },
  { cls := 8, slots := #[.int 15], vm := .none },
  { cls := 8, slots := #[.int 16], vm := .none },
  { cls := 8, slots := #[.int 17], vm := .none },
  { cls := 8, slots := #[.int 18], vm := .none },
  { cls := 8, slots := #[.int 19], vm := .none },
  { cls := 8, slots := #[.int 20], vm := .none },
  { cls := 8, slots := #[.int 21], vm := .none },
  { cls := 8, slots := #[.int 22], vm := .none },
  { cls := 8, slots := #[.int 23], vm := .none },
  { cls := 8, slots := #[.int 24], vm := .none },
  { cls := 8, slots := #[.int 25], vm := .none },
  { cls := 8, slots := #[.int 26], vm := .none },
  { cls := 8, slots := #[.int 27], vm := .none },
  { cls := 8, slots := #[.int 28], vm := .none },
  { cls := 8, slots := #[.int 29], vm := .none },
  { cls := 8, slots := #[.int 30], vm := .none },
  { cls := 8, slots := #[.int 31], vm := .none },
  { cls := 8, slots := #[.int 32], vm := .none },
  { cls := 8, slots := #[.int 33], vm := .none },
  { cls := 8, slots := #[.int 34], vm := .none },
  { cls := 8, slots := #[.int 35], vm := .none },
  { cls := 8, slots := #[.int 36], vm := .none },
  { cls := 8, slots := #[.int 37], vm := .none },
  { cls := 8, slots := #[.int 38], vm := .none },
  { cls := 8, slots := #[.int 39], vm := .none },
  { cls := 8, slots := #[.int 40], vm := .none },
  { cls := 8, slots := #[.int 41], vm := .none },
  { cls := 8, slots := #[.int 42], vm := .none },
  { cls := 8, slots := #[.int 43], vm := .none },
  { cls := 8, slots := #[.int 44], vm := .none },
  { cls := 8, slots := #[.int 45], vm := .none },
  { cls := 8, slots := #[.int 46], vm := .none },
  { cls := 8, slots := #[.int 47], vm := .none },
  { cls := 8, slots := #[.int 48], vm := .none },
  { cls := 8, slots := #[.int 49], vm := .none },
  { cls := 8, slots := #[.int 50], vm := .none },
  { cls := 8, slots := #[.int 51], vm := .none },
  { cls := 8, slots := #[.int 52], vm := .none },
  { cls := 8, slots := #[.int 53], vm := .none },
  { cls := 8, slots := #[.int 54], vm := .none },
  { cls := 8, slots := #[.int 55], vm := .none },
  { cls := 8, slots := #[.int 56], vm := .none },
  { cls := 8, slots := #[.int 57], vm := .none },
  { cls := 8, slots := #[.int 58], vm := .none },
  { cls := 8, slots := #[.int 59], vm := .none },
  { cls := 8, slots := #[.int 60], vm := .none },
  { cls := 8, slots := #[.int 61], vm := .none },
  { cls := 8, slots := #[.int 62], vm := .none },
  { cls := 8, slots := #[.int 63], vm := .none },
  { cls := 8, slots := #[.int 64], vm := .none },
  { cls := 8, slots := #[.int 65], vm := .none },
  { cls := 8, slots := #[.int 66], vm := .none },
  { cls := 8, slots := #[.int 67], vm := .none },
  { cls := 8, slots := #[.int 68], vm := .none },
  { cls := 8, slots := #[.int 69], vm := .none },
  { cls := 8, slots := #[.int 70], vm := .none },
  { cls := 8, slots := #[.int 71], vm := .none },
  { cls := 8, slots := #[.int 72], vm := .none },
  { cls := 8, slots := #[.int 73], vm := .none },
  { cls := 8, slots := #[.int 74], vm := .none },
  { cls := 8, slots := #[.int 75], vm := .none },
  { cls := 8, slots := #[.int 76], vm := .none },
  { cls := 8, slots := #[.int 77], vm := .none },
  { cls := 8, slots := #[.int 78], vm := .none },
  { cls := 8, slots := #[.int 79], vm := .none },
  { cls := 8, slots := #[.int 80], vm := .none },
  { cls := 8, slots := #[.int 81], vm := .none },
  { cls := 8, slots := #[.int 82], vm := .none },
  { cls := 8, slots := #[.int 83], vm := .none },
  { cls := 8, slots := #[.int 84], vm := .none },
  { cls := 8, slots := #[.int 85], vm := .none },
  { cls := 8, slots := #[.int 86], vm := .none },
  { cls := 8, slots := #[.int 87], vm := .none },
  { cls := 8, slots := #[.int 88], vm := .none },
  { cls := 8, slots := #[.int 89], vm := .none },
  { cls := 8, slots := #[.int 90], vm := .none },
  { cls := 8, slots := #[.int 91], vm := .none },
  { cls := 8, slots := #[.int 92], vm := .none },
  { cls := 8, slots := #[.int 93], vm := .none },
  { cls := 8, slots := #[.int 94], vm := .none },
  { cls := 8, slots := #[.int 95], vm := .none },
  { cls := 8, slots := #[.int 96], vm := .none },
  { cls := 8, slots := #[.int 97], vm := .none },
  { cls := 8, slots := #[.int 98], vm := .none },
  { cls := 8, slots := #[.int 99], vm := .none },
  { cls := 8, slots := #[.int 100], vm := .none },
  { cls := 8, slots := #[.int 101], vm := .none },
  { cls := 8, slots := #[.int 102], vm := .none },
  { cls := 8, slots := #[.int 103], vm := .none },
  { cls := 8, slots := #[.int 104], vm := .none },
  { cls := 8, slots := #[.int 105], vm := .none },
  { cls := 8, slots := #[.int 106], vm := .none },
  { cls := 8, slots := #[.int 107], vm := .none },
  { cls := 8, slots := #[.int 108], vm := .none },
  { cls := 8, slots := #[.int 109], vm := .none },
  { cls := 8, slots := #[.int 110], vm := .none },
  { cls := 8, slots := #[.int 111], vm := .none },
  { cls := 8, slots := #[.int 112], vm := .none },
  { cls := 8, slots := #[.int 113], vm := .none },
  { cls := 8, slots := #[.int 114], vm := .none },
  { cls := 8, slots := #[.int 115], vm := .none },
  { cls := 8, slots := #[.int 116], vm := .none },
  { cls := 8, slots := #[.int 117], vm := .none },
  { cls := 8, slots := #[.int 118], vm := .none },
  { cls := 8, slots := #[.int 119], vm := .none },
  { cls := 8, slots := #[.int 120], vm := .none },
  { cls := 8, slots := #[.int 121], vm := .none },
  { cls := 8, slots := #[.int 122], vm := .none },
  { cls := 8, slots := #[.int 123], vm := .none },
  { cls := 8, slots := #[.int 124], vm := .none },
  { cls := 8, slots := #[.int 125], vm := .none },
  { cls := 8, slots := #[.int 126], vm := .none },
  { cls := 8, slots := #[.int 127], vm := .none }]
def classes : Array Class := #[k0, k1, k2, k3, k4, k5, k6, k7, k8, k9, k10, k11, k12, k13, k14, k15]
def interned : List (Array UInt16 × Addr) := []
def slotsUsed : Nat := 517
def theMethod : MethodId := ⟨1, 2⟩
def args0 : Array Value := #[.int 5, .int 5, .int 5, .int 5, .int 5]
def aboutOver (below : List Frame) : State where
  vm := { classes := classes, interned := interned.toArray }
  heap := heap
  slotsUsed := slotsUsed
  threads := #[{ frames := .invoking theMethod args0 :: below }]
def below0 : List Frame := [.native { method := ⟨0, 0⟩, args := #[] }]
def about1 : State := aboutOver below0
def p0 : Program := .bare "" "" ""
def e0 : Env := launch0.env 0 0 0
theorem w_frames : about1.frames = Frame.invoking theMethod args0 :: below0 := rfl
set_option maxRecDepth 65536 in
theorem w_args : argsFit about1.vm theMethod args0 = true := by decide +kernel
set_option maxRecDepth 65536 in
theorem w_heap : heapFits about1 = true := by decide +kernel
set_option maxRecDepth 65536 in
theorem w_runnable : about1.curStatus? = some .runnable := by decide +kernel
set_option maxRecDepth 65536 in
theorem w_alone : about1.alone = true := by decide +kernel
set_option maxRecDepth 65536 in
theorem w_named : about1.methodNamed? x = some theMethod := by decide +kernel
set_option maxRecDepth 65536 in
theorem w_hears : about1.hears theMethod below0 = true := by decide +kernel
set_option maxRecDepth 65536 in
theorem w_ripe : about1.ripe theMethod args0 below0 = true := by decide +kernel
theorem w_running : about1.status = .running := rfl
set_option maxRecDepth 65536 in
theorem w_room : about1.hasRoom e0.platform room_1 = true :=
  launch0.hasRoom_least _ room_1 (by decide +kernel) (by decide +kernel) (by decide +kernel) (by decide +kernel) (by decide +kernel) (by decide +kernel)
theorem allAtoms_all (ts : List Jvm.Cond) (a : Array Jvm.Value) (st : Jvm.State) : (allAtoms ts).before a st = ts.all (fun c => c.before a st) := by
  induction ts with
  | nil => rfl
  | cons c t ih =>
    show (Jvm.Cond.and c (allAtoms t)).before a st = _
    rw [Jvm.Cond.before_and, ih, List.all_cons]
def words1 : List Jvm.Cond := Jvm.Cond.code x code maxLocals ret :: tables_1
/-- a 'code' word, met by the world's own term for the bytes: nothing is compared byte by byte -/
theorem code_word {y : MethodName} {bytes : ByteArray} {mx : Nat} {rt : Option FieldType} {a : Array Value} {s : State} {m : MethodId} {meth : Method} {c : Code} (h1 : s.methodNamed? y = some m) (h2 : s.vm.method? m = some meth) (h3 : meth.code = some c) (h4 : c.code = bytes)
    (h5 : (c.maxLocals == mx && c.exceptionTable.isEmpty && decide (c.maxStack ≤ mostOperands) && decide (meth.sig.returnType = rt) && !meth.locks && decide (parseMethodDescriptor y.desc = some meth.sig)) = true) : (Jvm.Cond.code y bytes mx rt).before a s = true := by
  simp only [Bool.and_eq_true, beq_iff_eq, Bool.not_eq_true', decide_eq_true_eq] at h5
  obtain ⟨⟨⟨⟨⟨g1, g2⟩, g3⟩, g4⟩, g5⟩, g6⟩ := h5
  simp [Cond.before, Cond.holds, Cond.value, h1, h2, h3, h4, g1, g2, g3, g4, g5, g6]
def isCode : Jvm.Cond → Bool
  | .code _ _ _ _ => true
  | _ => false
theorem all_split {L : List Jvm.Cond} {P : Jvm.Cond → Bool} (h1 : L.all (fun c => isCode c || P c) = true) (h2 : ∀ c ∈ L.filter isCode, P c = true) : L.all P = true := by
  refine List.all_eq_true.mpr fun c hc => ?_
  have h := List.all_eq_true.mp h1 c hc
  rcases Bool.eq_false_or_eq_true (isCode c) with hi | hi
  · exact h2 c (List.mem_filter.mpr ⟨hc, hi⟩)
  · simpa [hi] using h
set_option maxRecDepth 65536 in
theorem w_c0 : (Jvm.Cond.code x code maxLocals ret).before args0 about1 = true := code_word (m := ⟨1, 2⟩) (meth := k1m2) (c := k1c2) (by decide +kernel) rfl rfl rfl (by decide +kernel)
set_option maxRecDepth 65536 in
theorem w_c1 : (Jvm.Cond.code ({ cls := "com/example/acker/acker/engine/BackoffEqualsPinLaw", name := "wait", desc := "(I)I" } : Jvm.MethodName) method_2_code (1 : Nat) (Option.some Jvm.ClassFile.FieldType.int)).before args0 about1 = true := code_word (m := ⟨1, 1⟩) (meth := k1m1) (c := k1c1) (by decide +kernel) rfl rfl rfl (by decide +kernel)
set_option maxRecDepth 65536 in
theorem w_c2 : (Jvm.Cond.code ({ cls := "com/example/acker/acker/engine/Backoff", name := "<init>", desc := "(II)V" } : Jvm.MethodName) prog_2_method_1_code (3 : Nat) (Option.none : Option Jvm.ClassFile.FieldType)).before args0 about1 = true := code_word (m := ⟨2, 0⟩) (meth := k2m0) (c := k2c0) (by decide +kernel) rfl rfl rfl (by decide +kernel)
set_option maxRecDepth 65536 in
theorem w_c3 : (Jvm.Cond.code ({ cls := "java/lang/Object", name := "<init>", desc := "()V" } : Jvm.MethodName) object_method_1_code (1 : Nat) (Option.none : Option Jvm.ClassFile.FieldType)).before args0 about1 = true := code_word (m := ⟨0, 0⟩) (meth := k0m0) (c := k0c0) (by decide +kernel) rfl rfl rfl (by decide +kernel)
set_option maxRecDepth 65536 in
theorem w_c4 : (Jvm.Cond.code ({ cls := "java/lang/Integer", name := "valueOf", desc := "(I)Ljava/lang/Integer;" } : Jvm.MethodName) jdk_33_method_22_code (1 : Nat) (Option.some (Jvm.ClassFile.FieldType.object "java/lang/Integer"))).before args0 about1 = true := code_word (m := ⟨8, 0⟩) (meth := k8m0) (c := k8c0) (by decide +kernel) rfl rfl rfl (by decide +kernel)
set_option maxRecDepth 65536 in
theorem w_c5 : (Jvm.Cond.code ({ cls := "com/example/acker/acker/engine/Backoff", name := "equals", desc := "(Ljava/lang/Object;)Z" } : Jvm.MethodName) prog_2_method_5_code (2 : Nat) (Option.some Jvm.ClassFile.FieldType.boolean)).before args0 about1 = true := code_word (m := ⟨2, 1⟩) (meth := k2m1) (c := k2c1) (by decide +kernel) rfl rfl rfl (by decide +kernel)
set_option maxRecDepth 65536 in
theorem w_c6 : (Jvm.Cond.code ({ cls := "java/lang/Integer", name := "<init>", desc := "(I)V" } : Jvm.MethodName) jdk_33_method_23_code (2 : Nat) (Option.none : Option Jvm.ClassFile.FieldType)).before args0 about1 = true := code_word (m := ⟨8, 1⟩) (meth := k8m1) (c := k8c1) (by decide +kernel) rfl rfl rfl (by decide +kernel)
set_option maxRecDepth 65536 in
theorem w_c7 : (Jvm.Cond.code ({ cls := "java/lang/Number", name := "<init>", desc := "()V" } : Jvm.MethodName) jdk_18_method_1_code (1 : Nat) (Option.none : Option Jvm.ClassFile.FieldType)).before args0 about1 = true := code_word (m := ⟨4, 0⟩) (meth := k4m0) (c := k4c0) (by decide +kernel) rfl rfl rfl (by decide +kernel)
def codes1 : List Jvm.Cond := [Jvm.Cond.code x code maxLocals ret, Jvm.Cond.code ({ cls := "com/example/acker/acker/engine/BackoffEqualsPinLaw", name := "wait", desc := "(I)I" } : Jvm.MethodName) method_2_code (1 : Nat) (Option.some Jvm.ClassFile.FieldType.int), Jvm.Cond.code ({ cls := "com/example/acker/acker/engine/Backoff", name := "<init>", desc := "(II)V" } : Jvm.MethodName) prog_2_method_1_code (3 : Nat) (Option.none : Option Jvm.ClassFile.FieldType), Jvm.Cond.code ({ cls := "java/lang/Object", name := "<init>", desc := "()V" } : Jvm.MethodName) object_method_1_code (1 : Nat) (Option.none : Option Jvm.ClassFile.FieldType), Jvm.Cond.code ({ cls := "java/lang/Integer", name := "valueOf", desc := "(I)Ljava/lang/Integer;" } : Jvm.MethodName) jdk_33_method_22_code (1 : Nat) (Option.some (Jvm.ClassFile.FieldType.object "java/lang/Integer")), Jvm.Cond.code ({ cls := "com/example/acker/acker/engine/Backoff", name := "equals", desc := "(Ljava/lang/Object;)Z" } : Jvm.MethodName) prog_2_method_5_code (2 : Nat) (Option.some Jvm.ClassFile.FieldType.boolean), Jvm.Cond.code ({ cls := "java/lang/Integer", name := "<init>", desc := "(I)V" } : Jvm.MethodName) jdk_33_method_23_code (2 : Nat) (Option.none : Option Jvm.ClassFile.FieldType), Jvm.Cond.code ({ cls := "java/lang/Number", name := "<init>", desc := "()V" } : Jvm.MethodName) jdk_18_method_1_code (1 : Nat) (Option.none : Option Jvm.ClassFile.FieldType)]
set_option maxRecDepth 65536 in
theorem codes_eq : words1.filter isCode = codes1 := rfl
theorem w_codes : ∀ c ∈ words1.filter isCode, c.before args0 about1 = true := by
  rw [codes_eq]
  intro c hc
  simp only [codes1, List.mem_cons, List.not_mem_nil, or_false] at hc
  rcases hc with rfl | rfl | rfl | rfl | rfl | rfl | rfl | rfl
  · exact w_c0
  · exact w_c1
  · exact w_c2
  · exact w_c3
  · exact w_c4
  · exact w_c5
  · exact w_c6
  · exact w_c7
set_option maxRecDepth 65536 in
theorem w_t1 : (words1.take 24).all (fun c => isCode c || c.before args0 about1) = true := by decide +kernel
set_option maxRecDepth 65536 in
theorem w_t2 : ((words1.drop 24).take 24).all (fun c => isCode c || c.before args0 about1) = true := by decide +kernel
set_option maxRecDepth 65536 in
theorem w_t3 : ((words1.drop 24).drop 24).all (fun c => isCode c || c.before args0 about1) = true := by decide +kernel
theorem w_tables : (allAtoms (Jvm.Cond.code x code maxLocals ret :: tables_1)).before args0 about1 = true := by
  rw [allAtoms_all]
  show words1.all (fun c => c.before args0 about1) = true
  refine all_split ?_ w_codes
  rw [← List.take_append_drop 24 words1, List.all_append, w_t1, ← List.take_append_drop 24 (words1.drop 24), List.all_append, w_t2, w_t3]
  rfl
set_option maxRecDepth 65536 in
theorem w_rest : rest_1_c.before args0 about1 = true := by decide +kernel
set_option maxRecDepth 65536 in
theorem w_case : (Jvm.Cond.and given_1 narrow_1).before args0 about1 = true := by decide +kernel
theorem w_applies : (headSpec (Jvm.Cond.code x code maxLocals ret :: tables_1) room_1).applies x e0.platform about1 = true :=
  (Spec.applies_iff w_frames).mpr ⟨w_running, w_runnable, w_alone, w_named, w_hears, w_ripe, w_room, w_tables⟩
theorem atStart : AtStart classFile x code maxLocals ret World_1 tables_1 room_1 Calls_1 rest_1 Pre_1 launch0 p0 e0 about1 theMethod args0 below0 :=
  ⟨lists_1, trivial, launch0.admits_env _ _ _, launch0.least_env, fairChoices_fair.cas, fairChoices_fair.clock, w_frames, w_args, w_heap, w_applies, trivial, w_rest, w_case⟩
end start1
theorem witness_1 : WitnessClaimed_1 := ⟨start1.p0, start1.e0, start1.about1, start1.theMethod, start1.args0, start1.below0, start1.atStart⟩
end Jvm.Pilot.@@N@@
