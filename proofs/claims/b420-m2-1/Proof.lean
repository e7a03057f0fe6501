import JvmDerived
import JvmDerived.Pilot.@@N@@Statement
import JvmDerived.Pilot.@@N@@Code
set_option linter.unusedVariables false
set_option linter.unusedSimpArgs false
namespace Jvm.RoadKit
open Sem ClassFile Op Lib Jvm.Stand Jvm.Free Jvm.LawKit
section New
variable {p : Program} {l : Launch} {e : Env} {R : Room} {s : State} {m : MethodId} {args : Array Value} {below : List Frame} {meth : Method} {c : Code} {T : State} {locs : List Loc} {cells slots : Nat}
theorem retI (X : Stand p l e R s m args below meth c T locs cells slots) (hx : p.tables.exec = Jvm.exec) {pc : Nat} {Ls : Array Slot} {z : Int32} {rest : List Value} (hret : meth.sig.returnType = some .int) (hd : decode c.code pc = .ok (.ireturn, 1)) {fs : List Frame}
    (hl : ∀ (f : JFrame) (acts : List Action), f.method = m → f.locked = none → f.entered = [] → (doReturn e (T.setTop f) acts (some (.int z))).1 = T.setFrames fs) : Steps p.tables e below (T.setTop (mkF m pc Ls (.int z :: rest))) (T.setFrames fs) := by
  have hm' : T.vm.method? m = some meth := X.method'
  have hn : narrow .int (.int z) = .int z := rfl
  show Steps p.tables e below (T.setTop { method := m, pc := pc, locals := Ls, stack := _ :: rest, locked := none }) _
  jvm_step X.here [X.here.top, hx, hd, hm', hret, hn]
  first | (intro acts; rw [hl _ acts rfl rfl rfl]) | rw [hl _ _ rfl rfl rfl]
  exact Steps.refl _
end New
end Jvm.RoadKit
namespace Jvm.Pilot.@@N@@
open Jvm Jvm.ClassFile Sem Op Lib Jvm.Free Jvm.Stand Jvm.LawKit Jvm.RoadKit Bundle Jvm.Pilot.@@N@@.Jvm.D
def bI (P : Prop) [Decidable P] : Int32 := if P then 1 else 0
theorem own_b1 {P : Prop} [Decidable P] (h : P) : some (Value.int (1 : Int32)) = some (Value.int (bI P)) := by rw [bI, if_pos h]
theorem own_b0 {P : Prop} [Decidable P] (h : ¬ P) : some (Value.int (0 : Int32)) = some (Value.int (bI P)) := by rw [bI, if_neg h]
theorem own_c1 {P : Prop} [Decidable P] (h : P) : (1 : Int32) = bI P := by rw [bI, if_pos h]
theorem own_c0 {P : Prop} [Decidable P] (h : ¬ P) : (0 : Int32) = bI P := by rw [bI, if_neg h]
theorem own_bI {P : Prop} [Decidable P] : (P ∧ bI P = 1) ∨ (¬ P ∧ bI P = 0) := by by_cases h : P <;> simp [bI, h]
theorem own_bt {P : Prop} [Decidable P] : (P ∧ (bI P).toInt = 1) ∨ (¬ P ∧ (bI P).toInt = 0) := by by_cases h : P <;> simp [bI, h]
theorem own_nar {P : Prop} [Decidable P] : nar .boolean (bI P) = bI P := by by_cases h : P <;> simp only [bI, h, if_true, if_false] <;> decide
theorem own_lt {a b : Int32} : a < b ↔ a.toInt < b.toInt := Int32.lt_iff_toInt_lt
theorem own_nlt {a b : Int32} : ¬ (a < b) ↔ b.toInt ≤ a.toInt := by rw [own_lt]; omega
theorem own_eq {a b : Int32} : a = b ↔ a.toInt = b.toInt := Int32.toInt_inj.symm
theorem own_neq {a b : Int32} : ¬ (a = b) ↔ ¬ (a.toInt = b.toInt) := by rw [own_eq]
theorem own_ltL {a b : Int64} : a < b ↔ a.toInt < b.toInt := Int64.lt_iff_toInt_lt
theorem own_eqL {a b : Int64} : a = b ↔ a.toInt = b.toInt := Int64.toInt_inj.symm
theorem own_sk {Z : State} {h h' : Heap} {C n d K : String} {v : Value} {b : Addr} (F : Sta Z h C n d v) (Kp : Keep h h' [b]) (E : Exa Z h b K) : Sta Z h' C n d v := by
  obtain ⟨cf, i, k, f, st, cell, h1, h2, h3, h4, h5, h6, h7⟩ := F
  refine ⟨cf, i, k, f, st, cell, h1, h2, h3, h4, Kp.2.1 st cell h5 (fun q => ?_), h6, h7⟩
  obtain ⟨cl, kk, e1, e2, e3, e4, e5⟩ := E
  have q' := List.mem_singleton.mp q
  subst q'
  rw [h5] at e1
  cases e1
  rw [h6] at e4
  cases e4
theorem own_eqI {t : Term} {k : Int32} {args : Array Value} {Z : State} (h : (Jvm.Cond.eq t (Term.int k)).value args Z none Z [] = some true) : t.eval args Z none [] Z = some (.int k) := by
  obtain ⟨x, y, hx, hy, K1, K2⟩ := cmp_v (Or.inl h)
  have hy' : y = .int k := by simpa [Term.eval] using hy.symm
  subst hy'
  obtain ⟨z, rfl⟩ := K2
  have q : z = k := by simpa [Jvm.Cond.value, hx, Term.eval] using h
  rw [hx, q]
theorem own_fldI {t : Term} {C n d : String} {k : Int32} {a : Addr} {args : Array Value} {Z : State} (ev : t.eval args Z none [] Z = some (.ref a)) (h : (Jvm.Cond.eq (Term.field t C n d) (Term.int k)).value args Z none Z [] = some true) : Z.fieldOf? a C n d = some (.int k) := by
  rw [← fld_at ev]; exact own_eqI h
theorem own_ford {C n d : String} {k k' : Int32} {a b : Addr} {Z : State} (h1 : Z.fieldOf? a C n d = some (.int k)) (h2 : Z.fieldOf? b C n d = some (.int k')) (hk : k ≠ k') : a ≠ b := fun q => by
  rw [q, h2] at h1
  exact hk (Value.int.inj (Option.some.inj h1)).symm
theorem own_s0 {Z : State} {h h' : Heap} {C n d : String} {v : Value} (F : Sta Z h C n d v) (Kp : Keep h h' []) : Sta Z h' C n d v := by
  obtain ⟨cf, i, k, f, st, cell, h1, h2, h3, h4, h5, h6, h7⟩ := F
  exact ⟨cf, i, k, f, st, cell, h1, h2, h3, h4, Kp.2.1 st cell h5 (by simp), h6, h7⟩
theorem own_a0 {Z : State} {h h' : Heap} {a : Addr} {c : Cell} {ty : FieldType} (A : Arr Z h a c ty) (Kp : Keep h h' []) : Arr Z h' a c ty := ⟨Kp.2.1 a c A.1 (by simp), A.2⟩
theorem own_f0 {Z : State} {h h' : Heap} {C n d : String} {a : Addr} {v : Value} (F : Fld Z h a C n d v) (Kp : Keep h h' []) : Fld Z h' a C n d v := F.keep Kp (by simp)
theorem own_no2 {Z : State} {a0 : Array Value} {C S O K : String} {n : Nat} (w1 : (Jvm.Cond.superclass C S).before a0 Z = true) (w2 : (Jvm.Cond.superclass S O).before a0 Z = true) (w3 : (Jvm.Cond.noSuperclass O).before a0 Z = true) (wk : (Jvm.Cond.instantiable K n).before a0 Z = true)
    (n1 : C ≠ K) (n2 : S ≠ K) (n3 : O ≠ K) : ∃ c t, Z.vm.findClass C = some c ∧ Z.vm.findClass K = some t ∧ Z.vm.assignable c t = false := by
  obtain ⟨t, kt, ht, hkt, ho, hi, -, -⟩ := Cond.instantiable_spec wk
  obtain ⟨cO, kO, hO, hkO, hs, -, -⟩ := Cond.noSuperclass_spec w3
  have neO := ids_ne hO ht n3
  have r0 : NS Z O K := ⟨cO, t, hO, ht, fun fuel => by cases fuel with
    | zero => rfl
    | succ f => simp [Vm.isSubclassAux, neO, hkO, hs]⟩
  obtain ⟨c, t', h0, g0, n3'⟩ := NS.step w1 (NS.step w2 r0 n2) n1
  cases ht.symm.trans g0
  obtain ⟨p, k, kp, h1, h2, h3, h4, h5, -, h7⟩ := Cond.superclass_spec h0 w1
  have ne := ids_ne h0 ht n1
  have hi' : kt.isInterface = false := by simp only [Bool.or_eq_false_iff] at hi; exact hi.1
  refine ⟨c, t, h0, ht, ?_⟩
  show Z.vm.assignableAux (255 + 1) c t = false
  simp [Vm.assignableAux, ne, h2, hkt, h5, ho, hi', Vm.isSubclass, n3']
theorem own_box {Z : State} {args : Array Value} {t : Term} {K : String} {X : Jvm.Cond} {a : Addr} {c : Cell} (et : ∀ idx, t.eval args Z none idx Z = some (.ref a)) (A : Arr Z Z.heap a c (.object K))
    (h : (Jvm.Cond.all t (.and (.exactly (.elem t (.index 0)) K) X)).value args Z none Z [] = some true) (j : Int32) (hj : ¬ (j < 0 ∨ c.slots.size ≤ j.toNatClampNeg)) : ∃ b : Addr, c.slots[j.toNatClampNeg]? = some (.ref b) ∧ Exa Z Z.heap b K := by
  have nn : ¬ j < 0 := fun x => hj (Or.inl x)
  have u := (and_e (Cond.all_elim (et []) (A.fin (Vm.Alike.refl _)) h j.toNatClampNeg (Nat.lt_of_not_le fun x => hj (Or.inr x)))).1
  obtain ⟨box, eb⟩ := exa_v u
  exact ⟨box, (elem_f (et _) (idx_at nn) (A.fin (Vm.Alike.refl _)) nn).symm.trans eb, exa_at eb u⟩
theorem own_len {Z : State} {args : Array Value} {t : Term} {a : Addr} {c : Cell} {ty : FieldType} {z : Int32} (ev : t.eval args Z none [] Z = some (.ref a)) (A : Arr Z Z.heap a c ty) (h : (Term.length t).eval args Z none [] Z = some (.int z)) : c.slots.size < 2 ^ 31 ∧ c.slots.size.toInt32 = z := by
  have ha := A.fin (Vm.Alike.refl _)
  simpa [Term.eval, ev, ha] using h
theorem own_size {c : Cell} {z : Int32} {n : Nat} (h : c.slots.size < 2 ^ 31 ∧ c.slots.size.toInt32 = z) (hz : z.toInt = n) : c.slots.size = n := by
  have q := len_toInt h.1
  rw [h.2] at q
  omega
theorem own_eqR {t u : Term} {b : Addr} {args : Array Value} {Z : State} (hu : u.eval args Z none [] Z = some (.ref b)) (h : (Jvm.Cond.eq t u).value args Z none Z [] = some true) : t.eval args Z none [] Z = some (.ref b) := by
  obtain ⟨x, y, hx, hy, K1, K2⟩ := cmp_v (Or.inl h)
  cases hu.symm.trans hy
  have hr : x.isRef = true := K2.2
  have e := eq_R hx hu hr rfl
  rw [h] at e
  rw [hx, of_decide_eq_true (Option.some.inj e).symm]
theorem own_rew {s t : State} {o : Outcome} {L : List Loc} {k n k' n' : Nat} (h : ReturnedEndW s o t L k n) (hk : k ≤ k') (hn : n ≤ n') : ReturnedEndW s o t L k' n' := ⟨h.1, h.2.1, h.2.2.1, h.2.2.2.mono hk hn⟩
theorem own_m31 (x : Int32) : (x &&& (2147483647 : Int32)).toInt = x.toInt % 2147483648 := c_mask x (2147483647 : Int32) 31 (by decide) (by decide)
theorem own_mrem (x y : Int32) (d : Int) (hy : y.toInt = d) : ((x &&& (2147483647 : Int32)) % y).toInt = (x.toInt % 2147483648) % d := by
  have h := own_m31 x
  rw [(c_irem _ y d hy).1 (by omega), h]
theorem ef_2 (m : MethodId) (x0 : Addr) : entryFrame m #[(.ref x0)] 1 = mkF m 0 #[.val (.ref x0)] [] := by first | (simp [entryFrame, mkF, argsToLocals, Value.category]; done) | rfl
theorem pn_java_lang_Record : plainName "java/lang/Record" = true := by first | (simp [plainName, overriddenIn]; done) | decide +kernel
theorem d2_0 : decode jdk_30_method_1_code 0 = .ok (.aload_n 0, 1) := by decide +kernel
theorem d2_1 : decode jdk_30_method_1_code 1 = .ok (.invokespecial 1, 3) := by decide +kernel
theorem d2_4 : decode jdk_30_method_1_code 4 = .ok (.return_, 1) := by decide +kernel
theorem ef_1 (m : MethodId) (x0 : Addr) (x1 : Int64) (x2 : Int64) (x3 : Int64) : entryFrame m #[(.ref x0), (.long x1), (.long x2), (.long x3)] 7 = mkF m 0 #[.val (.ref x0), .val (.long x1), .second, .val (.long x2), .second, .val (.long x3), .second] [] := by first | (simp [entryFrame, mkF, argsToLocals, Value.category]; done) | rfl
theorem pn_com_example_fresh_index_freshindex_engine_EventCounts : plainName "com/example/fresh_index/freshindex/engine/EventCounts" = true := by first | (simp [plainName, overriddenIn]; done) | decide +kernel
theorem d1_0 : decode prog_11_method_1_code 0 = .ok (.aload_n 0, 1) := by decide +kernel
theorem d1_1 : decode prog_11_method_1_code 1 = .ok (.invokespecial 1, 3) := by decide +kernel
theorem pd_0 : parseMethodDescriptor "()V" = some ⟨[], none⟩ := by decide +kernel
theorem d1_4 : decode prog_11_method_1_code 4 = .ok (.aload_n 0, 1) := by decide +kernel
theorem d1_5 : decode prog_11_method_1_code 5 = .ok (.lload_n 1, 1) := by decide +kernel
theorem d1_6 : decode prog_11_method_1_code 6 = .ok (.putfield 7, 3) := by decide +kernel
theorem d1_9 : decode prog_11_method_1_code 9 = .ok (.aload_n 0, 1) := by decide +kernel
theorem d1_10 : decode prog_11_method_1_code 10 = .ok (.lload_n 3, 1) := by decide +kernel
theorem d1_11 : decode prog_11_method_1_code 11 = .ok (.putfield 13, 3) := by decide +kernel
theorem d1_14 : decode prog_11_method_1_code 14 = .ok (.aload_n 0, 1) := by decide +kernel
theorem d1_15 : decode prog_11_method_1_code 15 = .ok (.lload 5, 2) := by decide +kernel
theorem d1_17 : decode prog_11_method_1_code 17 = .ok (.putfield 16, 3) := by decide +kernel
theorem d1_20 : decode prog_11_method_1_code 20 = .ok (.return_, 1) := by decide +kernel
theorem ef_4 (m : MethodId) (x0 : Addr) : entryFrame m #[(.ref x0)] 1 = mkF m 0 #[.val (.ref x0)] [] := by first | (simp [entryFrame, mkF, argsToLocals, Value.category]; done) | rfl
theorem d4_0 : decode prog_11_method_2_code 0 = .ok (.aload_n 0, 1) := by decide +kernel
theorem d4_1 : decode prog_11_method_2_code 1 = .ok (.getfield 7, 3) := by decide +kernel
theorem d4_4 : decode prog_11_method_2_code 4 = .ok (.aload_n 0, 1) := by decide +kernel
theorem d4_5 : decode prog_11_method_2_code 5 = .ok (.getfield 13, 3) := by decide +kernel
theorem d4_8 : decode prog_11_method_2_code 8 = .ok (.ladd, 1) := by decide +kernel
theorem d4_9 : decode prog_11_method_2_code 9 = .ok (.aload_n 0, 1) := by decide +kernel
theorem d4_10 : decode prog_11_method_2_code 10 = .ok (.getfield 16, 3) := by decide +kernel
theorem d4_13 : decode prog_11_method_2_code 13 = .ok (.ladd, 1) := by decide +kernel
theorem d4_14 : decode prog_11_method_2_code 14 = .ok (.lreturn, 1) := by decide +kernel
theorem ef_5 (m : MethodId) (x0 : Addr) (x1 : Addr) : entryFrame m #[(.ref x0), (.ref x1)] 3 = mkF m 0 #[.val (.ref x0), .val (.ref x1), .unset] [] := by first | (simp [entryFrame, mkF, argsToLocals, Value.category]; done) | rfl
theorem d5_0 : decode prog_11_method_4_code 0 = .ok (.aload_n 1, 1) := by decide +kernel
theorem d5_1 : decode prog_11_method_4_code 1 = .ok (.getstatic 45, 3) := by decide +kernel
theorem d5_4 : decode prog_11_method_4_code 4 = .ok (.if_acmp .ne 28, 3) := by decide +kernel
theorem d5_7 : decode prog_11_method_4_code 7 = .ok (.new 8, 3) := by decide +kernel
theorem d5_10 : decode prog_11_method_4_code 10 = .ok (.dup, 1) := by decide +kernel
theorem d5_11 : decode prog_11_method_4_code 11 = .ok (.aload_n 0, 1) := by decide +kernel
theorem d5_12 : decode prog_11_method_4_code 12 = .ok (.getfield 7, 3) := by decide +kernel
theorem d5_15 : decode prog_11_method_4_code 15 = .ok (.lconst 1, 1) := by decide +kernel
theorem d5_16 : decode prog_11_method_4_code 16 = .ok (.ladd, 1) := by decide +kernel
theorem d5_17 : decode prog_11_method_4_code 17 = .ok (.aload_n 0, 1) := by decide +kernel
theorem d5_18 : decode prog_11_method_4_code 18 = .ok (.getfield 13, 3) := by decide +kernel
theorem d5_21 : decode prog_11_method_4_code 21 = .ok (.aload_n 0, 1) := by decide +kernel
theorem d5_22 : decode prog_11_method_4_code 22 = .ok (.getfield 16, 3) := by decide +kernel
theorem d5_25 : decode prog_11_method_4_code 25 = .ok (.invokespecial 51, 3) := by decide +kernel
theorem pd_1 : parseMethodDescriptor "(JJJ)V" = some ⟨[.long, .long, .long], none⟩ := by decide +kernel
theorem d5_28 : decode prog_11_method_4_code 28 = .ok (.astore_n 2, 1) := by decide +kernel
theorem d5_29 : decode prog_11_method_4_code 29 = .ok (.goto 57, 3) := by decide +kernel
theorem d5_86 : decode prog_11_method_4_code 86 = .ok (.aload_n 2, 1) := by decide +kernel
theorem d5_87 : decode prog_11_method_4_code 87 = .ok (.areturn, 1) := by decide +kernel
theorem d5_32 : decode prog_11_method_4_code 32 = .ok (.aload_n 1, 1) := by decide +kernel
theorem d5_33 : decode prog_11_method_4_code 33 = .ok (.getstatic 54, 3) := by decide +kernel
theorem d5_36 : decode prog_11_method_4_code 36 = .ok (.if_acmp .ne 28, 3) := by decide +kernel
theorem d5_39 : decode prog_11_method_4_code 39 = .ok (.new 8, 3) := by decide +kernel
theorem d5_42 : decode prog_11_method_4_code 42 = .ok (.dup, 1) := by decide +kernel
theorem d5_43 : decode prog_11_method_4_code 43 = .ok (.aload_n 0, 1) := by decide +kernel
theorem d5_44 : decode prog_11_method_4_code 44 = .ok (.getfield 7, 3) := by decide +kernel
theorem d5_47 : decode prog_11_method_4_code 47 = .ok (.aload_n 0, 1) := by decide +kernel
theorem d5_48 : decode prog_11_method_4_code 48 = .ok (.getfield 13, 3) := by decide +kernel
theorem d5_51 : decode prog_11_method_4_code 51 = .ok (.lconst 1, 1) := by decide +kernel
theorem d5_52 : decode prog_11_method_4_code 52 = .ok (.ladd, 1) := by decide +kernel
theorem d5_53 : decode prog_11_method_4_code 53 = .ok (.aload_n 0, 1) := by decide +kernel
theorem d5_54 : decode prog_11_method_4_code 54 = .ok (.getfield 16, 3) := by decide +kernel
theorem d5_57 : decode prog_11_method_4_code 57 = .ok (.invokespecial 51, 3) := by decide +kernel
theorem d5_60 : decode prog_11_method_4_code 60 = .ok (.astore_n 2, 1) := by decide +kernel
theorem d5_61 : decode prog_11_method_4_code 61 = .ok (.goto 25, 3) := by decide +kernel
theorem d5_64 : decode prog_11_method_4_code 64 = .ok (.new 8, 3) := by decide +kernel
theorem d5_67 : decode prog_11_method_4_code 67 = .ok (.dup, 1) := by decide +kernel
theorem d5_68 : decode prog_11_method_4_code 68 = .ok (.aload_n 0, 1) := by decide +kernel
theorem d5_69 : decode prog_11_method_4_code 69 = .ok (.getfield 7, 3) := by decide +kernel
theorem d5_72 : decode prog_11_method_4_code 72 = .ok (.aload_n 0, 1) := by decide +kernel
theorem d5_73 : decode prog_11_method_4_code 73 = .ok (.getfield 13, 3) := by decide +kernel
theorem d5_76 : decode prog_11_method_4_code 76 = .ok (.aload_n 0, 1) := by decide +kernel
theorem d5_77 : decode prog_11_method_4_code 77 = .ok (.getfield 16, 3) := by decide +kernel
theorem d5_80 : decode prog_11_method_4_code 80 = .ok (.lconst 1, 1) := by decide +kernel
theorem d5_81 : decode prog_11_method_4_code 81 = .ok (.ladd, 1) := by decide +kernel
theorem d5_82 : decode prog_11_method_4_code 82 = .ok (.invokespecial 51, 3) := by decide +kernel
theorem d5_85 : decode prog_11_method_4_code 85 = .ok (.astore_n 2, 1) := by decide +kernel
theorem ef_0 (m : MethodId) (x0 : Int64) (x1 : Int64) (x2 : Int64) (x3 : Int32) : entryFrame m #[(.long x0), (.long x1), (.long x2), (.int x3)] maxLocals = mkF m 0 #[.val (.long x0), .second, .val (.long x1), .second, .val (.long x2), .second, .val (.int x3), .unset, .unset, .unset, .unset, .unset, .unset, .unset, .unset, .unset, .unset, .unset, .unset, .unset, .unset, .unset, .unset, .unset] [] := by first | (simp [entryFrame, mkF, argsToLocals, Value.category, maxLocals]; done) | rfl
theorem pn_com_example_fresh_index_freshindex_engine_EventCountsEventsPinLaw : plainName "com/example/fresh_index/freshindex/engine/EventCountsEventsPinLaw" = true := by first | (simp [plainName, overriddenIn]; done) | decide +kernel
theorem pd_2 : parseMethodDescriptor "()J" = some ⟨[], some .long⟩ := by decide +kernel
theorem pd_3 : parseMethodDescriptor "(Lcom/example/fresh_index/freshindex/engine/EventCounts$Outcome;)Lcom/example/fresh_index/freshindex/engine/EventCounts;" = some ⟨[(.object "com/example/fresh_index/freshindex/engine/EventCounts$Outcome")], some (.object "com/example/fresh_index/freshindex/engine/EventCounts")⟩ := by decide +kernel
def Q2 (Z : State) (r0 : Addr) (h0 : Heap) (n0 : Nat) (v : Option Value) (h : Heap) (L : List Loc) : Prop := v = none ∧ Fr n0 L ∧ h = h0
set_option maxRecDepth 65536 in
set_option maxHeartbeats 40000000 in
theorem rm2 (l : Launch) (Z : State) (a0 : Array Value) (hw : ∀ d ∈ tables_1, d.before a0 Z = true) (ws : List Jvm.Cond) (r0 : Addr) (h0 : Heap) (n0 : Nat) (Z0 : n0 ≤ h0.size) :
    MetFree l (⟨"java/lang/Record", "<init>", "()V"⟩ : MethodName) (head1 (Jvm.Cond.code (⟨"java/lang/Record", "<init>", "()V"⟩ : MethodName) jdk_30_method_1_code 1 none :: ws) ({ frames := 1, cells := 0, slots := 0, locals := 12 } : Room)) (fun a U => a = #[(.ref r0)] ∧ Z.Warmed39 U.vm ∧ U.heap = h0) (fun _ _ _ _ _ => True) (fun _ U o U' => ∃ v L, o = .returned v ∧ Q2 Z r0 h0 n0 v U'.heap L ∧ FrameEnd U o U' L ({ frames := 1, cells := 0, slots := 0, locals := 12 } : Room).cells ({ frames := 1, cells := 0, slots := 0, locals := 12 } : Room).slots) := by
  refine MetFree.of_bodySF (plainFor_of_name pn_java_lang_Record) hisR ?_
  intro p e s m args below meth c s₁ Bd hml0 hP hK
  obtain ⟨rfl, hZ, hh⟩ := hP
  have hx := Bd.exec
  have hby := Bd.bytes
  have hml : c.maxLocals = 1 := hml0
  have hown : s.vm.findClass "java/lang/Record" = some m.cls := findClass_of_methodNamed Bd.named
  have hnm := (name_of_methodNamed Bd.named Bd.method).1
  have X0 : Stand p l e ({ frames := 1, cells := 0, slots := 0, locals := 12 } : Room) s m #[(.ref r0)] below meth c s₁ [] 0 0 := Stand.of_body Bd
  have e0 : s₁.heap = h0 := by rw [← hh, Bd.state]; rfl
  have N0 := Fr.nil n0
  have pre0 : ∀ t, Steps p.tables e below (s₁.setTop (mkF m 0 #[.val (.ref r0)] [])) t → Steps p.tables e below (s₁.setTop (entryFrame m #[(.ref r0)] 1)) t := fun t k => castTop (ef_2 m r0) k
  have preS : ∀ t, Steps p.tables e below (s₁.setTop (mkF m 0 #[.val (.ref r0)] [])) t → Steps p.tables e below (s₁.setTop (mkF m 0 #[.val (.ref r0)] [])) t := fun t k => k
  obtain ⟨T1, X1, e1, st1⟩ := initO X0 hx hZ hown (hw _ (List.mem_of_getElem? (i := 11) rfl)) (hw _ (List.mem_of_getElem? (i := 12) rfl)) (hw _ (List.mem_of_getElem? (i := 13) rfl)) e0 (g := (mkF m 1 #[.val (.ref r0)] [(.ref r0)])) rfl (by rw [hml]; rfl) rfl (hb hby d2_1) (by decide) (W := 0) (by show 2 * 0 + _ ≤ _; exact Nat.le_of_eq rfl) (by decide)
  obtain ⟨fs, hr, hrun, hended, hW, hsame⟩ := X1.leave (v := none) (fun _ => rfl)
  refine ⟨_, _, pre0 _ (preS _ ?_), hrun, hended, _, _, rfl, ?_, ⟨_, rfl⟩, hW, hsame.mono (by decide) (by decide)⟩
  · skip
    show Steps p.tables e below (s₁.setTop (mkF m 0 #[.val (.ref r0)] [])) _
    refine XS.aloadN X0.here hx rfl (hb hby d2_0) rfl rfl ?_
    show Steps p.tables e below (s₁.setTop (mkF m 1 #[.val (.ref r0)] [(.ref r0)])) _
    refine st1 _ ?_
    show Steps p.tables e below (T1.setTop (mkF m 4 #[.val (.ref r0)] [])) _
    exact X1.returnOut hx Bd.returns (hb hby d2_4) hr
  · show Q2 Z r0 h0 n0 _ T1.heap _
    rw [e1]
    exact ⟨rfl, N0, rfl⟩
def Q1 (Z : State) (r0 : Addr) (q1 : Int64) (q2 : Int64) (q3 : Int64) (h0 : Heap) (n0 : Nat) (v : Option Value) (h : Heap) (L : List Loc) : Prop := v = none ∧ Fr n0 L ∧ Keep h0 h [r0] ∧ Exa Z h r0 "com/example/fresh_index/freshindex/engine/EventCounts" ∧ Fld Z h r0 "com/example/fresh_index/freshindex/engine/EventCounts" "applied" "J" (.long q1) ∧ Fld Z h r0 "com/example/fresh_index/freshindex/engine/EventCounts" "skipped" "J" (.long q2) ∧ Fld Z h r0 "com/example/fresh_index/freshindex/engine/EventCounts" "parked" "J" (.long q3)
set_option maxRecDepth 65536 in
set_option maxHeartbeats 40000000 in
theorem rm1 (l : Launch) (Z : State) (a0 : Array Value) (hw : ∀ d ∈ tables_1, d.before a0 Z = true) (ws : List Jvm.Cond) (r0 : Addr) (q1 : Int64) (q2 : Int64) (q3 : Int64) (h0 : Heap) (n0 : Nat) (Z0 : n0 ≤ h0.size) (E_r0 : Exa Z h0 r0 "com/example/fresh_index/freshindex/engine/EventCounts") (F_0 : Fld Z h0 r0 "com/example/fresh_index/freshindex/engine/EventCounts" "applied" "J" (.long (0 : Int64))) (F_1 : Fld Z h0 r0 "com/example/fresh_index/freshindex/engine/EventCounts" "skipped" "J" (.long (0 : Int64))) (F_2 : Fld Z h0 r0 "com/example/fresh_index/freshindex/engine/EventCounts" "parked" "J" (.long (0 : Int64))) (g_r0 : n0 ≤ r0) :
    MetFree l (⟨"com/example/fresh_index/freshindex/engine/EventCounts", "<init>", "(JJJ)V"⟩ : MethodName) (head1 (Jvm.Cond.code (⟨"com/example/fresh_index/freshindex/engine/EventCounts", "<init>", "(JJJ)V"⟩ : MethodName) prog_11_method_1_code 7 none :: ws) ({ frames := 2, cells := 0, slots := 0, locals := 24 } : Room)) (fun a U => a = #[(.ref r0), (.long q1), (.long q2), (.long q3)] ∧ Z.Warmed39 U.vm ∧ U.heap = h0) (fun _ _ _ _ _ => True) (fun _ U o U' => ∃ v L, o = .returned v ∧ Q1 Z r0 q1 q2 q3 h0 n0 v U'.heap L ∧ FrameEnd U o U' L ({ frames := 2, cells := 0, slots := 0, locals := 24 } : Room).cells ({ frames := 2, cells := 0, slots := 0, locals := 24 } : Room).slots) := by
  refine MetFree.of_bodySF (plainFor_of_name pn_com_example_fresh_index_freshindex_engine_EventCounts) hisR ?_
  intro p e s m args below meth c s₁ Bd hml0 hP hK
  obtain ⟨rfl, hZ, hh⟩ := hP
  have hx := Bd.exec
  have hby := Bd.bytes
  have hml : c.maxLocals = 7 := hml0
  have hown : s.vm.findClass "com/example/fresh_index/freshindex/engine/EventCounts" = some m.cls := findClass_of_methodNamed Bd.named
  have hnm := (name_of_methodNamed Bd.named Bd.method).1
  have X0 : Stand p l e ({ frames := 2, cells := 0, slots := 0, locals := 24 } : Room) s m #[(.ref r0), (.long q1), (.long q2), (.long q3)] below meth c s₁ [] 0 0 := Stand.of_body Bd
  have e0 : s₁.heap = h0 := by rw [← hh, Bd.state]; rfl
  have N0 := Fr.nil n0
  have pre0 : ∀ t, Steps p.tables e below (s₁.setTop (mkF m 0 #[.val (.ref r0), .val (.long q1), .second, .val (.long q2), .second, .val (.long q3), .second] [])) t → Steps p.tables e below (s₁.setTop (entryFrame m #[(.ref r0), (.long q1), (.long q2), (.long q3)] 7)) t := fun t k => castTop (ef_1 m r0 q1 q2 q3) k
  have preS : ∀ t, Steps p.tables e below (s₁.setTop (mkF m 0 #[.val (.ref r0), .val (.long q1), .second, .val (.long q2), .second, .val (.long q3), .second] [])) t → Steps p.tables e below (s₁.setTop (mkF m 0 #[.val (.ref r0), .val (.long q1), .second, .val (.long q2), .second, .val (.long q3), .second] [])) t := fun t k => k
  have KR : Keep h0 h0 [r0] := Keep.refl _ _
  obtain ⟨_, _, ⟨T1, L1, k1, n1⟩, -, X1, ⟨Lc1, hQ1, l1, y1, z1⟩, st1⟩ := X0.specialBack hx (y := (⟨"java/lang/Record", "<init>", "()V"⟩ : MethodName)) rfl hown (mvT hZ (hw _ (List.mem_of_getElem? (i := 6) rfl))) (mvT hZ (hw _ (List.mem_of_getElem? (i := 7) rfl))) (mvT hZ (hw _ (List.mem_of_getElem? (i := 10) rfl))) (by decide) (backOf (W := 0) (rm2 l Z a0 hw [] r0  h0 n0 Z0 ) hZ (hw _ (List.mem_of_getElem? (i := 10) rfl)) (hw _ (List.mem_of_getElem? (i := 9) rfl)) (by decide) (by decide)) (g := (mkF m 1 #[.val (.ref r0), .val (.long q1), .second, .val (.long q2), .second, .val (.long q3), .second] [(.ref r0)])) rfl (by rw [hml]; rfl) (Steps.refl _) (a := r0) (argsL := []) (rest := []) (lenOf pd_0 rfl) rfl (by show 2 * 0 + _ ≤ _; exact Nat.le_of_eq rfl) (hb hby d1_1) (fun _ _ => ⟨rfl, e0, (by decide : 0 + 0 ≤ _), (by decide : 0 + 0 ≤ _)⟩)
  dsimp only [Pt.U, Pt.locs, Pt.cells, Pt.slots] at X1 l1 y1 z1 st1 hQ1
  subst l1 y1 z1
  obtain ⟨rfl, Nq1, e1⟩ := hQ1
  have N1 := Fr.app N0 Nq1
  obtain ⟨T2, h2, X2, e2, W2, st2⟩ := putF X1 hx hZ hown (host := "") (Or.inl (hw _ (List.mem_of_getElem? (i := 14) rfl))) Via.refl e1 F_0 E_r0 (Or.inr ⟨(hw _ (List.mem_of_getElem? (i := 15) rfl)), rfl, hnm⟩) (hw _ (List.mem_of_getElem? (i := 1) rfl)) (ty := .long) (by decide) rfl rfl (g := (mkF m 6 #[.val (.ref r0), .val (.long q1), .second, .val (.long q2), .second, .val (.long q3), .second] [(.long q1), (.ref r0)])) rfl rfl (hb hby d1_6)
  have Fw2 : Fld Z h2 r0 "com/example/fresh_index/freshindex/engine/EventCounts" "applied" "J" (.long q1) := F_0.same W2
  have N2 := Fr.snoc X2 N1 g_r0
  have Z2 : n0 ≤ h2.size := Nat.le_trans Z0 (Keep.of_wr W2).1
  have K2 : Keep h0 h2 [r0] := KR.wr W2 (Or.inl (List.mem_of_getElem? (i := 0) rfl))
  have c3 : Exa Z h2 r0 "com/example/fresh_index/freshindex/engine/EventCounts" := E_r0.wr W2
  have c4 : Fld Z h2 r0 "com/example/fresh_index/freshindex/engine/EventCounts" "skipped" "J" (.long (0 : Int64)) := F_1.other W2 (Or.inr (slot_ne (Or.inr (hw _ (List.mem_of_getElem? (i := 17) rfl))) (Or.inr (hw _ (List.mem_of_getElem? (i := 15) rfl))) (by decide) (t := .long) (t' := .long) (by decide) (by decide)))
  have c5 : Fld Z h2 r0 "com/example/fresh_index/freshindex/engine/EventCounts" "parked" "J" (.long (0 : Int64)) := F_2.other W2 (Or.inr (slot_ne (Or.inr (hw _ (List.mem_of_getElem? (i := 19) rfl))) (Or.inr (hw _ (List.mem_of_getElem? (i := 15) rfl))) (by decide) (t := .long) (t' := .long) (by decide) (by decide)))
  obtain ⟨T6, h6, X6, e6, W6, st6⟩ := putF X2 hx hZ hown (host := "") (Or.inl (hw _ (List.mem_of_getElem? (i := 16) rfl))) Via.refl e2 c4 c3 (Or.inr ⟨(hw _ (List.mem_of_getElem? (i := 17) rfl)), rfl, hnm⟩) (hw _ (List.mem_of_getElem? (i := 1) rfl)) (ty := .long) (by decide) rfl rfl (g := (mkF m 11 #[.val (.ref r0), .val (.long q1), .second, .val (.long q2), .second, .val (.long q3), .second] [(.long q2), (.ref r0)])) rfl rfl (hb hby d1_11)
  have Fw6 : Fld Z h6 r0 "com/example/fresh_index/freshindex/engine/EventCounts" "skipped" "J" (.long q2) := c4.same W6
  have N6 := Fr.snoc X6 N2 g_r0
  have Z6 : n0 ≤ h6.size := Nat.le_trans Z2 (Keep.of_wr W6).1
  have K6 : Keep h0 h6 [r0] := K2.wr W6 (Or.inl (List.mem_of_getElem? (i := 0) rfl))
  have c7 : Exa Z h6 r0 "com/example/fresh_index/freshindex/engine/EventCounts" := c3.wr W6
  have c8 : Fld Z h6 r0 "com/example/fresh_index/freshindex/engine/EventCounts" "applied" "J" (.long q1) := Fw2.other W6 (Or.inr (slot_ne (Or.inr (hw _ (List.mem_of_getElem? (i := 15) rfl))) (Or.inr (hw _ (List.mem_of_getElem? (i := 17) rfl))) (by decide) (t := .long) (t' := .long) (by decide) (by decide)))
  have c9 : Fld Z h6 r0 "com/example/fresh_index/freshindex/engine/EventCounts" "parked" "J" (.long (0 : Int64)) := c5.other W6 (Or.inr (slot_ne (Or.inr (hw _ (List.mem_of_getElem? (i := 19) rfl))) (Or.inr (hw _ (List.mem_of_getElem? (i := 17) rfl))) (by decide) (t := .long) (t' := .long) (by decide) (by decide)))
  obtain ⟨T10, h10, X10, e10, W10, st10⟩ := putF X6 hx hZ hown (host := "") (Or.inl (hw _ (List.mem_of_getElem? (i := 18) rfl))) Via.refl e6 c9 c7 (Or.inr ⟨(hw _ (List.mem_of_getElem? (i := 19) rfl)), rfl, hnm⟩) (hw _ (List.mem_of_getElem? (i := 1) rfl)) (ty := .long) (by decide) rfl rfl (g := (mkF m 17 #[.val (.ref r0), .val (.long q1), .second, .val (.long q2), .second, .val (.long q3), .second] [(.long q3), (.ref r0)])) rfl rfl (hb hby d1_17)
  have Fw10 : Fld Z h10 r0 "com/example/fresh_index/freshindex/engine/EventCounts" "parked" "J" (.long q3) := c9.same W10
  have N10 := Fr.snoc X10 N6 g_r0
  have Z10 : n0 ≤ h10.size := Nat.le_trans Z6 (Keep.of_wr W10).1
  have K10 : Keep h0 h10 [r0] := K6.wr W10 (Or.inl (List.mem_of_getElem? (i := 0) rfl))
  have c11 : Exa Z h10 r0 "com/example/fresh_index/freshindex/engine/EventCounts" := c7.wr W10
  have c12 : Fld Z h10 r0 "com/example/fresh_index/freshindex/engine/EventCounts" "applied" "J" (.long q1) := c8.other W10 (Or.inr (slot_ne (Or.inr (hw _ (List.mem_of_getElem? (i := 15) rfl))) (Or.inr (hw _ (List.mem_of_getElem? (i := 19) rfl))) (by decide) (t := .long) (t' := .long) (by decide) (by decide)))
  have c13 : Fld Z h10 r0 "com/example/fresh_index/freshindex/engine/EventCounts" "skipped" "J" (.long q2) := Fw6.other W10 (Or.inr (slot_ne (Or.inr (hw _ (List.mem_of_getElem? (i := 17) rfl))) (Or.inr (hw _ (List.mem_of_getElem? (i := 19) rfl))) (by decide) (t := .long) (t' := .long) (by decide) (by decide)))
  obtain ⟨fs, hr, hrun, hended, hW, hsame⟩ := X10.leave (v := none) (fun _ => rfl)
  refine ⟨_, _, pre0 _ (preS _ ?_), hrun, hended, _, _, rfl, ?_, ⟨_, rfl⟩, hW, hsame.mono (by decide) (by decide)⟩
  · skip
    show Steps p.tables e below (s₁.setTop (mkF m 0 #[.val (.ref r0), .val (.long q1), .second, .val (.long q2), .second, .val (.long q3), .second] [])) _
    refine XS.aloadN X0.here hx rfl (hb hby d1_0) rfl rfl ?_
    show Steps p.tables e below (s₁.setTop (mkF m 1 #[.val (.ref r0), .val (.long q1), .second, .val (.long q2), .second, .val (.long q3), .second] [(.ref r0)])) _
    refine st1.trans ?_
    show Steps p.tables e below (T1.setTop (mkF m 4 #[.val (.ref r0), .val (.long q1), .second, .val (.long q2), .second, .val (.long q3), .second] [])) _
    refine XS.aloadN X1.here hx rfl (hb hby d1_4) rfl rfl ?_
    show Steps p.tables e below (T1.setTop (mkF m 5 #[.val (.ref r0), .val (.long q1), .second, .val (.long q2), .second, .val (.long q3), .second] [(.ref r0)])) _
    refine XS.lloadN X1.here hx rfl (hb hby d1_5) rfl ?_
    show Steps p.tables e below (T1.setTop (mkF m 6 #[.val (.ref r0), .val (.long q1), .second, .val (.long q2), .second, .val (.long q3), .second] [(.long q1), (.ref r0)])) _
    refine st2 _ ?_
    show Steps p.tables e below (T2.setTop (mkF m 9 #[.val (.ref r0), .val (.long q1), .second, .val (.long q2), .second, .val (.long q3), .second] [])) _
    refine XS.aloadN X2.here hx rfl (hb hby d1_9) rfl rfl ?_
    show Steps p.tables e below (T2.setTop (mkF m 10 #[.val (.ref r0), .val (.long q1), .second, .val (.long q2), .second, .val (.long q3), .second] [(.ref r0)])) _
    refine XS.lloadN X2.here hx rfl (hb hby d1_10) rfl ?_
    show Steps p.tables e below (T2.setTop (mkF m 11 #[.val (.ref r0), .val (.long q1), .second, .val (.long q2), .second, .val (.long q3), .second] [(.long q2), (.ref r0)])) _
    refine st6 _ ?_
    show Steps p.tables e below (T6.setTop (mkF m 14 #[.val (.ref r0), .val (.long q1), .second, .val (.long q2), .second, .val (.long q3), .second] [])) _
    refine XS.aloadN X6.here hx rfl (hb hby d1_14) rfl rfl ?_
    show Steps p.tables e below (T6.setTop (mkF m 15 #[.val (.ref r0), .val (.long q1), .second, .val (.long q2), .second, .val (.long q3), .second] [(.ref r0)])) _
    refine XS.lload X6.here hx rfl (hb hby d1_15) rfl ?_
    show Steps p.tables e below (T6.setTop (mkF m 17 #[.val (.ref r0), .val (.long q1), .second, .val (.long q2), .second, .val (.long q3), .second] [(.long q3), (.ref r0)])) _
    refine st10 _ ?_
    show Steps p.tables e below (T10.setTop (mkF m 20 #[.val (.ref r0), .val (.long q1), .second, .val (.long q2), .second, .val (.long q3), .second] [])) _
    exact X10.returnOut hx Bd.returns (hb hby d1_20) hr
  · show Q1 Z r0 q1 q2 q3 h0 n0 _ T10.heap _
    rw [e10]
    exact ⟨rfl, N10, K10, c11, c12, c13, Fw10⟩
def Q4 (Z : State) (r0 : Addr) (w0 : Int64) (w1 : Int64) (w2 : Int64) (h0 : Heap) (n0 : Nat) (v : Option Value) (h : Heap) (L : List Loc) : Prop := v = some (.long ((w0 + w1) + w2)) ∧ Fr n0 L ∧ h = h0
set_option maxRecDepth 65536 in
set_option maxHeartbeats 40000000 in
theorem rm4 (l : Launch) (Z : State) (a0 : Array Value) (hw : ∀ d ∈ tables_1, d.before a0 Z = true) (ws : List Jvm.Cond) (r0 : Addr) (w0 : Int64) (w1 : Int64) (w2 : Int64) (h0 : Heap) (n0 : Nat) (Z0 : n0 ≤ h0.size) (F0 : Fld Z h0 r0 "com/example/fresh_index/freshindex/engine/EventCounts" "applied" "J" (.long w0)) (F1 : Fld Z h0 r0 "com/example/fresh_index/freshindex/engine/EventCounts" "skipped" "J" (.long w1)) (F2 : Fld Z h0 r0 "com/example/fresh_index/freshindex/engine/EventCounts" "parked" "J" (.long w2)) :
    MetFree l (⟨"com/example/fresh_index/freshindex/engine/EventCounts", "events", "()J"⟩ : MethodName) (head1 (Jvm.Cond.code (⟨"com/example/fresh_index/freshindex/engine/EventCounts", "events", "()J"⟩ : MethodName) prog_11_method_2_code 1 (some .long) :: ws) ({ frames := 0, cells := 0, slots := 0, locals := 0 } : Room)) (fun a U => a = #[(.ref r0)] ∧ Z.Warmed39 U.vm ∧ U.heap = h0) (fun _ _ _ _ _ => True) (fun _ U o U' => ∃ v L, o = .returned v ∧ Q4 Z r0 w0 w1 w2 h0 n0 v U'.heap L ∧ FrameEnd U o U' L ({ frames := 0, cells := 0, slots := 0, locals := 0 } : Room).cells ({ frames := 0, cells := 0, slots := 0, locals := 0 } : Room).slots) := by
  refine MetFree.of_bodySF (plainFor_of_name pn_com_example_fresh_index_freshindex_engine_EventCounts) hisR ?_
  intro p e s m args below meth c s₁ Bd hml0 hP hK
  obtain ⟨rfl, hZ, hh⟩ := hP
  have hx := Bd.exec
  have hby := Bd.bytes
  have hml : c.maxLocals = 1 := hml0
  have hown : s.vm.findClass "com/example/fresh_index/freshindex/engine/EventCounts" = some m.cls := findClass_of_methodNamed Bd.named
  have hnm := (name_of_methodNamed Bd.named Bd.method).1
  have X0 : Stand p l e ({ frames := 0, cells := 0, slots := 0, locals := 0 } : Room) s m #[(.ref r0)] below meth c s₁ [] 0 0 := Stand.of_body Bd
  have e0 : s₁.heap = h0 := by rw [← hh, Bd.state]; rfl
  have N0 := Fr.nil n0
  have pre0 : ∀ t, Steps p.tables e below (s₁.setTop (mkF m 0 #[.val (.ref r0)] [])) t → Steps p.tables e below (s₁.setTop (entryFrame m #[(.ref r0)] 1)) t := fun t k => castTop (ef_4 m r0) k
  have preS : ∀ t, Steps p.tables e below (s₁.setTop (mkF m 0 #[.val (.ref r0)] [])) t → Steps p.tables e below (s₁.setTop (mkF m 0 #[.val (.ref r0)] [])) t := fun t k => k
  obtain ⟨T1, X1, e1, st1⟩ := getF X0 hx hZ hown (host := "") (Or.inl (hw _ (List.mem_of_getElem? (i := 14) rfl))) Via.refl e0 F0 (g := (mkF m 1 #[.val (.ref r0)] [(.ref r0)])) rfl rfl (hb hby d4_1)
  obtain ⟨T2, X2, e2, st2⟩ := getF X1 hx hZ hown (host := "") (Or.inl (hw _ (List.mem_of_getElem? (i := 16) rfl))) Via.refl e1 F1 (g := (mkF m 5 #[.val (.ref r0)] [(.ref r0), (.long w0)])) rfl rfl (hb hby d4_5)
  obtain ⟨T3, X3, e3, st3⟩ := getF X2 hx hZ hown (host := "") (Or.inl (hw _ (List.mem_of_getElem? (i := 18) rfl))) Via.refl e2 F2 (g := (mkF m 10 #[.val (.ref r0)] [(.ref r0), (.long (w0 + w1))])) rfl rfl (hb hby d4_10)
  obtain ⟨fs, hr, hrun, hended, hW, hsame⟩ := X3.leave (v := some (.long ((w0 + w1) + w2))) (fun h => by rw [Bd.returns] at h; cases h)
  refine ⟨_, _, pre0 _ (preS _ ?_), hrun, hended, _, _, rfl, ?_, ⟨_, rfl⟩, hW, hsame.mono (by decide) (by decide)⟩
  · skip
    show Steps p.tables e below (s₁.setTop (mkF m 0 #[.val (.ref r0)] [])) _
    refine XS.aloadN X0.here hx rfl (hb hby d4_0) rfl rfl ?_
    show Steps p.tables e below (s₁.setTop (mkF m 1 #[.val (.ref r0)] [(.ref r0)])) _
    refine st1 _ ?_
    show Steps p.tables e below (T1.setTop (mkF m 4 #[.val (.ref r0)] [(.long w0)])) _
    refine XS.aloadN X1.here hx rfl (hb hby d4_4) rfl rfl ?_
    show Steps p.tables e below (T1.setTop (mkF m 5 #[.val (.ref r0)] [(.ref r0), (.long w0)])) _
    refine st2 _ ?_
    show Steps p.tables e below (T2.setTop (mkF m 8 #[.val (.ref r0)] [(.long w1), (.long w0)])) _
    refine XS.ladd X2.here hx rfl (hb hby d4_8) rfl ?_
    show Steps p.tables e below (T2.setTop (mkF m 9 #[.val (.ref r0)] [(.long (w0 + w1))])) _
    refine XS.aloadN X2.here hx rfl (hb hby d4_9) rfl rfl ?_
    show Steps p.tables e below (T2.setTop (mkF m 10 #[.val (.ref r0)] [(.ref r0), (.long (w0 + w1))])) _
    refine st3 _ ?_
    show Steps p.tables e below (T3.setTop (mkF m 13 #[.val (.ref r0)] [(.long w2), (.long (w0 + w1))])) _
    refine XS.ladd X3.here hx rfl (hb hby d4_13) rfl ?_
    show Steps p.tables e below (T3.setTop (mkF m 14 #[.val (.ref r0)] [(.long ((w0 + w1) + w2))])) _
    jvm_step X3.here [X3.here.top, hx, (hb hby d4_14), X3.method', Bd.returns, narrow]
    first | (intro acts; rw [hr _ acts rfl rfl rfl]) | rw [hr _ _ rfl rfl rfl]
    exact Steps.refl _
  · show Q4 Z r0 w0 w1 w2 h0 n0 _ T3.heap _
    rw [e3]
    exact ⟨rfl, N0, rfl⟩
def Q5 (Z : State) (r0 : Addr) (r1 : Addr) (w_A : Addr) (w_S : Addr) (w0 : Int64) (w1 : Int64) (w2 : Int64) (h0 : Heap) (n0 : Nat) (v : Option Value) (h : Heap) (L : List Loc) : Prop := ∃ (b : Addr) (x y z : Int64), v = some (.ref b) ∧ Fr n0 L ∧ Keep h0 h [] ∧ Exa Z h b "com/example/fresh_index/freshindex/engine/EventCounts" ∧ Fld Z h b "com/example/fresh_index/freshindex/engine/EventCounts" "applied" "J" (.long x) ∧ Fld Z h b "com/example/fresh_index/freshindex/engine/EventCounts" "skipped" "J" (.long y) ∧ Fld Z h b "com/example/fresh_index/freshindex/engine/EventCounts" "parked" "J" (.long z) ∧ ((x + y) + z) = (((w0 + w1) + w2) + (1 : Int64))
set_option maxRecDepth 65536 in
set_option maxHeartbeats 40000000 in
theorem rm5 (l : Launch) (Z : State) (a0 : Array Value) (hw : ∀ d ∈ tables_1, d.before a0 Z = true) (ws : List Jvm.Cond) (r0 : Addr) (r1 : Addr) (w_A : Addr) (w_S : Addr) (w0 : Int64) (w1 : Int64) (w2 : Int64) (h0 : Heap) (n0 : Nat) (Z0 : n0 ≤ h0.size) (S_A : Sta Z h0 "com/example/fresh_index/freshindex/engine/EventCounts$Outcome" "APPLIED" "Lcom/example/fresh_index/freshindex/engine/EventCounts$Outcome;" (.ref w_A)) (S_S : Sta Z h0 "com/example/fresh_index/freshindex/engine/EventCounts$Outcome" "SKIPPED" "Lcom/example/fresh_index/freshindex/engine/EventCounts$Outcome;" (.ref w_S)) (E0 : Exa Z h0 r0 "com/example/fresh_index/freshindex/engine/EventCounts") (F0 : Fld Z h0 r0 "com/example/fresh_index/freshindex/engine/EventCounts" "applied" "J" (.long w0)) (F1 : Fld Z h0 r0 "com/example/fresh_index/freshindex/engine/EventCounts" "skipped" "J" (.long w1)) (F2 : Fld Z h0 r0 "com/example/fresh_index/freshindex/engine/EventCounts" "parked" "J" (.long w2)) :
    MetFree l (⟨"com/example/fresh_index/freshindex/engine/EventCounts", "plus", "(Lcom/example/fresh_index/freshindex/engine/EventCounts$Outcome;)Lcom/example/fresh_index/freshindex/engine/EventCounts;"⟩ : MethodName) (head1 (Jvm.Cond.code (⟨"com/example/fresh_index/freshindex/engine/EventCounts", "plus", "(Lcom/example/fresh_index/freshindex/engine/EventCounts$Outcome;)Lcom/example/fresh_index/freshindex/engine/EventCounts;"⟩ : MethodName) prog_11_method_4_code 3 (some (.object "com/example/fresh_index/freshindex/engine/EventCounts")) :: ws) ({ frames := 3, cells := 1, slots := 3, locals := 43 } : Room)) (fun a U => a = #[(.ref r0), (.ref r1)] ∧ Z.Warmed39 U.vm ∧ U.heap = h0) (fun _ _ _ _ _ => True) (fun _ U o U' => ∃ v L, o = .returned v ∧ Q5 Z r0 r1 w_A w_S w0 w1 w2 h0 n0 v U'.heap L ∧ FrameEnd U o U' L ({ frames := 3, cells := 1, slots := 3, locals := 43 } : Room).cells ({ frames := 3, cells := 1, slots := 3, locals := 43 } : Room).slots) := by
  refine MetFree.of_bodySF (plainFor_of_name pn_com_example_fresh_index_freshindex_engine_EventCounts) hisR ?_
  intro p e s m args below meth c s₁ Bd hml0 hP hK
  obtain ⟨rfl, hZ, hh⟩ := hP
  have hx := Bd.exec
  have hby := Bd.bytes
  have hml : c.maxLocals = 3 := hml0
  have hown : s.vm.findClass "com/example/fresh_index/freshindex/engine/EventCounts" = some m.cls := findClass_of_methodNamed Bd.named
  have hnm := (name_of_methodNamed Bd.named Bd.method).1
  have X0 : Stand p l e ({ frames := 3, cells := 1, slots := 3, locals := 43 } : Room) s m #[(.ref r0), (.ref r1)] below meth c s₁ [] 0 0 := Stand.of_body Bd
  have e0 : s₁.heap = h0 := by rw [← hh, Bd.state]; rfl
  have N0 := Fr.nil n0
  have pre0 : ∀ t, Steps p.tables e below (s₁.setTop (mkF m 0 #[.val (.ref r0), .val (.ref r1), .unset] [])) t → Steps p.tables e below (s₁.setTop (entryFrame m #[(.ref r0), (.ref r1)] 3)) t := fun t k => castTop (ef_5 m r0 r1) k
  have preS : ∀ t, Steps p.tables e below (s₁.setTop (mkF m 0 #[.val (.ref r0), .val (.ref r1), .unset] [])) t → Steps p.tables e below (s₁.setTop (mkF m 0 #[.val (.ref r0), .val (.ref r1), .unset] [])) t := fun t k => k
  have KR : Keep h0 h0 [] := Keep.refl _ _
  obtain ⟨T1, X1, e1, st1⟩ := getS2 X0 hx hZ hown (host := "") (Or.inl (hw _ (List.mem_of_getElem? (i := 34) rfl))) Via.refl e0 S_A (g := (mkF m 1 #[.val (.ref r0), .val (.ref r1), .unset] [(.ref r1)])) rfl (hb hby d5_1)
  have pre2 : ∀ t, Steps p.tables e below (T1.setTop (mkF m 4 #[.val (.ref r0), .val (.ref r1), .unset] [(.ref w_A), (.ref r1)])) t → Steps p.tables e below (s₁.setTop (mkF m 0 #[.val (.ref r0), .val (.ref r1), .unset] [])) t := fun t k => preS t (by
    show Steps p.tables e below (s₁.setTop (mkF m 0 #[.val (.ref r0), .val (.ref r1), .unset] [])) _
    refine XS.aloadN X0.here hx rfl (hb hby d5_0) rfl rfl ?_
    show Steps p.tables e below (s₁.setTop (mkF m 1 #[.val (.ref r0), .val (.ref r1), .unset] [(.ref r1)])) _
    refine st1 _ ?_
    exact k)
  by_cases ha3 : r1 = w_A
  · skip
    obtain ⟨T4, h4, X4, e4, E4, A4, D4, -, st4⟩ := newO X1 hx hZ hown (hw _ (List.mem_of_getElem? (i := 38) rfl)) (hw _ (List.mem_of_getElem? (i := 1) rfl)) (hw _ (List.mem_of_getElem? (i := 2) rfl)) e1 (g := (mkF m 7 #[.val (.ref r0), .val (.ref r1), .unset] [])) rfl (hb hby d5_7) (by decide) (by decide)
    obtain ⟨b4, g4⟩ : ∃ z, z = h0.size := ⟨_, rfl⟩
    rw [← g4] at A4 D4 st4
    have g_b4 : n0 ≤ b4 := Nat.le_trans Z0 (Nat.le_of_eq g4.symm)
    skip
    have Z4 : n0 ≤ h4.size := Nat.le_trans Z0 E4.1
    have ne_r0_b4 : r0 ≠ b4 := Nat.ne_of_lt (Nat.lt_of_lt_of_le E0.lt (Nat.le_of_eq g4.symm))
    have K4 : Keep h0 h4 [] := KR.ext E4
    have sz_b4 : h0.size ≤ b4 := Nat.le_trans KR.1 (Nat.le_of_eq g4.symm)
    have c5 : Sta Z h4 "com/example/fresh_index/freshindex/engine/EventCounts$Outcome" "APPLIED" "Lcom/example/fresh_index/freshindex/engine/EventCounts$Outcome;" (.ref w_A) := S_A.ext E4
    have c6 : Sta Z h4 "com/example/fresh_index/freshindex/engine/EventCounts$Outcome" "SKIPPED" "Lcom/example/fresh_index/freshindex/engine/EventCounts$Outcome;" (.ref w_S) := S_S.ext E4
    have c7 : Exa Z h4 r0 "com/example/fresh_index/freshindex/engine/EventCounts" := E0.ext E4
    have c8 : Fld Z h4 r0 "com/example/fresh_index/freshindex/engine/EventCounts" "applied" "J" (.long w0) := F0.ext E4
    have c9 : Fld Z h4 r0 "com/example/fresh_index/freshindex/engine/EventCounts" "skipped" "J" (.long w1) := F1.ext E4
    have c10 : Fld Z h4 r0 "com/example/fresh_index/freshindex/engine/EventCounts" "parked" "J" (.long w2) := F2.ext E4
    have F4_applied : Fld Z h4 b4 "com/example/fresh_index/freshindex/engine/EventCounts" "applied" "J" (.long (0 : Int64)) := D4 (Or.inr (hw _ (List.mem_of_getElem? (i := 15) rfl))) (ty := .long) (by decide)
    have F4_skipped : Fld Z h4 b4 "com/example/fresh_index/freshindex/engine/EventCounts" "skipped" "J" (.long (0 : Int64)) := D4 (Or.inr (hw _ (List.mem_of_getElem? (i := 17) rfl))) (ty := .long) (by decide)
    have F4_parked : Fld Z h4 b4 "com/example/fresh_index/freshindex/engine/EventCounts" "parked" "J" (.long (0 : Int64)) := D4 (Or.inr (hw _ (List.mem_of_getElem? (i := 19) rfl))) (ty := .long) (by decide)
    obtain ⟨T11, X11, e11, st11⟩ := getF X4 hx hZ hown (host := "") (Or.inl (hw _ (List.mem_of_getElem? (i := 14) rfl))) Via.refl e4 c8 (g := (mkF m 12 #[.val (.ref r0), .val (.ref r1), .unset] [(.ref r0), (.ref b4), (.ref b4)])) rfl rfl (hb hby d5_12)
    obtain ⟨T12, X12, e12, st12⟩ := getF X11 hx hZ hown (host := "") (Or.inl (hw _ (List.mem_of_getElem? (i := 16) rfl))) Via.refl e11 c9 (g := (mkF m 18 #[.val (.ref r0), .val (.ref r1), .unset] [(.ref r0), (.long (w0 + (1 : Int64))), (.ref b4), (.ref b4)])) rfl rfl (hb hby d5_18)
    obtain ⟨T13, X13, e13, st13⟩ := getF X12 hx hZ hown (host := "") (Or.inl (hw _ (List.mem_of_getElem? (i := 18) rfl))) Via.refl e12 c10 (g := (mkF m 22 #[.val (.ref r0), .val (.ref r1), .unset] [(.ref r0), (.long w1), (.long (w0 + (1 : Int64))), (.ref b4), (.ref b4)])) rfl rfl (hb hby d5_22)
    obtain ⟨_, _, ⟨T14, L14, k14, n14⟩, -, X14, ⟨Lc14, hQ14, l14, y14, z14⟩, st14⟩ := X13.specialBack hx (y := (⟨"com/example/fresh_index/freshindex/engine/EventCounts", "<init>", "(JJJ)V"⟩ : MethodName)) rfl hown (mvT hZ (hw _ (List.mem_of_getElem? (i := 39) rfl))) (mvT hZ (hw _ (List.mem_of_getElem? (i := 4) rfl))) (mvT hZ (hw _ (List.mem_of_getElem? (i := 5) rfl))) (by decide) (backOf (W := 1) (rm1 l Z a0 hw [] b4 (w0 + (1 : Int64)) w1 w2 h4 n0 Z4 A4 F4_applied F4_skipped F4_parked g_b4 ) hZ (hw _ (List.mem_of_getElem? (i := 5) rfl)) (hw _ (List.mem_of_getElem? (i := 2) rfl)) (by decide) (by decide)) (g := (mkF m 25 #[.val (.ref r0), .val (.ref r1), .unset] [(.long w2), (.long w1), (.long (w0 + (1 : Int64))), (.ref b4), (.ref b4)])) rfl (by rw [hml]; rfl) (Steps.refl _) (a := b4) (argsL := [(.long (w0 + (1 : Int64))), (.long w1), (.long w2)]) (rest := [(.ref b4)]) (lenOf pd_1 rfl) rfl (by show 2 * 0 + _ ≤ _; exact Nat.le_of_eq rfl) (hb hby d5_25) (fun _ _ => ⟨rfl, e13, (by decide : 1 + 0 ≤ _), (by decide : 3 + 0 ≤ _)⟩)
    dsimp only [Pt.U, Pt.locs, Pt.cells, Pt.slots] at X14 l14 y14 z14 st14 hQ14
    subst l14 y14 z14
    obtain ⟨rfl, Nq14, Kq14, Eq14, Fq14_0, Fq14_1, Fq14_2⟩ := hQ14
    have N14 := Fr.app N0 Nq14
    have Z14 : n0 ≤ T14.heap.size := Nat.le_trans Z4 Kq14.1
    have K14 : Keep h0 T14.heap [] := K4.trans Kq14 (fun x hx => by cases List.mem_singleton.mp hx; exact (Or.inr sz_b4))
    have c15 : Sta Z T14.heap "com/example/fresh_index/freshindex/engine/EventCounts$Outcome" "APPLIED" "Lcom/example/fresh_index/freshindex/engine/EventCounts$Outcome;" (.ref w_A) := own_sk c5 Kq14 A4
    have c16 : Sta Z T14.heap "com/example/fresh_index/freshindex/engine/EventCounts$Outcome" "SKIPPED" "Lcom/example/fresh_index/freshindex/engine/EventCounts$Outcome;" (.ref w_S) := own_sk c6 Kq14 A4
    have c17 : Exa Z T14.heap r0 "com/example/fresh_index/freshindex/engine/EventCounts" := c7.keep Kq14
    have c18 : Fld Z T14.heap r0 "com/example/fresh_index/freshindex/engine/EventCounts" "applied" "J" (.long w0) := c8.keep Kq14 (fun q => ne_r0_b4 (List.mem_singleton.mp q))
    have c19 : Fld Z T14.heap r0 "com/example/fresh_index/freshindex/engine/EventCounts" "skipped" "J" (.long w1) := c9.keep Kq14 (fun q => ne_r0_b4 (List.mem_singleton.mp q))
    have c20 : Fld Z T14.heap r0 "com/example/fresh_index/freshindex/engine/EventCounts" "parked" "J" (.long w2) := c10.keep Kq14 (fun q => ne_r0_b4 (List.mem_singleton.mp q))
    obtain ⟨fs, hr, hrun, hended, hW, hsame⟩ := X14.leave (v := some (.ref b4)) (fun h => by rw [Bd.returns] at h; cases h)
    refine ⟨_, _, pre0 _ (pre2 _ ?_), hrun, hended, _, _, rfl, ?_, ⟨_, rfl⟩, hW, hsame.mono (by decide) (by decide)⟩
    · skip
      show Steps p.tables e below (T1.setTop (mkF m 4 #[.val (.ref r0), .val (.ref r1), .unset] [(.ref w_A), (.ref r1)])) _
      refine Jvm.RoadKit.acmp (g := (mkF m 4 #[.val (.ref r0), .val (.ref r1), .unset] [(.ref w_A), (.ref r1)])) X1 hx rfl rfl rfl (pc0 := 4) (pc' := 7) (same := true) rfl (hb hby d5_4) rfl (decide_eq_true (congrArg Value.ref ha3)) (by decide) (by decide) ?_
      show Steps p.tables e below (T1.setTop (mkF m 7 #[.val (.ref r0), .val (.ref r1), .unset] [])) _
      refine st4 _ ?_
      show Steps p.tables e below (T4.setTop (mkF m 10 #[.val (.ref r0), .val (.ref r1), .unset] [(.ref b4)])) _
      refine XS.dup X4.here hx rfl (hb hby d5_10) rfl rfl ?_
      show Steps p.tables e below (T4.setTop (mkF m 11 #[.val (.ref r0), .val (.ref r1), .unset] [(.ref b4), (.ref b4)])) _
      refine XS.aloadN X4.here hx rfl (hb hby d5_11) rfl rfl ?_
      show Steps p.tables e below (T4.setTop (mkF m 12 #[.val (.ref r0), .val (.ref r1), .unset] [(.ref r0), (.ref b4), (.ref b4)])) _
      refine st11 _ ?_
      show Steps p.tables e below (T11.setTop (mkF m 15 #[.val (.ref r0), .val (.ref r1), .unset] [(.long w0), (.ref b4), (.ref b4)])) _
      refine XS.lconst X11.here hx rfl (hb hby d5_15) ?_
      show Steps p.tables e below (T11.setTop (mkF m 16 #[.val (.ref r0), .val (.ref r1), .unset] [(.long (1 : Int64)), (.long w0), (.ref b4), (.ref b4)])) _
      refine XS.ladd X11.here hx rfl (hb hby d5_16) rfl ?_
      show Steps p.tables e below (T11.setTop (mkF m 17 #[.val (.ref r0), .val (.ref r1), .unset] [(.long (w0 + (1 : Int64))), (.ref b4), (.ref b4)])) _
      refine XS.aloadN X11.here hx rfl (hb hby d5_17) rfl rfl ?_
      show Steps p.tables e below (T11.setTop (mkF m 18 #[.val (.ref r0), .val (.ref r1), .unset] [(.ref r0), (.long (w0 + (1 : Int64))), (.ref b4), (.ref b4)])) _
      refine st12 _ ?_
      show Steps p.tables e below (T12.setTop (mkF m 21 #[.val (.ref r0), .val (.ref r1), .unset] [(.long w1), (.long (w0 + (1 : Int64))), (.ref b4), (.ref b4)])) _
      refine XS.aloadN X12.here hx rfl (hb hby d5_21) rfl rfl ?_
      show Steps p.tables e below (T12.setTop (mkF m 22 #[.val (.ref r0), .val (.ref r1), .unset] [(.ref r0), (.long w1), (.long (w0 + (1 : Int64))), (.ref b4), (.ref b4)])) _
      refine st13 _ ?_
      show Steps p.tables e below (T13.setTop (mkF m 25 #[.val (.ref r0), .val (.ref r1), .unset] [(.long w2), (.long w1), (.long (w0 + (1 : Int64))), (.ref b4), (.ref b4)])) _
      refine st14.trans ?_
      show Steps p.tables e below (T14.setTop (mkF m 28 #[.val (.ref r0), .val (.ref r1), .unset] [(.ref b4)])) _
      refine XS.astoreN X14.here hx rfl (hb hby d5_28) rfl rfl (l' := #[.val (.ref r0), .val (.ref r1), .val (.ref b4)]) rfl ?_
      show Steps p.tables e below (T14.setTop (mkF m 29 #[.val (.ref r0), .val (.ref r1), .val (.ref b4)] [])) _
      refine XS.goto X14.here hx rfl (pc0 := 29) (pc' := 86) rfl (hb hby d5_29) (by decide) (by decide) ?_
      show Steps p.tables e below (T14.setTop (mkF m 86 #[.val (.ref r0), .val (.ref r1), .val (.ref b4)] [])) _
      refine XS.aloadN X14.here hx rfl (hb hby d5_86) rfl rfl ?_
      show Steps p.tables e below (T14.setTop (mkF m 87 #[.val (.ref r0), .val (.ref r1), .val (.ref b4)] [(.ref b4)])) _
      jvm_step X14.here [X14.here.top, hx, (hb hby d5_87), X14.method', Bd.returns, Value.isRef, FieldType.isReference]
      first | (intro acts; rw [hr _ acts rfl rfl rfl]) | rw [hr _ _ rfl rfl rfl]
      exact Steps.refl _
    · show Q5 Z r0 r1 w_A w_S w0 w1 w2 h0 n0 _ T14.heap _
      exact ⟨b4, (w0 + (1 : Int64)), w1, w2, rfl, N14, K14, Eq14, Fq14_0, Fq14_1, Fq14_2, by ac_rfl⟩
  · skip
    obtain ⟨T21, X21, e21, st21⟩ := getS2 X1 hx hZ hown (host := "") (Or.inl (hw _ (List.mem_of_getElem? (i := 36) rfl))) Via.refl e1 S_S (g := (mkF m 33 #[.val (.ref r0), .val (.ref r1), .unset] [(.ref r1)])) rfl (hb hby d5_33)
    have pre22 : ∀ t, Steps p.tables e below (T21.setTop (mkF m 36 #[.val (.ref r0), .val (.ref r1), .unset] [(.ref w_S), (.ref r1)])) t → Steps p.tables e below (s₁.setTop (mkF m 0 #[.val (.ref r0), .val (.ref r1), .unset] [])) t := fun t k => pre2 t (by
      show Steps p.tables e below (T1.setTop (mkF m 4 #[.val (.ref r0), .val (.ref r1), .unset] [(.ref w_A), (.ref r1)])) _
      refine Jvm.RoadKit.acmp (g := (mkF m 4 #[.val (.ref r0), .val (.ref r1), .unset] [(.ref w_A), (.ref r1)])) X1 hx rfl rfl rfl (pc0 := 4) (pc' := 32) (same := false) rfl (hb hby d5_4) rfl (decide_eq_false fun q => ha3 (Value.ref.inj q)) (by decide) (by decide) ?_
      show Steps p.tables e below (T1.setTop (mkF m 32 #[.val (.ref r0), .val (.ref r1), .unset] [])) _
      refine XS.aloadN X1.here hx rfl (hb hby d5_32) rfl rfl ?_
      show Steps p.tables e below (T1.setTop (mkF m 33 #[.val (.ref r0), .val (.ref r1), .unset] [(.ref r1)])) _
      refine st21 _ ?_
      exact k)
    by_cases ha23 : r1 = w_S
    · skip
      obtain ⟨T24, h24, X24, e24, E24, A24, D24, -, st24⟩ := newO X21 hx hZ hown (hw _ (List.mem_of_getElem? (i := 38) rfl)) (hw _ (List.mem_of_getElem? (i := 1) rfl)) (hw _ (List.mem_of_getElem? (i := 2) rfl)) e21 (g := (mkF m 39 #[.val (.ref r0), .val (.ref r1), .unset] [])) rfl (hb hby d5_39) (by decide) (by decide)
      obtain ⟨b24, g24⟩ : ∃ z, z = h0.size := ⟨_, rfl⟩
      rw [← g24] at A24 D24 st24
      have g_b24 : n0 ≤ b24 := Nat.le_trans Z0 (Nat.le_of_eq g24.symm)
      skip
      have Z24 : n0 ≤ h24.size := Nat.le_trans Z0 E24.1
      have ne_r0_b24 : r0 ≠ b24 := Nat.ne_of_lt (Nat.lt_of_lt_of_le E0.lt (Nat.le_of_eq g24.symm))
      have K24 : Keep h0 h24 [] := KR.ext E24
      have sz_b24 : h0.size ≤ b24 := Nat.le_trans KR.1 (Nat.le_of_eq g24.symm)
      have c25 : Sta Z h24 "com/example/fresh_index/freshindex/engine/EventCounts$Outcome" "APPLIED" "Lcom/example/fresh_index/freshindex/engine/EventCounts$Outcome;" (.ref w_A) := S_A.ext E24
      have c26 : Sta Z h24 "com/example/fresh_index/freshindex/engine/EventCounts$Outcome" "SKIPPED" "Lcom/example/fresh_index/freshindex/engine/EventCounts$Outcome;" (.ref w_S) := S_S.ext E24
      have c27 : Exa Z h24 r0 "com/example/fresh_index/freshindex/engine/EventCounts" := E0.ext E24
      have c28 : Fld Z h24 r0 "com/example/fresh_index/freshindex/engine/EventCounts" "applied" "J" (.long w0) := F0.ext E24
      have c29 : Fld Z h24 r0 "com/example/fresh_index/freshindex/engine/EventCounts" "skipped" "J" (.long w1) := F1.ext E24
      have c30 : Fld Z h24 r0 "com/example/fresh_index/freshindex/engine/EventCounts" "parked" "J" (.long w2) := F2.ext E24
      have F24_applied : Fld Z h24 b24 "com/example/fresh_index/freshindex/engine/EventCounts" "applied" "J" (.long (0 : Int64)) := D24 (Or.inr (hw _ (List.mem_of_getElem? (i := 15) rfl))) (ty := .long) (by decide)
      have F24_skipped : Fld Z h24 b24 "com/example/fresh_index/freshindex/engine/EventCounts" "skipped" "J" (.long (0 : Int64)) := D24 (Or.inr (hw _ (List.mem_of_getElem? (i := 17) rfl))) (ty := .long) (by decide)
      have F24_parked : Fld Z h24 b24 "com/example/fresh_index/freshindex/engine/EventCounts" "parked" "J" (.long (0 : Int64)) := D24 (Or.inr (hw _ (List.mem_of_getElem? (i := 19) rfl))) (ty := .long) (by decide)
      obtain ⟨T31, X31, e31, st31⟩ := getF X24 hx hZ hown (host := "") (Or.inl (hw _ (List.mem_of_getElem? (i := 14) rfl))) Via.refl e24 c28 (g := (mkF m 44 #[.val (.ref r0), .val (.ref r1), .unset] [(.ref r0), (.ref b24), (.ref b24)])) rfl rfl (hb hby d5_44)
      obtain ⟨T32, X32, e32, st32⟩ := getF X31 hx hZ hown (host := "") (Or.inl (hw _ (List.mem_of_getElem? (i := 16) rfl))) Via.refl e31 c29 (g := (mkF m 48 #[.val (.ref r0), .val (.ref r1), .unset] [(.ref r0), (.long w0), (.ref b24), (.ref b24)])) rfl rfl (hb hby d5_48)
      obtain ⟨T33, X33, e33, st33⟩ := getF X32 hx hZ hown (host := "") (Or.inl (hw _ (List.mem_of_getElem? (i := 18) rfl))) Via.refl e32 c30 (g := (mkF m 54 #[.val (.ref r0), .val (.ref r1), .unset] [(.ref r0), (.long (w1 + (1 : Int64))), (.long w0), (.ref b24), (.ref b24)])) rfl rfl (hb hby d5_54)
      obtain ⟨_, _, ⟨T34, L34, k34, n34⟩, -, X34, ⟨Lc34, hQ34, l34, y34, z34⟩, st34⟩ := X33.specialBack hx (y := (⟨"com/example/fresh_index/freshindex/engine/EventCounts", "<init>", "(JJJ)V"⟩ : MethodName)) rfl hown (mvT hZ (hw _ (List.mem_of_getElem? (i := 39) rfl))) (mvT hZ (hw _ (List.mem_of_getElem? (i := 4) rfl))) (mvT hZ (hw _ (List.mem_of_getElem? (i := 5) rfl))) (by decide) (backOf (W := 1) (rm1 l Z a0 hw [] b24 w0 (w1 + (1 : Int64)) w2 h24 n0 Z24 A24 F24_applied F24_skipped F24_parked g_b24 ) hZ (hw _ (List.mem_of_getElem? (i := 5) rfl)) (hw _ (List.mem_of_getElem? (i := 2) rfl)) (by decide) (by decide)) (g := (mkF m 57 #[.val (.ref r0), .val (.ref r1), .unset] [(.long w2), (.long (w1 + (1 : Int64))), (.long w0), (.ref b24), (.ref b24)])) rfl (by rw [hml]; rfl) (Steps.refl _) (a := b24) (argsL := [(.long w0), (.long (w1 + (1 : Int64))), (.long w2)]) (rest := [(.ref b24)]) (lenOf pd_1 rfl) rfl (by show 2 * 0 + _ ≤ _; exact Nat.le_of_eq rfl) (hb hby d5_57) (fun _ _ => ⟨rfl, e33, (by decide : 1 + 0 ≤ _), (by decide : 3 + 0 ≤ _)⟩)
      dsimp only [Pt.U, Pt.locs, Pt.cells, Pt.slots] at X34 l34 y34 z34 st34 hQ34
      subst l34 y34 z34
      obtain ⟨rfl, Nq34, Kq34, Eq34, Fq34_0, Fq34_1, Fq34_2⟩ := hQ34
      have N34 := Fr.app N0 Nq34
      have Z34 : n0 ≤ T34.heap.size := Nat.le_trans Z24 Kq34.1
      have K34 : Keep h0 T34.heap [] := K24.trans Kq34 (fun x hx => by cases List.mem_singleton.mp hx; exact (Or.inr sz_b24))
      have c35 : Sta Z T34.heap "com/example/fresh_index/freshindex/engine/EventCounts$Outcome" "APPLIED" "Lcom/example/fresh_index/freshindex/engine/EventCounts$Outcome;" (.ref w_A) := own_sk c25 Kq34 A24
      have c36 : Sta Z T34.heap "com/example/fresh_index/freshindex/engine/EventCounts$Outcome" "SKIPPED" "Lcom/example/fresh_index/freshindex/engine/EventCounts$Outcome;" (.ref w_S) := own_sk c26 Kq34 A24
      have c37 : Exa Z T34.heap r0 "com/example/fresh_index/freshindex/engine/EventCounts" := c27.keep Kq34
      have c38 : Fld Z T34.heap r0 "com/example/fresh_index/freshindex/engine/EventCounts" "applied" "J" (.long w0) := c28.keep Kq34 (fun q => ne_r0_b24 (List.mem_singleton.mp q))
      have c39 : Fld Z T34.heap r0 "com/example/fresh_index/freshindex/engine/EventCounts" "skipped" "J" (.long w1) := c29.keep Kq34 (fun q => ne_r0_b24 (List.mem_singleton.mp q))
      have c40 : Fld Z T34.heap r0 "com/example/fresh_index/freshindex/engine/EventCounts" "parked" "J" (.long w2) := c30.keep Kq34 (fun q => ne_r0_b24 (List.mem_singleton.mp q))
      obtain ⟨fs, hr, hrun, hended, hW, hsame⟩ := X34.leave (v := some (.ref b24)) (fun h => by rw [Bd.returns] at h; cases h)
      refine ⟨_, _, pre0 _ (pre22 _ ?_), hrun, hended, _, _, rfl, ?_, ⟨_, rfl⟩, hW, hsame.mono (by decide) (by decide)⟩
      · skip
        show Steps p.tables e below (T21.setTop (mkF m 36 #[.val (.ref r0), .val (.ref r1), .unset] [(.ref w_S), (.ref r1)])) _
        refine Jvm.RoadKit.acmp (g := (mkF m 36 #[.val (.ref r0), .val (.ref r1), .unset] [(.ref w_S), (.ref r1)])) X21 hx rfl rfl rfl (pc0 := 36) (pc' := 39) (same := true) rfl (hb hby d5_36) rfl (decide_eq_true (congrArg Value.ref ha23)) (by decide) (by decide) ?_
        show Steps p.tables e below (T21.setTop (mkF m 39 #[.val (.ref r0), .val (.ref r1), .unset] [])) _
        refine st24 _ ?_
        show Steps p.tables e below (T24.setTop (mkF m 42 #[.val (.ref r0), .val (.ref r1), .unset] [(.ref b24)])) _
        refine XS.dup X24.here hx rfl (hb hby d5_42) rfl rfl ?_
        show Steps p.tables e below (T24.setTop (mkF m 43 #[.val (.ref r0), .val (.ref r1), .unset] [(.ref b24), (.ref b24)])) _
        refine XS.aloadN X24.here hx rfl (hb hby d5_43) rfl rfl ?_
        show Steps p.tables e below (T24.setTop (mkF m 44 #[.val (.ref r0), .val (.ref r1), .unset] [(.ref r0), (.ref b24), (.ref b24)])) _
        refine st31 _ ?_
        show Steps p.tables e below (T31.setTop (mkF m 47 #[.val (.ref r0), .val (.ref r1), .unset] [(.long w0), (.ref b24), (.ref b24)])) _
        refine XS.aloadN X31.here hx rfl (hb hby d5_47) rfl rfl ?_
        show Steps p.tables e below (T31.setTop (mkF m 48 #[.val (.ref r0), .val (.ref r1), .unset] [(.ref r0), (.long w0), (.ref b24), (.ref b24)])) _
        refine st32 _ ?_
        show Steps p.tables e below (T32.setTop (mkF m 51 #[.val (.ref r0), .val (.ref r1), .unset] [(.long w1), (.long w0), (.ref b24), (.ref b24)])) _
        refine XS.lconst X32.here hx rfl (hb hby d5_51) ?_
        show Steps p.tables e below (T32.setTop (mkF m 52 #[.val (.ref r0), .val (.ref r1), .unset] [(.long (1 : Int64)), (.long w1), (.long w0), (.ref b24), (.ref b24)])) _
        refine XS.ladd X32.here hx rfl (hb hby d5_52) rfl ?_
        show Steps p.tables e below (T32.setTop (mkF m 53 #[.val (.ref r0), .val (.ref r1), .unset] [(.long (w1 + (1 : Int64))), (.long w0), (.ref b24), (.ref b24)])) _
        refine XS.aloadN X32.here hx rfl (hb hby d5_53) rfl rfl ?_
        show Steps p.tables e below (T32.setTop (mkF m 54 #[.val (.ref r0), .val (.ref r1), .unset] [(.ref r0), (.long (w1 + (1 : Int64))), (.long w0), (.ref b24), (.ref b24)])) _
        refine st33 _ ?_
        show Steps p.tables e below (T33.setTop (mkF m 57 #[.val (.ref r0), .val (.ref r1), .unset] [(.long w2), (.long (w1 + (1 : Int64))), (.long w0), (.ref b24), (.ref b24)])) _
        refine st34.trans ?_
        show Steps p.tables e below (T34.setTop (mkF m 60 #[.val (.ref r0), .val (.ref r1), .unset] [(.ref b24)])) _
        refine XS.astoreN X34.here hx rfl (hb hby d5_60) rfl rfl (l' := #[.val (.ref r0), .val (.ref r1), .val (.ref b24)]) rfl ?_
        show Steps p.tables e below (T34.setTop (mkF m 61 #[.val (.ref r0), .val (.ref r1), .val (.ref b24)] [])) _
        refine XS.goto X34.here hx rfl (pc0 := 61) (pc' := 86) rfl (hb hby d5_61) (by decide) (by decide) ?_
        show Steps p.tables e below (T34.setTop (mkF m 86 #[.val (.ref r0), .val (.ref r1), .val (.ref b24)] [])) _
        refine XS.aloadN X34.here hx rfl (hb hby d5_86) rfl rfl ?_
        show Steps p.tables e below (T34.setTop (mkF m 87 #[.val (.ref r0), .val (.ref r1), .val (.ref b24)] [(.ref b24)])) _
        jvm_step X34.here [X34.here.top, hx, (hb hby d5_87), X34.method', Bd.returns, Value.isRef, FieldType.isReference]
        first | (intro acts; rw [hr _ acts rfl rfl rfl]) | rw [hr _ _ rfl rfl rfl]
        exact Steps.refl _
      · show Q5 Z r0 r1 w_A w_S w0 w1 w2 h0 n0 _ T34.heap _
        exact ⟨b24, w0, (w1 + (1 : Int64)), w2, rfl, N34, K34, Eq34, Fq34_0, Fq34_1, Fq34_2, by ac_rfl⟩
    · skip
      obtain ⟨T41, h41, X41, e41, E41, A41, D41, -, st41⟩ := newO X21 hx hZ hown (hw _ (List.mem_of_getElem? (i := 38) rfl)) (hw _ (List.mem_of_getElem? (i := 1) rfl)) (hw _ (List.mem_of_getElem? (i := 2) rfl)) e21 (g := (mkF m 64 #[.val (.ref r0), .val (.ref r1), .unset] [])) rfl (hb hby d5_64) (by decide) (by decide)
      obtain ⟨b41, g41⟩ : ∃ z, z = h0.size := ⟨_, rfl⟩
      rw [← g41] at A41 D41 st41
      have g_b41 : n0 ≤ b41 := Nat.le_trans Z0 (Nat.le_of_eq g41.symm)
      skip
      have Z41 : n0 ≤ h41.size := Nat.le_trans Z0 E41.1
      have ne_r0_b41 : r0 ≠ b41 := Nat.ne_of_lt (Nat.lt_of_lt_of_le E0.lt (Nat.le_of_eq g41.symm))
      have K41 : Keep h0 h41 [] := KR.ext E41
      have sz_b41 : h0.size ≤ b41 := Nat.le_trans KR.1 (Nat.le_of_eq g41.symm)
      have c42 : Sta Z h41 "com/example/fresh_index/freshindex/engine/EventCounts$Outcome" "APPLIED" "Lcom/example/fresh_index/freshindex/engine/EventCounts$Outcome;" (.ref w_A) := S_A.ext E41
      have c43 : Sta Z h41 "com/example/fresh_index/freshindex/engine/EventCounts$Outcome" "SKIPPED" "Lcom/example/fresh_index/freshindex/engine/EventCounts$Outcome;" (.ref w_S) := S_S.ext E41
      have c44 : Exa Z h41 r0 "com/example/fresh_index/freshindex/engine/EventCounts" := E0.ext E41
      have c45 : Fld Z h41 r0 "com/example/fresh_index/freshindex/engine/EventCounts" "applied" "J" (.long w0) := F0.ext E41
      have c46 : Fld Z h41 r0 "com/example/fresh_index/freshindex/engine/EventCounts" "skipped" "J" (.long w1) := F1.ext E41
      have c47 : Fld Z h41 r0 "com/example/fresh_index/freshindex/engine/EventCounts" "parked" "J" (.long w2) := F2.ext E41
      have F41_applied : Fld Z h41 b41 "com/example/fresh_index/freshindex/engine/EventCounts" "applied" "J" (.long (0 : Int64)) := D41 (Or.inr (hw _ (List.mem_of_getElem? (i := 15) rfl))) (ty := .long) (by decide)
      have F41_skipped : Fld Z h41 b41 "com/example/fresh_index/freshindex/engine/EventCounts" "skipped" "J" (.long (0 : Int64)) := D41 (Or.inr (hw _ (List.mem_of_getElem? (i := 17) rfl))) (ty := .long) (by decide)
      have F41_parked : Fld Z h41 b41 "com/example/fresh_index/freshindex/engine/EventCounts" "parked" "J" (.long (0 : Int64)) := D41 (Or.inr (hw _ (List.mem_of_getElem? (i := 19) rfl))) (ty := .long) (by decide)
      obtain ⟨T48, X48, e48, st48⟩ := getF X41 hx hZ hown (host := "") (Or.inl (hw _ (List.mem_of_getElem? (i := 14) rfl))) Via.refl e41 c45 (g := (mkF m 69 #[.val (.ref r0), .val (.ref r1), .unset] [(.ref r0), (.ref b41), (.ref b41)])) rfl rfl (hb hby d5_69)
      obtain ⟨T49, X49, e49, st49⟩ := getF X48 hx hZ hown (host := "") (Or.inl (hw _ (List.mem_of_getElem? (i := 16) rfl))) Via.refl e48 c46 (g := (mkF m 73 #[.val (.ref r0), .val (.ref r1), .unset] [(.ref r0), (.long w0), (.ref b41), (.ref b41)])) rfl rfl (hb hby d5_73)
      obtain ⟨T50, X50, e50, st50⟩ := getF X49 hx hZ hown (host := "") (Or.inl (hw _ (List.mem_of_getElem? (i := 18) rfl))) Via.refl e49 c47 (g := (mkF m 77 #[.val (.ref r0), .val (.ref r1), .unset] [(.ref r0), (.long w1), (.long w0), (.ref b41), (.ref b41)])) rfl rfl (hb hby d5_77)
      obtain ⟨_, _, ⟨T51, L51, k51, n51⟩, -, X51, ⟨Lc51, hQ51, l51, y51, z51⟩, st51⟩ := X50.specialBack hx (y := (⟨"com/example/fresh_index/freshindex/engine/EventCounts", "<init>", "(JJJ)V"⟩ : MethodName)) rfl hown (mvT hZ (hw _ (List.mem_of_getElem? (i := 39) rfl))) (mvT hZ (hw _ (List.mem_of_getElem? (i := 4) rfl))) (mvT hZ (hw _ (List.mem_of_getElem? (i := 5) rfl))) (by decide) (backOf (W := 1) (rm1 l Z a0 hw [] b41 w0 w1 (w2 + (1 : Int64)) h41 n0 Z41 A41 F41_applied F41_skipped F41_parked g_b41 ) hZ (hw _ (List.mem_of_getElem? (i := 5) rfl)) (hw _ (List.mem_of_getElem? (i := 2) rfl)) (by decide) (by decide)) (g := (mkF m 82 #[.val (.ref r0), .val (.ref r1), .unset] [(.long (w2 + (1 : Int64))), (.long w1), (.long w0), (.ref b41), (.ref b41)])) rfl (by rw [hml]; rfl) (Steps.refl _) (a := b41) (argsL := [(.long w0), (.long w1), (.long (w2 + (1 : Int64)))]) (rest := [(.ref b41)]) (lenOf pd_1 rfl) rfl (by show 2 * 0 + _ ≤ _; exact Nat.le_of_eq rfl) (hb hby d5_82) (fun _ _ => ⟨rfl, e50, (by decide : 1 + 0 ≤ _), (by decide : 3 + 0 ≤ _)⟩)
      dsimp only [Pt.U, Pt.locs, Pt.cells, Pt.slots] at X51 l51 y51 z51 st51 hQ51
      subst l51 y51 z51
      obtain ⟨rfl, Nq51, Kq51, Eq51, Fq51_0, Fq51_1, Fq51_2⟩ := hQ51
      have N51 := Fr.app N0 Nq51
      have Z51 : n0 ≤ T51.heap.size := Nat.le_trans Z41 Kq51.1
      have K51 : Keep h0 T51.heap [] := K41.trans Kq51 (fun x hx => by cases List.mem_singleton.mp hx; exact (Or.inr sz_b41))
      have c52 : Sta Z T51.heap "com/example/fresh_index/freshindex/engine/EventCounts$Outcome" "APPLIED" "Lcom/example/fresh_index/freshindex/engine/EventCounts$Outcome;" (.ref w_A) := own_sk c42 Kq51 A41
      have c53 : Sta Z T51.heap "com/example/fresh_index/freshindex/engine/EventCounts$Outcome" "SKIPPED" "Lcom/example/fresh_index/freshindex/engine/EventCounts$Outcome;" (.ref w_S) := own_sk c43 Kq51 A41
      have c54 : Exa Z T51.heap r0 "com/example/fresh_index/freshindex/engine/EventCounts" := c44.keep Kq51
      have c55 : Fld Z T51.heap r0 "com/example/fresh_index/freshindex/engine/EventCounts" "applied" "J" (.long w0) := c45.keep Kq51 (fun q => ne_r0_b41 (List.mem_singleton.mp q))
      have c56 : Fld Z T51.heap r0 "com/example/fresh_index/freshindex/engine/EventCounts" "skipped" "J" (.long w1) := c46.keep Kq51 (fun q => ne_r0_b41 (List.mem_singleton.mp q))
      have c57 : Fld Z T51.heap r0 "com/example/fresh_index/freshindex/engine/EventCounts" "parked" "J" (.long w2) := c47.keep Kq51 (fun q => ne_r0_b41 (List.mem_singleton.mp q))
      obtain ⟨fs, hr, hrun, hended, hW, hsame⟩ := X51.leave (v := some (.ref b41)) (fun h => by rw [Bd.returns] at h; cases h)
      refine ⟨_, _, pre0 _ (pre22 _ ?_), hrun, hended, _, _, rfl, ?_, ⟨_, rfl⟩, hW, hsame.mono (by decide) (by decide)⟩
      · skip
        show Steps p.tables e below (T21.setTop (mkF m 36 #[.val (.ref r0), .val (.ref r1), .unset] [(.ref w_S), (.ref r1)])) _
        refine Jvm.RoadKit.acmp (g := (mkF m 36 #[.val (.ref r0), .val (.ref r1), .unset] [(.ref w_S), (.ref r1)])) X21 hx rfl rfl rfl (pc0 := 36) (pc' := 64) (same := false) rfl (hb hby d5_36) rfl (decide_eq_false fun q => ha23 (Value.ref.inj q)) (by decide) (by decide) ?_
        show Steps p.tables e below (T21.setTop (mkF m 64 #[.val (.ref r0), .val (.ref r1), .unset] [])) _
        refine st41 _ ?_
        show Steps p.tables e below (T41.setTop (mkF m 67 #[.val (.ref r0), .val (.ref r1), .unset] [(.ref b41)])) _
        refine XS.dup X41.here hx rfl (hb hby d5_67) rfl rfl ?_
        show Steps p.tables e below (T41.setTop (mkF m 68 #[.val (.ref r0), .val (.ref r1), .unset] [(.ref b41), (.ref b41)])) _
        refine XS.aloadN X41.here hx rfl (hb hby d5_68) rfl rfl ?_
        show Steps p.tables e below (T41.setTop (mkF m 69 #[.val (.ref r0), .val (.ref r1), .unset] [(.ref r0), (.ref b41), (.ref b41)])) _
        refine st48 _ ?_
        show Steps p.tables e below (T48.setTop (mkF m 72 #[.val (.ref r0), .val (.ref r1), .unset] [(.long w0), (.ref b41), (.ref b41)])) _
        refine XS.aloadN X48.here hx rfl (hb hby d5_72) rfl rfl ?_
        show Steps p.tables e below (T48.setTop (mkF m 73 #[.val (.ref r0), .val (.ref r1), .unset] [(.ref r0), (.long w0), (.ref b41), (.ref b41)])) _
        refine st49 _ ?_
        show Steps p.tables e below (T49.setTop (mkF m 76 #[.val (.ref r0), .val (.ref r1), .unset] [(.long w1), (.long w0), (.ref b41), (.ref b41)])) _
        refine XS.aloadN X49.here hx rfl (hb hby d5_76) rfl rfl ?_
        show Steps p.tables e below (T49.setTop (mkF m 77 #[.val (.ref r0), .val (.ref r1), .unset] [(.ref r0), (.long w1), (.long w0), (.ref b41), (.ref b41)])) _
        refine st50 _ ?_
        show Steps p.tables e below (T50.setTop (mkF m 80 #[.val (.ref r0), .val (.ref r1), .unset] [(.long w2), (.long w1), (.long w0), (.ref b41), (.ref b41)])) _
        refine XS.lconst X50.here hx rfl (hb hby d5_80) ?_
        show Steps p.tables e below (T50.setTop (mkF m 81 #[.val (.ref r0), .val (.ref r1), .unset] [(.long (1 : Int64)), (.long w2), (.long w1), (.long w0), (.ref b41), (.ref b41)])) _
        refine XS.ladd X50.here hx rfl (hb hby d5_81) rfl ?_
        show Steps p.tables e below (T50.setTop (mkF m 82 #[.val (.ref r0), .val (.ref r1), .unset] [(.long (w2 + (1 : Int64))), (.long w1), (.long w0), (.ref b41), (.ref b41)])) _
        refine st51.trans ?_
        show Steps p.tables e below (T51.setTop (mkF m 85 #[.val (.ref r0), .val (.ref r1), .unset] [(.ref b41)])) _
        refine XS.astoreN X51.here hx rfl (hb hby d5_85) rfl rfl (l' := #[.val (.ref r0), .val (.ref r1), .val (.ref b41)]) rfl ?_
        show Steps p.tables e below (T51.setTop (mkF m 86 #[.val (.ref r0), .val (.ref r1), .val (.ref b41)] [])) _
        refine XS.aloadN X51.here hx rfl (hb hby d5_86) rfl rfl ?_
        show Steps p.tables e below (T51.setTop (mkF m 87 #[.val (.ref r0), .val (.ref r1), .val (.ref b41)] [(.ref b41)])) _
        jvm_step X51.here [X51.here.top, hx, (hb hby d5_87), X51.method', Bd.returns, Value.isRef, FieldType.isReference]
        first | (intro acts; rw [hr _ acts rfl rfl rfl]) | rw [hr _ _ rfl rfl rfl]
        exact Steps.refl _
      · show Q5 Z r0 r1 w_A w_S w0 w1 w2 h0 n0 _ T51.heap _
        exact ⟨b41, w0, w1, (w2 + (1 : Int64)), rfl, N51, K51, Eq51, Fq51_0, Fq51_1, Fq51_2, by ac_rfl⟩
def Q0 (Z : State) (q0 : Int64) (q1 : Int64) (q2 : Int64) (p3 : Int32) (w_A : Addr) (w_S : Addr) (w_P : Addr) (h0 : Heap) (n0 : Nat) (v : Option Value) (h : Heap) (L : List Loc) : Prop := v = some (.int 1) ∧ Fr n0 L
set_option maxRecDepth 65536 in
set_option maxHeartbeats 40000000 in
theorem rm0 (l : Launch) (Z : State) (a0 : Array Value) (hw : ∀ d ∈ tables_1, d.before a0 Z = true) (ws : List Jvm.Cond) (q0 : Int64) (q1 : Int64) (q2 : Int64) (p3 : Int32) (w_A : Addr) (w_S : Addr) (w_P : Addr) (h0 : Heap) (n0 : Nat) (Z0 : n0 ≤ h0.size) (S_A : Sta Z h0 "com/example/fresh_index/freshindex/engine/EventCounts$Outcome" "APPLIED" "Lcom/example/fresh_index/freshindex/engine/EventCounts$Outcome;" (.ref w_A)) (S_S : Sta Z h0 "com/example/fresh_index/freshindex/engine/EventCounts$Outcome" "SKIPPED" "Lcom/example/fresh_index/freshindex/engine/EventCounts$Outcome;" (.ref w_S)) (S_P : Sta Z h0 "com/example/fresh_index/freshindex/engine/EventCounts$Outcome" "PARKED" "Lcom/example/fresh_index/freshindex/engine/EventCounts$Outcome;" (.ref w_P)) :
    MetFree l x (head1 (Jvm.Cond.code x code maxLocals ret :: ws) room_1) (fun a U => a = #[(.long q0), (.long q1), (.long q2), (.int p3)] ∧ Z.Warmed39 U.vm ∧ U.heap = h0) (fun _ _ _ _ _ => True) (fun _ U o U' => ∃ v L, o = .returned v ∧ Q0 Z q0 q1 q2 p3 w_A w_S w_P h0 n0 v U'.heap L ∧ FrameEnd U o U' L room_1.cells room_1.slots) := by
  refine MetFree.of_bodySF (plainFor_of_name pn_com_example_fresh_index_freshindex_engine_EventCountsEventsPinLaw) hisR ?_
  intro p e s m args below meth c s₁ Bd hml0 hP hK
  obtain ⟨rfl, hZ, hh⟩ := hP
  have hx := Bd.exec
  have hby := Bd.bytes
  have hml : c.maxLocals = 24 := hml0
  have hown : s.vm.findClass "com/example/fresh_index/freshindex/engine/EventCountsEventsPinLaw" = some m.cls := findClass_of_methodNamed Bd.named
  have hnm := (name_of_methodNamed Bd.named Bd.method).1
  have X0 : Stand p l e room_1 s m #[(.long q0), (.long q1), (.long q2), (.int p3)] below meth c s₁ [] 0 0 := Stand.of_body Bd
  have e0 : s₁.heap = h0 := by rw [← hh, Bd.state]; rfl
  have N0 := Fr.nil n0
  have pre0 : ∀ t, Steps p.tables e below (s₁.setTop (mkF m 0 #[.val (.long q0), .second, .val (.long q1), .second, .val (.long q2), .second, .val (.int p3), .unset, .unset, .unset, .unset, .unset, .unset, .unset, .unset, .unset, .unset, .unset, .unset, .unset, .unset, .unset, .unset, .unset] [])) t → Steps p.tables e below (s₁.setTop (entryFrame m #[(.long q0), (.long q1), (.long q2), (.int p3)] maxLocals)) t := fun t k => castTop (ef_0 m q0 q1 q2 p3) k
  have preS : ∀ t, Steps p.tables e below (s₁.setTop (mkF m 0 #[.val (.long q0), .second, .val (.long q1), .second, .val (.long q2), .second, .val (.int p3), .unset, .unset, .unset, .unset, .unset, .unset, .unset, .unset, .unset, .unset, .unset, .unset, .unset, .unset, .unset, .unset, .unset] [])) t → Steps p.tables e below (s₁.setTop (mkF m 0 #[.val (.long q0), .second, .val (.long q1), .second, .val (.long q2), .second, .val (.int p3), .unset, .unset, .unset, .unset, .unset, .unset, .unset, .unset, .unset, .unset, .unset, .unset, .unset, .unset, .unset, .unset, .unset] [])) t := fun t k => k
  obtain ⟨T1, h1, X1, e1, E1, A1, D1, -, st1⟩ := newO X0 hx hZ hown (hw _ (List.mem_of_getElem? (i := 0) rfl)) (hw _ (List.mem_of_getElem? (i := 1) rfl)) (hw _ (List.mem_of_getElem? (i := 2) rfl)) e0 (g := (mkF m 0 #[.val (.long q0), .second, .val (.long q1), .second, .val (.long q2), .second, .val (.int p3), .unset, .unset, .unset, .unset, .unset, .unset, .unset, .unset, .unset, .unset, .unset, .unset, .unset, .unset, .unset, .unset, .unset] [])) rfl (hb hby at_0) (by decide) (by decide)
  obtain ⟨b1, g1⟩ : ∃ z, z = h0.size := ⟨_, rfl⟩
  rw [← g1] at A1 D1 st1
  have g_b1 : n0 ≤ b1 := Nat.le_trans Z0 (Nat.le_of_eq g1.symm)
  skip
  have Z1 : n0 ≤ h1.size := Nat.le_trans Z0 E1.1
  have c2 : Sta Z h1 "com/example/fresh_index/freshindex/engine/EventCounts$Outcome" "APPLIED" "Lcom/example/fresh_index/freshindex/engine/EventCounts$Outcome;" (.ref w_A) := S_A.ext E1
  have c3 : Sta Z h1 "com/example/fresh_index/freshindex/engine/EventCounts$Outcome" "SKIPPED" "Lcom/example/fresh_index/freshindex/engine/EventCounts$Outcome;" (.ref w_S) := S_S.ext E1
  have c4 : Sta Z h1 "com/example/fresh_index/freshindex/engine/EventCounts$Outcome" "PARKED" "Lcom/example/fresh_index/freshindex/engine/EventCounts$Outcome;" (.ref w_P) := S_P.ext E1
  have F1_applied : Fld Z h1 b1 "com/example/fresh_index/freshindex/engine/EventCounts" "applied" "J" (.long (0 : Int64)) := D1 (Or.inr (hw _ (List.mem_of_getElem? (i := 15) rfl))) (ty := .long) (by decide)
  have F1_skipped : Fld Z h1 b1 "com/example/fresh_index/freshindex/engine/EventCounts" "skipped" "J" (.long (0 : Int64)) := D1 (Or.inr (hw _ (List.mem_of_getElem? (i := 17) rfl))) (ty := .long) (by decide)
  have F1_parked : Fld Z h1 b1 "com/example/fresh_index/freshindex/engine/EventCounts" "parked" "J" (.long (0 : Int64)) := D1 (Or.inr (hw _ (List.mem_of_getElem? (i := 19) rfl))) (ty := .long) (by decide)
  obtain ⟨_, _, ⟨T5, L5, k5, n5⟩, -, X5, ⟨Lc5, hQ5, l5, y5, z5⟩, st5⟩ := X1.specialBack hx (y := (⟨"com/example/fresh_index/freshindex/engine/EventCounts", "<init>", "(JJJ)V"⟩ : MethodName)) rfl hown (mvT hZ (hw _ (List.mem_of_getElem? (i := 3) rfl))) (mvT hZ (hw _ (List.mem_of_getElem? (i := 4) rfl))) (mvT hZ (hw _ (List.mem_of_getElem? (i := 5) rfl))) (by decide) (backOf (W := 1) (rm1 l Z a0 hw [] b1 q0 q1 q2 h1 n0 Z1 A1 F1_applied F1_skipped F1_parked g_b1 ) hZ (hw _ (List.mem_of_getElem? (i := 5) rfl)) (hw _ (List.mem_of_getElem? (i := 2) rfl)) (by decide) (by decide)) (g := (mkF m 8 #[.val (.long q0), .second, .val (.long q1), .second, .val (.long q2), .second, .val (.int p3), .unset, .unset, .unset, .unset, .unset, .unset, .unset, .unset, .unset, .unset, .unset, .unset, .unset, .unset, .unset, .unset, .unset] [(.long q2), (.long q1), (.long q0), (.ref b1), (.ref b1)])) rfl (by rw [hml]; rfl) (Steps.refl _) (a := b1) (argsL := [(.long q0), (.long q1), (.long q2)]) (rest := [(.ref b1)]) (lenOf pd_1 rfl) rfl (by show 2 * 0 + _ ≤ _; exact Nat.le_of_eq rfl) (hb hby at_8) (fun _ _ => ⟨rfl, e1, (by decide : 1 + 0 ≤ _), (by decide : 3 + 0 ≤ _)⟩)
  dsimp only [Pt.U, Pt.locs, Pt.cells, Pt.slots] at X5 l5 y5 z5 st5 hQ5
  subst l5 y5 z5
  obtain ⟨rfl, Nq5, Kq5, Eq5, Fq5_0, Fq5_1, Fq5_2⟩ := hQ5
  have N5 := Fr.app N0 Nq5
  have Z5 : n0 ≤ T5.heap.size := Nat.le_trans Z1 Kq5.1
  have c6 : Sta Z T5.heap "com/example/fresh_index/freshindex/engine/EventCounts$Outcome" "APPLIED" "Lcom/example/fresh_index/freshindex/engine/EventCounts$Outcome;" (.ref w_A) := own_sk c2 Kq5 A1
  have c7 : Sta Z T5.heap "com/example/fresh_index/freshindex/engine/EventCounts$Outcome" "SKIPPED" "Lcom/example/fresh_index/freshindex/engine/EventCounts$Outcome;" (.ref w_S) := own_sk c3 Kq5 A1
  have c8 : Sta Z T5.heap "com/example/fresh_index/freshindex/engine/EventCounts$Outcome" "PARKED" "Lcom/example/fresh_index/freshindex/engine/EventCounts$Outcome;" (.ref w_P) := own_sk c4 Kq5 A1
  obtain ⟨T9, h9, X9, e9, E9, A9, D9, -, st9⟩ := newO X5 hx hZ hown (hw _ (List.mem_of_getElem? (i := 0) rfl)) (hw _ (List.mem_of_getElem? (i := 1) rfl)) (hw _ (List.mem_of_getElem? (i := 2) rfl)) rfl (g := (mkF m 13 #[.val (.long q0), .second, .val (.long q1), .second, .val (.long q2), .second, .val (.int p3), .val (.ref b1), .unset, .unset, .unset, .unset, .unset, .unset, .unset, .unset, .unset, .unset, .unset, .unset, .unset, .unset, .unset, .unset] [])) rfl (hb hby at_13) (by decide) (by decide)
  obtain ⟨b9, g9⟩ : ∃ z, z = T5.heap.size := ⟨_, rfl⟩
  rw [← g9] at A9 D9 st9
  have g_b9 : n0 ≤ b9 := Nat.le_trans Z5 (Nat.le_of_eq g9.symm)
  skip
  have Z9 : n0 ≤ h9.size := Nat.le_trans Z5 E9.1
  have ne_b1_b9 : b1 ≠ b9 := Nat.ne_of_lt (Nat.lt_of_lt_of_le Eq5.lt (Nat.le_of_eq g9.symm))
  have c10 : Sta Z h9 "com/example/fresh_index/freshindex/engine/EventCounts$Outcome" "APPLIED" "Lcom/example/fresh_index/freshindex/engine/EventCounts$Outcome;" (.ref w_A) := c6.ext E9
  have c11 : Sta Z h9 "com/example/fresh_index/freshindex/engine/EventCounts$Outcome" "SKIPPED" "Lcom/example/fresh_index/freshindex/engine/EventCounts$Outcome;" (.ref w_S) := c7.ext E9
  have c12 : Sta Z h9 "com/example/fresh_index/freshindex/engine/EventCounts$Outcome" "PARKED" "Lcom/example/fresh_index/freshindex/engine/EventCounts$Outcome;" (.ref w_P) := c8.ext E9
  have c13 : Exa Z h9 b1 "com/example/fresh_index/freshindex/engine/EventCounts" := Eq5.ext E9
  have c14 : Fld Z h9 b1 "com/example/fresh_index/freshindex/engine/EventCounts" "applied" "J" (.long q0) := Fq5_0.ext E9
  have c15 : Fld Z h9 b1 "com/example/fresh_index/freshindex/engine/EventCounts" "skipped" "J" (.long q1) := Fq5_1.ext E9
  have c16 : Fld Z h9 b1 "com/example/fresh_index/freshindex/engine/EventCounts" "parked" "J" (.long q2) := Fq5_2.ext E9
  have F9_applied : Fld Z h9 b9 "com/example/fresh_index/freshindex/engine/EventCounts" "applied" "J" (.long (0 : Int64)) := D9 (Or.inr (hw _ (List.mem_of_getElem? (i := 15) rfl))) (ty := .long) (by decide)
  have F9_skipped : Fld Z h9 b9 "com/example/fresh_index/freshindex/engine/EventCounts" "skipped" "J" (.long (0 : Int64)) := D9 (Or.inr (hw _ (List.mem_of_getElem? (i := 17) rfl))) (ty := .long) (by decide)
  have F9_parked : Fld Z h9 b9 "com/example/fresh_index/freshindex/engine/EventCounts" "parked" "J" (.long (0 : Int64)) := D9 (Or.inr (hw _ (List.mem_of_getElem? (i := 19) rfl))) (ty := .long) (by decide)
  obtain ⟨_, _, ⟨T17, L17, k17, n17⟩, -, X17, ⟨Lc17, hQ17, l17, y17, z17⟩, st17⟩ := X9.specialBack hx (y := (⟨"com/example/fresh_index/freshindex/engine/EventCounts", "<init>", "(JJJ)V"⟩ : MethodName)) rfl hown (mvT hZ (hw _ (List.mem_of_getElem? (i := 3) rfl))) (mvT hZ (hw _ (List.mem_of_getElem? (i := 4) rfl))) (mvT hZ (hw _ (List.mem_of_getElem? (i := 5) rfl))) (by decide) (backOf (W := 1) (rm1 l Z a0 hw [] b9 q0 (0 : Int64) (0 : Int64) h9 n0 Z9 A9 F9_applied F9_skipped F9_parked g_b9 ) hZ (hw _ (List.mem_of_getElem? (i := 5) rfl)) (hw _ (List.mem_of_getElem? (i := 2) rfl)) (by decide) (by decide)) (g := (mkF m 20 #[.val (.long q0), .second, .val (.long q1), .second, .val (.long q2), .second, .val (.int p3), .val (.ref b1), .unset, .unset, .unset, .unset, .unset, .unset, .unset, .unset, .unset, .unset, .unset, .unset, .unset, .unset, .unset, .unset] [(.long (0 : Int64)), (.long (0 : Int64)), (.long q0), (.ref b9), (.ref b9)])) rfl (by rw [hml]; rfl) (Steps.refl _) (a := b9) (argsL := [(.long q0), (.long (0 : Int64)), (.long (0 : Int64))]) (rest := [(.ref b9)]) (lenOf pd_1 rfl) rfl (by show 2 * 0 + _ ≤ _; exact Nat.le_of_eq rfl) (hb hby at_20) (fun _ _ => ⟨rfl, e9, (by decide : 2 + 0 ≤ _), (by decide : 6 + 0 ≤ _)⟩)
  dsimp only [Pt.U, Pt.locs, Pt.cells, Pt.slots] at X17 l17 y17 z17 st17 hQ17
  subst l17 y17 z17
  obtain ⟨rfl, Nq17, Kq17, Eq17, Fq17_0, Fq17_1, Fq17_2⟩ := hQ17
  have N17 := Fr.app N5 Nq17
  have Z17 : n0 ≤ T17.heap.size := Nat.le_trans Z9 Kq17.1
  have c18 : Sta Z T17.heap "com/example/fresh_index/freshindex/engine/EventCounts$Outcome" "APPLIED" "Lcom/example/fresh_index/freshindex/engine/EventCounts$Outcome;" (.ref w_A) := own_sk c10 Kq17 A9
  have c19 : Sta Z T17.heap "com/example/fresh_index/freshindex/engine/EventCounts$Outcome" "SKIPPED" "Lcom/example/fresh_index/freshindex/engine/EventCounts$Outcome;" (.ref w_S) := own_sk c11 Kq17 A9
  have c20 : Sta Z T17.heap "com/example/fresh_index/freshindex/engine/EventCounts$Outcome" "PARKED" "Lcom/example/fresh_index/freshindex/engine/EventCounts$Outcome;" (.ref w_P) := own_sk c12 Kq17 A9
  have c21 : Exa Z T17.heap b1 "com/example/fresh_index/freshindex/engine/EventCounts" := c13.keep Kq17
  have c22 : Fld Z T17.heap b1 "com/example/fresh_index/freshindex/engine/EventCounts" "applied" "J" (.long q0) := c14.keep Kq17 (fun q => ne_b1_b9 (List.mem_singleton.mp q))
  have c23 : Fld Z T17.heap b1 "com/example/fresh_index/freshindex/engine/EventCounts" "skipped" "J" (.long q1) := c15.keep Kq17 (fun q => ne_b1_b9 (List.mem_singleton.mp q))
  have c24 : Fld Z T17.heap b1 "com/example/fresh_index/freshindex/engine/EventCounts" "parked" "J" (.long q2) := c16.keep Kq17 (fun q => ne_b1_b9 (List.mem_singleton.mp q))
  obtain ⟨T25, h25, X25, e25, E25, A25, D25, -, st25⟩ := newO X17 hx hZ hown (hw _ (List.mem_of_getElem? (i := 0) rfl)) (hw _ (List.mem_of_getElem? (i := 1) rfl)) (hw _ (List.mem_of_getElem? (i := 2) rfl)) rfl (g := (mkF m 25 #[.val (.long q0), .second, .val (.long q1), .second, .val (.long q2), .second, .val (.int p3), .val (.ref b1), .val (.ref b9), .unset, .unset, .unset, .unset, .unset, .unset, .unset, .unset, .unset, .unset, .unset, .unset, .unset, .unset, .unset] [])) rfl (hb hby at_25) (by decide) (by decide)
  obtain ⟨b25, g25⟩ : ∃ z, z = T17.heap.size := ⟨_, rfl⟩
  rw [← g25] at A25 D25 st25
  have g_b25 : n0 ≤ b25 := Nat.le_trans Z17 (Nat.le_of_eq g25.symm)
  skip
  have Z25 : n0 ≤ h25.size := Nat.le_trans Z17 E25.1
  have ne_b1_b25 : b1 ≠ b25 := Nat.ne_of_lt (Nat.lt_of_lt_of_le c21.lt (Nat.le_of_eq g25.symm))
  have ne_b9_b25 : b9 ≠ b25 := Nat.ne_of_lt (Nat.lt_of_lt_of_le Eq17.lt (Nat.le_of_eq g25.symm))
  have c26 : Sta Z h25 "com/example/fresh_index/freshindex/engine/EventCounts$Outcome" "APPLIED" "Lcom/example/fresh_index/freshindex/engine/EventCounts$Outcome;" (.ref w_A) := c18.ext E25
  have c27 : Sta Z h25 "com/example/fresh_index/freshindex/engine/EventCounts$Outcome" "SKIPPED" "Lcom/example/fresh_index/freshindex/engine/EventCounts$Outcome;" (.ref w_S) := c19.ext E25
  have c28 : Sta Z h25 "com/example/fresh_index/freshindex/engine/EventCounts$Outcome" "PARKED" "Lcom/example/fresh_index/freshindex/engine/EventCounts$Outcome;" (.ref w_P) := c20.ext E25
  have c29 : Exa Z h25 b1 "com/example/fresh_index/freshindex/engine/EventCounts" := c21.ext E25
  have c30 : Fld Z h25 b1 "com/example/fresh_index/freshindex/engine/EventCounts" "applied" "J" (.long q0) := c22.ext E25
  have c31 : Fld Z h25 b1 "com/example/fresh_index/freshindex/engine/EventCounts" "skipped" "J" (.long q1) := c23.ext E25
  have c32 : Fld Z h25 b1 "com/example/fresh_index/freshindex/engine/EventCounts" "parked" "J" (.long q2) := c24.ext E25
  have c33 : Exa Z h25 b9 "com/example/fresh_index/freshindex/engine/EventCounts" := Eq17.ext E25
  have c34 : Fld Z h25 b9 "com/example/fresh_index/freshindex/engine/EventCounts" "applied" "J" (.long q0) := Fq17_0.ext E25
  have c35 : Fld Z h25 b9 "com/example/fresh_index/freshindex/engine/EventCounts" "skipped" "J" (.long (0 : Int64)) := Fq17_1.ext E25
  have c36 : Fld Z h25 b9 "com/example/fresh_index/freshindex/engine/EventCounts" "parked" "J" (.long (0 : Int64)) := Fq17_2.ext E25
  have F25_applied : Fld Z h25 b25 "com/example/fresh_index/freshindex/engine/EventCounts" "applied" "J" (.long (0 : Int64)) := D25 (Or.inr (hw _ (List.mem_of_getElem? (i := 15) rfl))) (ty := .long) (by decide)
  have F25_skipped : Fld Z h25 b25 "com/example/fresh_index/freshindex/engine/EventCounts" "skipped" "J" (.long (0 : Int64)) := D25 (Or.inr (hw _ (List.mem_of_getElem? (i := 17) rfl))) (ty := .long) (by decide)
  have F25_parked : Fld Z h25 b25 "com/example/fresh_index/freshindex/engine/EventCounts" "parked" "J" (.long (0 : Int64)) := D25 (Or.inr (hw _ (List.mem_of_getElem? (i := 19) rfl))) (ty := .long) (by decide)
  obtain ⟨_, _, ⟨T37, L37, k37, n37⟩, -, X37, ⟨Lc37, hQ37, l37, y37, z37⟩, st37⟩ := X25.specialBack hx (y := (⟨"com/example/fresh_index/freshindex/engine/EventCounts", "<init>", "(JJJ)V"⟩ : MethodName)) rfl hown (mvT hZ (hw _ (List.mem_of_getElem? (i := 3) rfl))) (mvT hZ (hw _ (List.mem_of_getElem? (i := 4) rfl))) (mvT hZ (hw _ (List.mem_of_getElem? (i := 5) rfl))) (by decide) (backOf (W := 1) (rm1 l Z a0 hw [] b25 (0 : Int64) q1 (0 : Int64) h25 n0 Z25 A25 F25_applied F25_skipped F25_parked g_b25 ) hZ (hw _ (List.mem_of_getElem? (i := 5) rfl)) (hw _ (List.mem_of_getElem? (i := 2) rfl)) (by decide) (by decide)) (g := (mkF m 32 #[.val (.long q0), .second, .val (.long q1), .second, .val (.long q2), .second, .val (.int p3), .val (.ref b1), .val (.ref b9), .unset, .unset, .unset, .unset, .unset, .unset, .unset, .unset, .unset, .unset, .unset, .unset, .unset, .unset, .unset] [(.long (0 : Int64)), (.long q1), (.long (0 : Int64)), (.ref b25), (.ref b25)])) rfl (by rw [hml]; rfl) (Steps.refl _) (a := b25) (argsL := [(.long (0 : Int64)), (.long q1), (.long (0 : Int64))]) (rest := [(.ref b25)]) (lenOf pd_1 rfl) rfl (by show 2 * 0 + _ ≤ _; exact Nat.le_of_eq rfl) (hb hby at_32) (fun _ _ => ⟨rfl, e25, (by decide : 3 + 0 ≤ _), (by decide : 9 + 0 ≤ _)⟩)
  dsimp only [Pt.U, Pt.locs, Pt.cells, Pt.slots] at X37 l37 y37 z37 st37 hQ37
  subst l37 y37 z37
  obtain ⟨rfl, Nq37, Kq37, Eq37, Fq37_0, Fq37_1, Fq37_2⟩ := hQ37
  have N37 := Fr.app N17 Nq37
  have Z37 : n0 ≤ T37.heap.size := Nat.le_trans Z25 Kq37.1
  have c38 : Sta Z T37.heap "com/example/fresh_index/freshindex/engine/EventCounts$Outcome" "APPLIED" "Lcom/example/fresh_index/freshindex/engine/EventCounts$Outcome;" (.ref w_A) := own_sk c26 Kq37 A25
  have c39 : Sta Z T37.heap "com/example/fresh_index/freshindex/engine/EventCounts$Outcome" "SKIPPED" "Lcom/example/fresh_index/freshindex/engine/EventCounts$Outcome;" (.ref w_S) := own_sk c27 Kq37 A25
  have c40 : Sta Z T37.heap "com/example/fresh_index/freshindex/engine/EventCounts$Outcome" "PARKED" "Lcom/example/fresh_index/freshindex/engine/EventCounts$Outcome;" (.ref w_P) := own_sk c28 Kq37 A25
  have c41 : Exa Z T37.heap b1 "com/example/fresh_index/freshindex/engine/EventCounts" := c29.keep Kq37
  have c42 : Fld Z T37.heap b1 "com/example/fresh_index/freshindex/engine/EventCounts" "applied" "J" (.long q0) := c30.keep Kq37 (fun q => ne_b1_b25 (List.mem_singleton.mp q))
  have c43 : Fld Z T37.heap b1 "com/example/fresh_index/freshindex/engine/EventCounts" "skipped" "J" (.long q1) := c31.keep Kq37 (fun q => ne_b1_b25 (List.mem_singleton.mp q))
  have c44 : Fld Z T37.heap b1 "com/example/fresh_index/freshindex/engine/EventCounts" "parked" "J" (.long q2) := c32.keep Kq37 (fun q => ne_b1_b25 (List.mem_singleton.mp q))
  have c45 : Exa Z T37.heap b9 "com/example/fresh_index/freshindex/engine/EventCounts" := c33.keep Kq37
  have c46 : Fld Z T37.heap b9 "com/example/fresh_index/freshindex/engine/EventCounts" "applied" "J" (.long q0) := c34.keep Kq37 (fun q => ne_b9_b25 (List.mem_singleton.mp q))
  have c47 : Fld Z T37.heap b9 "com/example/fresh_index/freshindex/engine/EventCounts" "skipped" "J" (.long (0 : Int64)) := c35.keep Kq37 (fun q => ne_b9_b25 (List.mem_singleton.mp q))
  have c48 : Fld Z T37.heap b9 "com/example/fresh_index/freshindex/engine/EventCounts" "parked" "J" (.long (0 : Int64)) := c36.keep Kq37 (fun q => ne_b9_b25 (List.mem_singleton.mp q))
  obtain ⟨T49, h49, X49, e49, E49, A49, D49, -, st49⟩ := newO X37 hx hZ hown (hw _ (List.mem_of_getElem? (i := 0) rfl)) (hw _ (List.mem_of_getElem? (i := 1) rfl)) (hw _ (List.mem_of_getElem? (i := 2) rfl)) rfl (g := (mkF m 37 #[.val (.long q0), .second, .val (.long q1), .second, .val (.long q2), .second, .val (.int p3), .val (.ref b1), .val (.ref b9), .val (.ref b25), .unset, .unset, .unset, .unset, .unset, .unset, .unset, .unset, .unset, .unset, .unset, .unset, .unset, .unset] [])) rfl (hb hby at_37) (by decide) (by decide)
  obtain ⟨b49, g49⟩ : ∃ z, z = T37.heap.size := ⟨_, rfl⟩
  rw [← g49] at A49 D49 st49
  have g_b49 : n0 ≤ b49 := Nat.le_trans Z37 (Nat.le_of_eq g49.symm)
  skip
  have Z49 : n0 ≤ h49.size := Nat.le_trans Z37 E49.1
  have ne_b1_b49 : b1 ≠ b49 := Nat.ne_of_lt (Nat.lt_of_lt_of_le c41.lt (Nat.le_of_eq g49.symm))
  have ne_b9_b49 : b9 ≠ b49 := Nat.ne_of_lt (Nat.lt_of_lt_of_le c45.lt (Nat.le_of_eq g49.symm))
  have ne_b25_b49 : b25 ≠ b49 := Nat.ne_of_lt (Nat.lt_of_lt_of_le Eq37.lt (Nat.le_of_eq g49.symm))
  have c50 : Sta Z h49 "com/example/fresh_index/freshindex/engine/EventCounts$Outcome" "APPLIED" "Lcom/example/fresh_index/freshindex/engine/EventCounts$Outcome;" (.ref w_A) := c38.ext E49
  have c51 : Sta Z h49 "com/example/fresh_index/freshindex/engine/EventCounts$Outcome" "SKIPPED" "Lcom/example/fresh_index/freshindex/engine/EventCounts$Outcome;" (.ref w_S) := c39.ext E49
  have c52 : Sta Z h49 "com/example/fresh_index/freshindex/engine/EventCounts$Outcome" "PARKED" "Lcom/example/fresh_index/freshindex/engine/EventCounts$Outcome;" (.ref w_P) := c40.ext E49
  have c53 : Exa Z h49 b1 "com/example/fresh_index/freshindex/engine/EventCounts" := c41.ext E49
  have c54 : Fld Z h49 b1 "com/example/fresh_index/freshindex/engine/EventCounts" "applied" "J" (.long q0) := c42.ext E49
  have c55 : Fld Z h49 b1 "com/example/fresh_index/freshindex/engine/EventCounts" "skipped" "J" (.long q1) := c43.ext E49
  have c56 : Fld Z h49 b1 "com/example/fresh_index/freshindex/engine/EventCounts" "parked" "J" (.long q2) := c44.ext E49
  have c57 : Exa Z h49 b9 "com/example/fresh_index/freshindex/engine/EventCounts" := c45.ext E49
  have c58 : Fld Z h49 b9 "com/example/fresh_index/freshindex/engine/EventCounts" "applied" "J" (.long q0) := c46.ext E49
  have c59 : Fld Z h49 b9 "com/example/fresh_index/freshindex/engine/EventCounts" "skipped" "J" (.long (0 : Int64)) := c47.ext E49
  have c60 : Fld Z h49 b9 "com/example/fresh_index/freshindex/engine/EventCounts" "parked" "J" (.long (0 : Int64)) := c48.ext E49
  have c61 : Exa Z h49 b25 "com/example/fresh_index/freshindex/engine/EventCounts" := Eq37.ext E49
  have c62 : Fld Z h49 b25 "com/example/fresh_index/freshindex/engine/EventCounts" "applied" "J" (.long (0 : Int64)) := Fq37_0.ext E49
  have c63 : Fld Z h49 b25 "com/example/fresh_index/freshindex/engine/EventCounts" "skipped" "J" (.long q1) := Fq37_1.ext E49
  have c64 : Fld Z h49 b25 "com/example/fresh_index/freshindex/engine/EventCounts" "parked" "J" (.long (0 : Int64)) := Fq37_2.ext E49
  have F49_applied : Fld Z h49 b49 "com/example/fresh_index/freshindex/engine/EventCounts" "applied" "J" (.long (0 : Int64)) := D49 (Or.inr (hw _ (List.mem_of_getElem? (i := 15) rfl))) (ty := .long) (by decide)
  have F49_skipped : Fld Z h49 b49 "com/example/fresh_index/freshindex/engine/EventCounts" "skipped" "J" (.long (0 : Int64)) := D49 (Or.inr (hw _ (List.mem_of_getElem? (i := 17) rfl))) (ty := .long) (by decide)
  have F49_parked : Fld Z h49 b49 "com/example/fresh_index/freshindex/engine/EventCounts" "parked" "J" (.long (0 : Int64)) := D49 (Or.inr (hw _ (List.mem_of_getElem? (i := 19) rfl))) (ty := .long) (by decide)
  obtain ⟨_, _, ⟨T65, L65, k65, n65⟩, -, X65, ⟨Lc65, hQ65, l65, y65, z65⟩, st65⟩ := X49.specialBack hx (y := (⟨"com/example/fresh_index/freshindex/engine/EventCounts", "<init>", "(JJJ)V"⟩ : MethodName)) rfl hown (mvT hZ (hw _ (List.mem_of_getElem? (i := 3) rfl))) (mvT hZ (hw _ (List.mem_of_getElem? (i := 4) rfl))) (mvT hZ (hw _ (List.mem_of_getElem? (i := 5) rfl))) (by decide) (backOf (W := 1) (rm1 l Z a0 hw [] b49 (0 : Int64) (0 : Int64) q2 h49 n0 Z49 A49 F49_applied F49_skipped F49_parked g_b49 ) hZ (hw _ (List.mem_of_getElem? (i := 5) rfl)) (hw _ (List.mem_of_getElem? (i := 2) rfl)) (by decide) (by decide)) (g := (mkF m 45 #[.val (.long q0), .second, .val (.long q1), .second, .val (.long q2), .second, .val (.int p3), .val (.ref b1), .val (.ref b9), .val (.ref b25), .unset, .unset, .unset, .unset, .unset, .unset, .unset, .unset, .unset, .unset, .unset, .unset, .unset, .unset] [(.long q2), (.long (0 : Int64)), (.long (0 : Int64)), (.ref b49), (.ref b49)])) rfl (by rw [hml]; rfl) (Steps.refl _) (a := b49) (argsL := [(.long (0 : Int64)), (.long (0 : Int64)), (.long q2)]) (rest := [(.ref b49)]) (lenOf pd_1 rfl) rfl (by show 2 * 0 + _ ≤ _; exact Nat.le_of_eq rfl) (hb hby at_45) (fun _ _ => ⟨rfl, e49, (by decide : 4 + 0 ≤ _), (by decide : 12 + 0 ≤ _)⟩)
  dsimp only [Pt.U, Pt.locs, Pt.cells, Pt.slots] at X65 l65 y65 z65 st65 hQ65
  subst l65 y65 z65
  obtain ⟨rfl, Nq65, Kq65, Eq65, Fq65_0, Fq65_1, Fq65_2⟩ := hQ65
  have N65 := Fr.app N37 Nq65
  have Z65 : n0 ≤ T65.heap.size := Nat.le_trans Z49 Kq65.1
  have c66 : Sta Z T65.heap "com/example/fresh_index/freshindex/engine/EventCounts$Outcome" "APPLIED" "Lcom/example/fresh_index/freshindex/engine/EventCounts$Outcome;" (.ref w_A) := own_sk c50 Kq65 A49
  have c67 : Sta Z T65.heap "com/example/fresh_index/freshindex/engine/EventCounts$Outcome" "SKIPPED" "Lcom/example/fresh_index/freshindex/engine/EventCounts$Outcome;" (.ref w_S) := own_sk c51 Kq65 A49
  have c68 : Sta Z T65.heap "com/example/fresh_index/freshindex/engine/EventCounts$Outcome" "PARKED" "Lcom/example/fresh_index/freshindex/engine/EventCounts$Outcome;" (.ref w_P) := own_sk c52 Kq65 A49
  have c69 : Exa Z T65.heap b1 "com/example/fresh_index/freshindex/engine/EventCounts" := c53.keep Kq65
  have c70 : Fld Z T65.heap b1 "com/example/fresh_index/freshindex/engine/EventCounts" "applied" "J" (.long q0) := c54.keep Kq65 (fun q => ne_b1_b49 (List.mem_singleton.mp q))
  have c71 : Fld Z T65.heap b1 "com/example/fresh_index/freshindex/engine/EventCounts" "skipped" "J" (.long q1) := c55.keep Kq65 (fun q => ne_b1_b49 (List.mem_singleton.mp q))
  have c72 : Fld Z T65.heap b1 "com/example/fresh_index/freshindex/engine/EventCounts" "parked" "J" (.long q2) := c56.keep Kq65 (fun q => ne_b1_b49 (List.mem_singleton.mp q))
  have c73 : Exa Z T65.heap b9 "com/example/fresh_index/freshindex/engine/EventCounts" := c57.keep Kq65
  have c74 : Fld Z T65.heap b9 "com/example/fresh_index/freshindex/engine/EventCounts" "applied" "J" (.long q0) := c58.keep Kq65 (fun q => ne_b9_b49 (List.mem_singleton.mp q))
  have c75 : Fld Z T65.heap b9 "com/example/fresh_index/freshindex/engine/EventCounts" "skipped" "J" (.long (0 : Int64)) := c59.keep Kq65 (fun q => ne_b9_b49 (List.mem_singleton.mp q))
  have c76 : Fld Z T65.heap b9 "com/example/fresh_index/freshindex/engine/EventCounts" "parked" "J" (.long (0 : Int64)) := c60.keep Kq65 (fun q => ne_b9_b49 (List.mem_singleton.mp q))
  have c77 : Exa Z T65.heap b25 "com/example/fresh_index/freshindex/engine/EventCounts" := c61.keep Kq65
  have c78 : Fld Z T65.heap b25 "com/example/fresh_index/freshindex/engine/EventCounts" "applied" "J" (.long (0 : Int64)) := c62.keep Kq65 (fun q => ne_b25_b49 (List.mem_singleton.mp q))
  have c79 : Fld Z T65.heap b25 "com/example/fresh_index/freshindex/engine/EventCounts" "skipped" "J" (.long q1) := c63.keep Kq65 (fun q => ne_b25_b49 (List.mem_singleton.mp q))
  have c80 : Fld Z T65.heap b25 "com/example/fresh_index/freshindex/engine/EventCounts" "parked" "J" (.long (0 : Int64)) := c64.keep Kq65 (fun q => ne_b25_b49 (List.mem_singleton.mp q))
  have pre81 : ∀ t, Steps p.tables e below (T65.setTop (mkF m 59 #[.val (.long q0), .second, .val (.long q1), .second, .val (.long q2), .second, .val (.int p3), .val (.ref b1), .val (.ref b9), .val (.ref b25), .val (.ref b49), .val (.int ((p3 &&& (2147483647 : Int32)) % (3 : Int32))), .unset, .unset, .unset, .unset, .unset, .unset, .unset, .unset, .unset, .unset, .unset, .unset] [])) t → Steps p.tables e below (s₁.setTop (mkF m 0 #[.val (.long q0), .second, .val (.long q1), .second, .val (.long q2), .second, .val (.int p3), .unset, .unset, .unset, .unset, .unset, .unset, .unset, .unset, .unset, .unset, .unset, .unset, .unset, .unset, .unset, .unset, .unset] [])) t := fun t k => preS t (by
    show Steps p.tables e below (s₁.setTop (mkF m 0 #[.val (.long q0), .second, .val (.long q1), .second, .val (.long q2), .second, .val (.int p3), .unset, .unset, .unset, .unset, .unset, .unset, .unset, .unset, .unset, .unset, .unset, .unset, .unset, .unset, .unset, .unset, .unset] [])) _
    refine st1 _ ?_
    show Steps p.tables e below (T1.setTop (mkF m 3 #[.val (.long q0), .second, .val (.long q1), .second, .val (.long q2), .second, .val (.int p3), .unset, .unset, .unset, .unset, .unset, .unset, .unset, .unset, .unset, .unset, .unset, .unset, .unset, .unset, .unset, .unset, .unset] [(.ref b1)])) _
    refine XS.dup X1.here hx rfl (hb hby at_3) rfl rfl ?_
    show Steps p.tables e below (T1.setTop (mkF m 4 #[.val (.long q0), .second, .val (.long q1), .second, .val (.long q2), .second, .val (.int p3), .unset, .unset, .unset, .unset, .unset, .unset, .unset, .unset, .unset, .unset, .unset, .unset, .unset, .unset, .unset, .unset, .unset] [(.ref b1), (.ref b1)])) _
    refine XS.lloadN X1.here hx rfl (hb hby at_4) rfl ?_
    show Steps p.tables e below (T1.setTop (mkF m 5 #[.val (.long q0), .second, .val (.long q1), .second, .val (.long q2), .second, .val (.int p3), .unset, .unset, .unset, .unset, .unset, .unset, .unset, .unset, .unset, .unset, .unset, .unset, .unset, .unset, .unset, .unset, .unset] [(.long q0), (.ref b1), (.ref b1)])) _
    refine XS.lloadN X1.here hx rfl (hb hby at_5) rfl ?_
    show Steps p.tables e below (T1.setTop (mkF m 6 #[.val (.long q0), .second, .val (.long q1), .second, .val (.long q2), .second, .val (.int p3), .unset, .unset, .unset, .unset, .unset, .unset, .unset, .unset, .unset, .unset, .unset, .unset, .unset, .unset, .unset, .unset, .unset] [(.long q1), (.long q0), (.ref b1), (.ref b1)])) _
    refine XS.lload X1.here hx rfl (hb hby at_6) rfl ?_
    show Steps p.tables e below (T1.setTop (mkF m 8 #[.val (.long q0), .second, .val (.long q1), .second, .val (.long q2), .second, .val (.int p3), .unset, .unset, .unset, .unset, .unset, .unset, .unset, .unset, .unset, .unset, .unset, .unset, .unset, .unset, .unset, .unset, .unset] [(.long q2), (.long q1), (.long q0), (.ref b1), (.ref b1)])) _
    refine st5.trans ?_
    show Steps p.tables e below (T5.setTop (mkF m 11 #[.val (.long q0), .second, .val (.long q1), .second, .val (.long q2), .second, .val (.int p3), .unset, .unset, .unset, .unset, .unset, .unset, .unset, .unset, .unset, .unset, .unset, .unset, .unset, .unset, .unset, .unset, .unset] [(.ref b1)])) _
    refine XS.astore X5.here hx rfl (hb hby at_11) rfl rfl (l' := #[.val (.long q0), .second, .val (.long q1), .second, .val (.long q2), .second, .val (.int p3), .val (.ref b1), .unset, .unset, .unset, .unset, .unset, .unset, .unset, .unset, .unset, .unset, .unset, .unset, .unset, .unset, .unset, .unset]) rfl ?_
    show Steps p.tables e below (T5.setTop (mkF m 13 #[.val (.long q0), .second, .val (.long q1), .second, .val (.long q2), .second, .val (.int p3), .val (.ref b1), .unset, .unset, .unset, .unset, .unset, .unset, .unset, .unset, .unset, .unset, .unset, .unset, .unset, .unset, .unset, .unset] [])) _
    refine st9 _ ?_
    show Steps p.tables e below (T9.setTop (mkF m 16 #[.val (.long q0), .second, .val (.long q1), .second, .val (.long q2), .second, .val (.int p3), .val (.ref b1), .unset, .unset, .unset, .unset, .unset, .unset, .unset, .unset, .unset, .unset, .unset, .unset, .unset, .unset, .unset, .unset] [(.ref b9)])) _
    refine XS.dup X9.here hx rfl (hb hby at_16) rfl rfl ?_
    show Steps p.tables e below (T9.setTop (mkF m 17 #[.val (.long q0), .second, .val (.long q1), .second, .val (.long q2), .second, .val (.int p3), .val (.ref b1), .unset, .unset, .unset, .unset, .unset, .unset, .unset, .unset, .unset, .unset, .unset, .unset, .unset, .unset, .unset, .unset] [(.ref b9), (.ref b9)])) _
    refine XS.lloadN X9.here hx rfl (hb hby at_17) rfl ?_
    show Steps p.tables e below (T9.setTop (mkF m 18 #[.val (.long q0), .second, .val (.long q1), .second, .val (.long q2), .second, .val (.int p3), .val (.ref b1), .unset, .unset, .unset, .unset, .unset, .unset, .unset, .unset, .unset, .unset, .unset, .unset, .unset, .unset, .unset, .unset] [(.long q0), (.ref b9), (.ref b9)])) _
    refine XS.lconst X9.here hx rfl (hb hby at_18) ?_
    show Steps p.tables e below (T9.setTop (mkF m 19 #[.val (.long q0), .second, .val (.long q1), .second, .val (.long q2), .second, .val (.int p3), .val (.ref b1), .unset, .unset, .unset, .unset, .unset, .unset, .unset, .unset, .unset, .unset, .unset, .unset, .unset, .unset, .unset, .unset] [(.long (0 : Int64)), (.long q0), (.ref b9), (.ref b9)])) _
    refine XS.lconst X9.here hx rfl (hb hby at_19) ?_
    show Steps p.tables e below (T9.setTop (mkF m 20 #[.val (.long q0), .second, .val (.long q1), .second, .val (.long q2), .second, .val (.int p3), .val (.ref b1), .unset, .unset, .unset, .unset, .unset, .unset, .unset, .unset, .unset, .unset, .unset, .unset, .unset, .unset, .unset, .unset] [(.long (0 : Int64)), (.long (0 : Int64)), (.long q0), (.ref b9), (.ref b9)])) _
    refine st17.trans ?_
    show Steps p.tables e below (T17.setTop (mkF m 23 #[.val (.long q0), .second, .val (.long q1), .second, .val (.long q2), .second, .val (.int p3), .val (.ref b1), .unset, .unset, .unset, .unset, .unset, .unset, .unset, .unset, .unset, .unset, .unset, .unset, .unset, .unset, .unset, .unset] [(.ref b9)])) _
    refine XS.astore X17.here hx rfl (hb hby at_23) rfl rfl (l' := #[.val (.long q0), .second, .val (.long q1), .second, .val (.long q2), .second, .val (.int p3), .val (.ref b1), .val (.ref b9), .unset, .unset, .unset, .unset, .unset, .unset, .unset, .unset, .unset, .unset, .unset, .unset, .unset, .unset, .unset]) rfl ?_
    show Steps p.tables e below (T17.setTop (mkF m 25 #[.val (.long q0), .second, .val (.long q1), .second, .val (.long q2), .second, .val (.int p3), .val (.ref b1), .val (.ref b9), .unset, .unset, .unset, .unset, .unset, .unset, .unset, .unset, .unset, .unset, .unset, .unset, .unset, .unset, .unset] [])) _
    refine st25 _ ?_
    show Steps p.tables e below (T25.setTop (mkF m 28 #[.val (.long q0), .second, .val (.long q1), .second, .val (.long q2), .second, .val (.int p3), .val (.ref b1), .val (.ref b9), .unset, .unset, .unset, .unset, .unset, .unset, .unset, .unset, .unset, .unset, .unset, .unset, .unset, .unset, .unset] [(.ref b25)])) _
    refine XS.dup X25.here hx rfl (hb hby at_28) rfl rfl ?_
    show Steps p.tables e below (T25.setTop (mkF m 29 #[.val (.long q0), .second, .val (.long q1), .second, .val (.long q2), .second, .val (.int p3), .val (.ref b1), .val (.ref b9), .unset, .unset, .unset, .unset, .unset, .unset, .unset, .unset, .unset, .unset, .unset, .unset, .unset, .unset, .unset] [(.ref b25), (.ref b25)])) _
    refine XS.lconst X25.here hx rfl (hb hby at_29) ?_
    show Steps p.tables e below (T25.setTop (mkF m 30 #[.val (.long q0), .second, .val (.long q1), .second, .val (.long q2), .second, .val (.int p3), .val (.ref b1), .val (.ref b9), .unset, .unset, .unset, .unset, .unset, .unset, .unset, .unset, .unset, .unset, .unset, .unset, .unset, .unset, .unset] [(.long (0 : Int64)), (.ref b25), (.ref b25)])) _
    refine XS.lloadN X25.here hx rfl (hb hby at_30) rfl ?_
    show Steps p.tables e below (T25.setTop (mkF m 31 #[.val (.long q0), .second, .val (.long q1), .second, .val (.long q2), .second, .val (.int p3), .val (.ref b1), .val (.ref b9), .unset, .unset, .unset, .unset, .unset, .unset, .unset, .unset, .unset, .unset, .unset, .unset, .unset, .unset, .unset] [(.long q1), (.long (0 : Int64)), (.ref b25), (.ref b25)])) _
    refine XS.lconst X25.here hx rfl (hb hby at_31) ?_
    show Steps p.tables e below (T25.setTop (mkF m 32 #[.val (.long q0), .second, .val (.long q1), .second, .val (.long q2), .second, .val (.int p3), .val (.ref b1), .val (.ref b9), .unset, .unset, .unset, .unset, .unset, .unset, .unset, .unset, .unset, .unset, .unset, .unset, .unset, .unset, .unset] [(.long (0 : Int64)), (.long q1), (.long (0 : Int64)), (.ref b25), (.ref b25)])) _
    refine st37.trans ?_
    show Steps p.tables e below (T37.setTop (mkF m 35 #[.val (.long q0), .second, .val (.long q1), .second, .val (.long q2), .second, .val (.int p3), .val (.ref b1), .val (.ref b9), .unset, .unset, .unset, .unset, .unset, .unset, .unset, .unset, .unset, .unset, .unset, .unset, .unset, .unset, .unset] [(.ref b25)])) _
    refine XS.astore X37.here hx rfl (hb hby at_35) rfl rfl (l' := #[.val (.long q0), .second, .val (.long q1), .second, .val (.long q2), .second, .val (.int p3), .val (.ref b1), .val (.ref b9), .val (.ref b25), .unset, .unset, .unset, .unset, .unset, .unset, .unset, .unset, .unset, .unset, .unset, .unset, .unset, .unset]) rfl ?_
    show Steps p.tables e below (T37.setTop (mkF m 37 #[.val (.long q0), .second, .val (.long q1), .second, .val (.long q2), .second, .val (.int p3), .val (.ref b1), .val (.ref b9), .val (.ref b25), .unset, .unset, .unset, .unset, .unset, .unset, .unset, .unset, .unset, .unset, .unset, .unset, .unset, .unset] [])) _
    refine st49 _ ?_
    show Steps p.tables e below (T49.setTop (mkF m 40 #[.val (.long q0), .second, .val (.long q1), .second, .val (.long q2), .second, .val (.int p3), .val (.ref b1), .val (.ref b9), .val (.ref b25), .unset, .unset, .unset, .unset, .unset, .unset, .unset, .unset, .unset, .unset, .unset, .unset, .unset, .unset] [(.ref b49)])) _
    refine XS.dup X49.here hx rfl (hb hby at_40) rfl rfl ?_
    show Steps p.tables e below (T49.setTop (mkF m 41 #[.val (.long q0), .second, .val (.long q1), .second, .val (.long q2), .second, .val (.int p3), .val (.ref b1), .val (.ref b9), .val (.ref b25), .unset, .unset, .unset, .unset, .unset, .unset, .unset, .unset, .unset, .unset, .unset, .unset, .unset, .unset] [(.ref b49), (.ref b49)])) _
    refine XS.lconst X49.here hx rfl (hb hby at_41) ?_
    show Steps p.tables e below (T49.setTop (mkF m 42 #[.val (.long q0), .second, .val (.long q1), .second, .val (.long q2), .second, .val (.int p3), .val (.ref b1), .val (.ref b9), .val (.ref b25), .unset, .unset, .unset, .unset, .unset, .unset, .unset, .unset, .unset, .unset, .unset, .unset, .unset, .unset] [(.long (0 : Int64)), (.ref b49), (.ref b49)])) _
    refine XS.lconst X49.here hx rfl (hb hby at_42) ?_
    show Steps p.tables e below (T49.setTop (mkF m 43 #[.val (.long q0), .second, .val (.long q1), .second, .val (.long q2), .second, .val (.int p3), .val (.ref b1), .val (.ref b9), .val (.ref b25), .unset, .unset, .unset, .unset, .unset, .unset, .unset, .unset, .unset, .unset, .unset, .unset, .unset, .unset] [(.long (0 : Int64)), (.long (0 : Int64)), (.ref b49), (.ref b49)])) _
    refine XS.lload X49.here hx rfl (hb hby at_43) rfl ?_
    show Steps p.tables e below (T49.setTop (mkF m 45 #[.val (.long q0), .second, .val (.long q1), .second, .val (.long q2), .second, .val (.int p3), .val (.ref b1), .val (.ref b9), .val (.ref b25), .unset, .unset, .unset, .unset, .unset, .unset, .unset, .unset, .unset, .unset, .unset, .unset, .unset, .unset] [(.long q2), (.long (0 : Int64)), (.long (0 : Int64)), (.ref b49), (.ref b49)])) _
    refine st65.trans ?_
    show Steps p.tables e below (T65.setTop (mkF m 48 #[.val (.long q0), .second, .val (.long q1), .second, .val (.long q2), .second, .val (.int p3), .val (.ref b1), .val (.ref b9), .val (.ref b25), .unset, .unset, .unset, .unset, .unset, .unset, .unset, .unset, .unset, .unset, .unset, .unset, .unset, .unset] [(.ref b49)])) _
    refine XS.astore X65.here hx rfl (hb hby at_48) rfl rfl (l' := #[.val (.long q0), .second, .val (.long q1), .second, .val (.long q2), .second, .val (.int p3), .val (.ref b1), .val (.ref b9), .val (.ref b25), .val (.ref b49), .unset, .unset, .unset, .unset, .unset, .unset, .unset, .unset, .unset, .unset, .unset, .unset, .unset]) rfl ?_
    show Steps p.tables e below (T65.setTop (mkF m 50 #[.val (.long q0), .second, .val (.long q1), .second, .val (.long q2), .second, .val (.int p3), .val (.ref b1), .val (.ref b9), .val (.ref b25), .val (.ref b49), .unset, .unset, .unset, .unset, .unset, .unset, .unset, .unset, .unset, .unset, .unset, .unset, .unset] [])) _
    refine XS.iload X65.here hx rfl (hb hby at_50) rfl ?_
    show Steps p.tables e below (T65.setTop (mkF m 52 #[.val (.long q0), .second, .val (.long q1), .second, .val (.long q2), .second, .val (.int p3), .val (.ref b1), .val (.ref b9), .val (.ref b25), .val (.ref b49), .unset, .unset, .unset, .unset, .unset, .unset, .unset, .unset, .unset, .unset, .unset, .unset, .unset] [(.int p3)])) _
    refine X65.ldcInt hx hown (mvT hZ (hw _ (List.mem_of_getElem? (i := 20) rfl))) (g := (mkF m 52 #[.val (.long q0), .second, .val (.long q1), .second, .val (.long q2), .second, .val (.int p3), .val (.ref b1), .val (.ref b9), .val (.ref b25), .val (.ref b49), .unset, .unset, .unset, .unset, .unset, .unset, .unset, .unset, .unset, .unset, .unset, .unset, .unset] [(.int p3)])) rfl (hb hby at_52) _ ?_
    show Steps p.tables e below (T65.setTop (mkF m 54 #[.val (.long q0), .second, .val (.long q1), .second, .val (.long q2), .second, .val (.int p3), .val (.ref b1), .val (.ref b9), .val (.ref b25), .val (.ref b49), .unset, .unset, .unset, .unset, .unset, .unset, .unset, .unset, .unset, .unset, .unset, .unset, .unset] [(.int (2147483647 : Int32)), (.int p3)])) _
    refine XS.iand X65.here hx rfl (hb hby at_54) rfl ?_
    show Steps p.tables e below (T65.setTop (mkF m 55 #[.val (.long q0), .second, .val (.long q1), .second, .val (.long q2), .second, .val (.int p3), .val (.ref b1), .val (.ref b9), .val (.ref b25), .val (.ref b49), .unset, .unset, .unset, .unset, .unset, .unset, .unset, .unset, .unset, .unset, .unset, .unset, .unset] [(.int (p3 &&& (2147483647 : Int32)))])) _
    refine XS.iconst X65.here hx rfl (hb hby at_55) ?_
    show Steps p.tables e below (T65.setTop (mkF m 56 #[.val (.long q0), .second, .val (.long q1), .second, .val (.long q2), .second, .val (.int p3), .val (.ref b1), .val (.ref b9), .val (.ref b25), .val (.ref b49), .unset, .unset, .unset, .unset, .unset, .unset, .unset, .unset, .unset, .unset, .unset, .unset, .unset] [(.int (3 : Int32)), (.int (p3 &&& (2147483647 : Int32)))])) _
    refine Jvm.RoadKit.iremM (g := (mkF m 56 #[.val (.long q0), .second, .val (.long q1), .second, .val (.long q2), .second, .val (.int p3), .val (.ref b1), .val (.ref b9), .val (.ref b25), .val (.ref b49), .unset, .unset, .unset, .unset, .unset, .unset, .unset, .unset, .unset, .unset, .unset, .unset, .unset] [(.int (3 : Int32)), (.int (p3 &&& (2147483647 : Int32)))])) X65 hx rfl (hb hby at_56) rfl (by decide) ?_
    show Steps p.tables e below (T65.setTop (mkF m 57 #[.val (.long q0), .second, .val (.long q1), .second, .val (.long q2), .second, .val (.int p3), .val (.ref b1), .val (.ref b9), .val (.ref b25), .val (.ref b49), .unset, .unset, .unset, .unset, .unset, .unset, .unset, .unset, .unset, .unset, .unset, .unset, .unset] [(.int ((p3 &&& (2147483647 : Int32)) % (3 : Int32)))])) _
    refine XS.istore X65.here hx rfl (hb hby at_57) rfl (l' := #[.val (.long q0), .second, .val (.long q1), .second, .val (.long q2), .second, .val (.int p3), .val (.ref b1), .val (.ref b9), .val (.ref b25), .val (.ref b49), .val (.int ((p3 &&& (2147483647 : Int32)) % (3 : Int32))), .unset, .unset, .unset, .unset, .unset, .unset, .unset, .unset, .unset, .unset, .unset, .unset]) rfl ?_
    exact k)
  obtain ⟨wo, T82, L82, -, X82, e82, N82, pre82⟩ : ∃ (wo : Addr) (T82 : State) (L82 : List Loc), (True) ∧ Stand p l e room_1 s m #[(.long q0), (.long q1), (.long q2), (.int p3)] below meth c T82 L82 4 12 ∧ T82.heap = T65.heap ∧ Fr n0 L82 ∧ ∀ t, Steps p.tables e below (T82.setTop (mkF m 91 #[.val (.long q0), .second, .val (.long q1), .second, .val (.long q2), .second, .val (.int p3), .val (.ref b1), .val (.ref b9), .val (.ref b25), .val (.ref b49), .val (.int ((p3 &&& (2147483647 : Int32)) % (3 : Int32))), .val (.ref wo), .unset, .unset, .unset, .unset, .unset, .unset, .unset, .unset, .unset, .unset, .unset] [])) t → Steps p.tables e below (s₁.setTop (mkF m 0 #[.val (.long q0), .second, .val (.long q1), .second, .val (.long q2), .second, .val (.int p3), .unset, .unset, .unset, .unset, .unset, .unset, .unset, .unset, .unset, .unset, .unset, .unset, .unset, .unset, .unset, .unset, .unset] [])) t := by
    have pre84 : ∀ t, Steps p.tables e below (T65.setTop (mkF m 61 #[.val (.long q0), .second, .val (.long q1), .second, .val (.long q2), .second, .val (.int p3), .val (.ref b1), .val (.ref b9), .val (.ref b25), .val (.ref b49), .val (.int ((p3 &&& (2147483647 : Int32)) % (3 : Int32))), .unset, .unset, .unset, .unset, .unset, .unset, .unset, .unset, .unset, .unset, .unset, .unset] [(.int ((p3 &&& (2147483647 : Int32)) % (3 : Int32)))])) t → Steps p.tables e below (s₁.setTop (mkF m 0 #[.val (.long q0), .second, .val (.long q1), .second, .val (.long q2), .second, .val (.int p3), .unset, .unset, .unset, .unset, .unset, .unset, .unset, .unset, .unset, .unset, .unset, .unset, .unset, .unset, .unset, .unset, .unset] [])) t := fun t k => pre81 t (by
      show Steps p.tables e below (T65.setTop (mkF m 59 #[.val (.long q0), .second, .val (.long q1), .second, .val (.long q2), .second, .val (.int p3), .val (.ref b1), .val (.ref b9), .val (.ref b25), .val (.ref b49), .val (.int ((p3 &&& (2147483647 : Int32)) % (3 : Int32))), .unset, .unset, .unset, .unset, .unset, .unset, .unset, .unset, .unset, .unset, .unset, .unset] [])) _
      refine XS.iload X65.here hx rfl (hb hby at_59) rfl ?_
      exact k)
    by_cases hc83 : ((p3 &&& (2147483647 : Int32)) % (3 : Int32)) = (0 : Int32)
    · skip
      have ohc83 : ((p3 &&& (2147483647 : Int32)) % (3 : Int32)).toInt = 0 := own_eq.mp hc83
      obtain ⟨T85, X85, e85, st85⟩ := getS2 X65 hx hZ hown (host := "") (Or.inl (hw _ (List.mem_of_getElem? (i := 40) rfl))) Via.refl rfl c66 (g := (mkF m 64 #[.val (.long q0), .second, .val (.long q1), .second, .val (.long q2), .second, .val (.int p3), .val (.ref b1), .val (.ref b9), .val (.ref b25), .val (.ref b49), .val (.int ((p3 &&& (2147483647 : Int32)) % (3 : Int32))), .unset, .unset, .unset, .unset, .unset, .unset, .unset, .unset, .unset, .unset, .unset, .unset] [])) rfl (hb hby at_64)
      refine ⟨w_A, T85, _, ?_, X85, e85, N65, fun t k => pre84 t ?_⟩
      · trivial
      · skip
        show Steps p.tables e below (T65.setTop (mkF m 61 #[.val (.long q0), .second, .val (.long q1), .second, .val (.long q2), .second, .val (.int p3), .val (.ref b1), .val (.ref b9), .val (.ref b25), .val (.ref b49), .val (.int ((p3 &&& (2147483647 : Int32)) % (3 : Int32))), .unset, .unset, .unset, .unset, .unset, .unset, .unset, .unset, .unset, .unset, .unset, .unset] [(.int ((p3 &&& (2147483647 : Int32)) % (3 : Int32)))])) _
        refine XS.ifNo X65.here hx rfl (hb hby at_61) rfl ((if0 _ _).trans (teq hc83).2) ?_
        show Steps p.tables e below (T65.setTop (mkF m 64 #[.val (.long q0), .second, .val (.long q1), .second, .val (.long q2), .second, .val (.int p3), .val (.ref b1), .val (.ref b9), .val (.ref b25), .val (.ref b49), .val (.int ((p3 &&& (2147483647 : Int32)) % (3 : Int32))), .unset, .unset, .unset, .unset, .unset, .unset, .unset, .unset, .unset, .unset, .unset, .unset] [])) _
        refine st85 _ ?_
        show Steps p.tables e below (T85.setTop (mkF m 67 #[.val (.long q0), .second, .val (.long q1), .second, .val (.long q2), .second, .val (.int p3), .val (.ref b1), .val (.ref b9), .val (.ref b25), .val (.ref b49), .val (.int ((p3 &&& (2147483647 : Int32)) % (3 : Int32))), .unset, .unset, .unset, .unset, .unset, .unset, .unset, .unset, .unset, .unset, .unset, .unset] [(.ref w_A)])) _
        refine XS.astore X85.here hx rfl (hb hby at_67) rfl rfl (l' := #[.val (.long q0), .second, .val (.long q1), .second, .val (.long q2), .second, .val (.int p3), .val (.ref b1), .val (.ref b9), .val (.ref b25), .val (.ref b49), .val (.int ((p3 &&& (2147483647 : Int32)) % (3 : Int32))), .val (.ref w_A), .unset, .unset, .unset, .unset, .unset, .unset, .unset, .unset, .unset, .unset, .unset]) rfl ?_
        show Steps p.tables e below (T85.setTop (mkF m 69 #[.val (.long q0), .second, .val (.long q1), .second, .val (.long q2), .second, .val (.int p3), .val (.ref b1), .val (.ref b9), .val (.ref b25), .val (.ref b49), .val (.int ((p3 &&& (2147483647 : Int32)) % (3 : Int32))), .val (.ref w_A), .unset, .unset, .unset, .unset, .unset, .unset, .unset, .unset, .unset, .unset, .unset] [])) _
        refine XS.goto X85.here hx rfl (pc0 := 69) (pc' := 91) rfl (hb hby at_69) (by decide) (by decide) ?_
        exact k
    · skip
      have ohc83 : ¬ (((p3 &&& (2147483647 : Int32)) % (3 : Int32)).toInt = 0) := own_neq.mp hc83
      have pre87 : ∀ t, Steps p.tables e below (T65.setTop (mkF m 75 #[.val (.long q0), .second, .val (.long q1), .second, .val (.long q2), .second, .val (.int p3), .val (.ref b1), .val (.ref b9), .val (.ref b25), .val (.ref b49), .val (.int ((p3 &&& (2147483647 : Int32)) % (3 : Int32))), .unset, .unset, .unset, .unset, .unset, .unset, .unset, .unset, .unset, .unset, .unset, .unset] [(.int (1 : Int32)), (.int ((p3 &&& (2147483647 : Int32)) % (3 : Int32)))])) t → Steps p.tables e below (s₁.setTop (mkF m 0 #[.val (.long q0), .second, .val (.long q1), .second, .val (.long q2), .second, .val (.int p3), .unset, .unset, .unset, .unset, .unset, .unset, .unset, .unset, .unset, .unset, .unset, .unset, .unset, .unset, .unset, .unset, .unset] [])) t := fun t k => pre84 t (by
        show Steps p.tables e below (T65.setTop (mkF m 61 #[.val (.long q0), .second, .val (.long q1), .second, .val (.long q2), .second, .val (.int p3), .val (.ref b1), .val (.ref b9), .val (.ref b25), .val (.ref b49), .val (.int ((p3 &&& (2147483647 : Int32)) % (3 : Int32))), .unset, .unset, .unset, .unset, .unset, .unset, .unset, .unset, .unset, .unset, .unset, .unset] [(.int ((p3 &&& (2147483647 : Int32)) % (3 : Int32)))])) _
        refine XS.ifYes X65.here hx rfl (pc0 := 61) (pc' := 72) rfl (hb hby at_61) rfl ((if0 _ _).trans (feq hc83).2) (by decide) (by decide) ?_
        show Steps p.tables e below (T65.setTop (mkF m 72 #[.val (.long q0), .second, .val (.long q1), .second, .val (.long q2), .second, .val (.int p3), .val (.ref b1), .val (.ref b9), .val (.ref b25), .val (.ref b49), .val (.int ((p3 &&& (2147483647 : Int32)) % (3 : Int32))), .unset, .unset, .unset, .unset, .unset, .unset, .unset, .unset, .unset, .unset, .unset, .unset] [])) _
        refine XS.iload X65.here hx rfl (hb hby at_72) rfl ?_
        show Steps p.tables e below (T65.setTop (mkF m 74 #[.val (.long q0), .second, .val (.long q1), .second, .val (.long q2), .second, .val (.int p3), .val (.ref b1), .val (.ref b9), .val (.ref b25), .val (.ref b49), .val (.int ((p3 &&& (2147483647 : Int32)) % (3 : Int32))), .unset, .unset, .unset, .unset, .unset, .unset, .unset, .unset, .unset, .unset, .unset, .unset] [(.int ((p3 &&& (2147483647 : Int32)) % (3 : Int32)))])) _
        refine XS.iconst X65.here hx rfl (hb hby at_74) ?_
        exact k)
      by_cases hc86 : ((p3 &&& (2147483647 : Int32)) % (3 : Int32)) = (1 : Int32)
      · skip
        have ohc86 : ((p3 &&& (2147483647 : Int32)) % (3 : Int32)).toInt = 1 := own_eq.mp hc86
        obtain ⟨T88, X88, e88, st88⟩ := getS2 X65 hx hZ hown (host := "") (Or.inl (hw _ (List.mem_of_getElem? (i := 41) rfl))) Via.refl rfl c67 (g := (mkF m 78 #[.val (.long q0), .second, .val (.long q1), .second, .val (.long q2), .second, .val (.int p3), .val (.ref b1), .val (.ref b9), .val (.ref b25), .val (.ref b49), .val (.int ((p3 &&& (2147483647 : Int32)) % (3 : Int32))), .unset, .unset, .unset, .unset, .unset, .unset, .unset, .unset, .unset, .unset, .unset, .unset] [])) rfl (hb hby at_78)
        refine ⟨w_S, T88, _, ?_, X88, e88, N65, fun t k => pre87 t ?_⟩
        · trivial
        · skip
          show Steps p.tables e below (T65.setTop (mkF m 75 #[.val (.long q0), .second, .val (.long q1), .second, .val (.long q2), .second, .val (.int p3), .val (.ref b1), .val (.ref b9), .val (.ref b25), .val (.ref b49), .val (.int ((p3 &&& (2147483647 : Int32)) % (3 : Int32))), .unset, .unset, .unset, .unset, .unset, .unset, .unset, .unset, .unset, .unset, .unset, .unset] [(.int (1 : Int32)), (.int ((p3 &&& (2147483647 : Int32)) % (3 : Int32)))])) _
          refine XS.icmpNo X65.here hx rfl (hb hby at_75) rfl (teq hc86).2 ?_
          show Steps p.tables e below (T65.setTop (mkF m 78 #[.val (.long q0), .second, .val (.long q1), .second, .val (.long q2), .second, .val (.int p3), .val (.ref b1), .val (.ref b9), .val (.ref b25), .val (.ref b49), .val (.int ((p3 &&& (2147483647 : Int32)) % (3 : Int32))), .unset, .unset, .unset, .unset, .unset, .unset, .unset, .unset, .unset, .unset, .unset, .unset] [])) _
          refine st88 _ ?_
          show Steps p.tables e below (T88.setTop (mkF m 81 #[.val (.long q0), .second, .val (.long q1), .second, .val (.long q2), .second, .val (.int p3), .val (.ref b1), .val (.ref b9), .val (.ref b25), .val (.ref b49), .val (.int ((p3 &&& (2147483647 : Int32)) % (3 : Int32))), .unset, .unset, .unset, .unset, .unset, .unset, .unset, .unset, .unset, .unset, .unset, .unset] [(.ref w_S)])) _
          refine XS.astore X88.here hx rfl (hb hby at_81) rfl rfl (l' := #[.val (.long q0), .second, .val (.long q1), .second, .val (.long q2), .second, .val (.int p3), .val (.ref b1), .val (.ref b9), .val (.ref b25), .val (.ref b49), .val (.int ((p3 &&& (2147483647 : Int32)) % (3 : Int32))), .val (.ref w_S), .unset, .unset, .unset, .unset, .unset, .unset, .unset, .unset, .unset, .unset, .unset]) rfl ?_
          show Steps p.tables e below (T88.setTop (mkF m 83 #[.val (.long q0), .second, .val (.long q1), .second, .val (.long q2), .second, .val (.int p3), .val (.ref b1), .val (.ref b9), .val (.ref b25), .val (.ref b49), .val (.int ((p3 &&& (2147483647 : Int32)) % (3 : Int32))), .val (.ref w_S), .unset, .unset, .unset, .unset, .unset, .unset, .unset, .unset, .unset, .unset, .unset] [])) _
          refine XS.goto X88.here hx rfl (pc0 := 83) (pc' := 91) rfl (hb hby at_83) (by decide) (by decide) ?_
          exact k
      · skip
        have ohc86 : ¬ (((p3 &&& (2147483647 : Int32)) % (3 : Int32)).toInt = 1) := own_neq.mp hc86
        obtain ⟨T89, X89, e89, st89⟩ := getS2 X65 hx hZ hown (host := "") (Or.inl (hw _ (List.mem_of_getElem? (i := 21) rfl))) Via.refl rfl c68 (g := (mkF m 86 #[.val (.long q0), .second, .val (.long q1), .second, .val (.long q2), .second, .val (.int p3), .val (.ref b1), .val (.ref b9), .val (.ref b25), .val (.ref b49), .val (.int ((p3 &&& (2147483647 : Int32)) % (3 : Int32))), .unset, .unset, .unset, .unset, .unset, .unset, .unset, .unset, .unset, .unset, .unset, .unset] [])) rfl (hb hby at_86)
        refine ⟨w_P, T89, _, ?_, X89, e89, N65, fun t k => pre87 t ?_⟩
        · trivial
        · skip
          show Steps p.tables e below (T65.setTop (mkF m 75 #[.val (.long q0), .second, .val (.long q1), .second, .val (.long q2), .second, .val (.int p3), .val (.ref b1), .val (.ref b9), .val (.ref b25), .val (.ref b49), .val (.int ((p3 &&& (2147483647 : Int32)) % (3 : Int32))), .unset, .unset, .unset, .unset, .unset, .unset, .unset, .unset, .unset, .unset, .unset, .unset] [(.int (1 : Int32)), (.int ((p3 &&& (2147483647 : Int32)) % (3 : Int32)))])) _
          refine XS.icmpYes X65.here hx rfl (pc0 := 75) (pc' := 86) rfl (hb hby at_75) rfl (feq hc86).2 (by decide) (by decide) ?_
          show Steps p.tables e below (T65.setTop (mkF m 86 #[.val (.long q0), .second, .val (.long q1), .second, .val (.long q2), .second, .val (.int p3), .val (.ref b1), .val (.ref b9), .val (.ref b25), .val (.ref b49), .val (.int ((p3 &&& (2147483647 : Int32)) % (3 : Int32))), .unset, .unset, .unset, .unset, .unset, .unset, .unset, .unset, .unset, .unset, .unset, .unset] [])) _
          refine st89 _ ?_
          show Steps p.tables e below (T89.setTop (mkF m 89 #[.val (.long q0), .second, .val (.long q1), .second, .val (.long q2), .second, .val (.int p3), .val (.ref b1), .val (.ref b9), .val (.ref b25), .val (.ref b49), .val (.int ((p3 &&& (2147483647 : Int32)) % (3 : Int32))), .unset, .unset, .unset, .unset, .unset, .unset, .unset, .unset, .unset, .unset, .unset, .unset] [(.ref w_P)])) _
          refine XS.astore X89.here hx rfl (hb hby at_89) rfl rfl (l' := #[.val (.long q0), .second, .val (.long q1), .second, .val (.long q2), .second, .val (.int p3), .val (.ref b1), .val (.ref b9), .val (.ref b25), .val (.ref b49), .val (.int ((p3 &&& (2147483647 : Int32)) % (3 : Int32))), .val (.ref w_P), .unset, .unset, .unset, .unset, .unset, .unset, .unset, .unset, .unset, .unset, .unset]) rfl ?_
          exact k
  obtain ⟨cq90, kq90, q90a, q90b, q90c⟩ := isOf hZ e82 c69
  obtain ⟨_, _, ⟨T90, L90, k90, n90⟩, -, X90, ⟨Lc90, hQ90, l90, y90, z90⟩, st90⟩ := X82.virtualBack hx (y := (⟨"com/example/fresh_index/freshindex/engine/EventCounts", "events", "()J"⟩ : MethodName)) (z := (⟨"com/example/fresh_index/freshindex/engine/EventCounts", "events", "()J"⟩ : MethodName)) hown (mvT hZ (hw _ (List.mem_of_getElem? (i := 24) rfl))) (mvT hZ (hw _ (List.mem_of_getElem? (i := 25) rfl))) (notFace_of_selects (args := #[]) (mvT hZ (hw _ (List.mem_of_getElem? (i := 27) rfl)))) (mvT hZ (hw _ (List.mem_of_getElem? (i := 27) rfl))) (mvT hZ (hw _ (List.mem_of_getElem? (i := 26) rfl))) (by decide) (backOf (W := 0) (rm4 l Z a0 hw [] b1 q0 q1 q2 T65.heap n0 Z65 c70 c71 c72) hZ (hw _ (List.mem_of_getElem? (i := 28) rfl)) (hw _ (List.mem_of_getElem? (i := 2) rfl)) (by decide) (by decide)) q90a q90c (g := (mkF m 93 #[.val (.long q0), .second, .val (.long q1), .second, .val (.long q2), .second, .val (.int p3), .val (.ref b1), .val (.ref b9), .val (.ref b25), .val (.ref b49), .val (.int ((p3 &&& (2147483647 : Int32)) % (3 : Int32))), .val (.ref wo), .unset, .unset, .unset, .unset, .unset, .unset, .unset, .unset, .unset, .unset, .unset] [(.ref b1)])) rfl (by rw [hml]; rfl) (Steps.refl _) (argsL := []) (rest := []) (lenOf pd_2 rfl) rfl (by show 2 * 0 + _ ≤ _; exact Nat.le_of_eq rfl) (hb hby at_93) (fun _ _ => ⟨rfl, e82, (by decide : 4 + 0 ≤ _), (by decide : 12 + 0 ≤ _)⟩)
  dsimp only [Pt.U, Pt.locs, Pt.cells, Pt.slots] at X90 l90 y90 z90 st90 hQ90
  subst l90 y90 z90
  obtain ⟨rfl, Nq90, e90⟩ := hQ90
  have N90 := Fr.app N82 Nq90
  obtain ⟨cq91, kq91, q91a, q91b, q91c⟩ := isOf hZ e90 c73
  obtain ⟨_, _, ⟨T91, L91, k91, n91⟩, -, X91, ⟨Lc91, hQ91, l91, y91, z91⟩, st91⟩ := X90.virtualBack hx (y := (⟨"com/example/fresh_index/freshindex/engine/EventCounts", "events", "()J"⟩ : MethodName)) (z := (⟨"com/example/fresh_index/freshindex/engine/EventCounts", "events", "()J"⟩ : MethodName)) hown (mvT hZ (hw _ (List.mem_of_getElem? (i := 24) rfl))) (mvT hZ (hw _ (List.mem_of_getElem? (i := 25) rfl))) (notFace_of_selects (args := #[]) (mvT hZ (hw _ (List.mem_of_getElem? (i := 27) rfl)))) (mvT hZ (hw _ (List.mem_of_getElem? (i := 27) rfl))) (mvT hZ (hw _ (List.mem_of_getElem? (i := 26) rfl))) (by decide) (backOf (W := 0) (rm4 l Z a0 hw [] b9 q0 (0 : Int64) (0 : Int64) T65.heap n0 Z65 c74 c75 c76) hZ (hw _ (List.mem_of_getElem? (i := 28) rfl)) (hw _ (List.mem_of_getElem? (i := 2) rfl)) (by decide) (by decide)) q91a q91c (g := (mkF m 100 #[.val (.long q0), .second, .val (.long q1), .second, .val (.long q2), .second, .val (.int p3), .val (.ref b1), .val (.ref b9), .val (.ref b25), .val (.ref b49), .val (.int ((p3 &&& (2147483647 : Int32)) % (3 : Int32))), .val (.ref wo), .val (.long ((q0 + q1) + q2)), .second, .unset, .unset, .unset, .unset, .unset, .unset, .unset, .unset, .unset] [(.ref b9)])) rfl (by rw [hml]; rfl) (Steps.refl _) (argsL := []) (rest := []) (lenOf pd_2 rfl) rfl (by show 2 * 0 + _ ≤ _; exact Nat.le_of_eq rfl) (hb hby at_100) (fun _ _ => ⟨rfl, e90, (by decide : 4 + 0 ≤ _), (by decide : 12 + 0 ≤ _)⟩)
  dsimp only [Pt.U, Pt.locs, Pt.cells, Pt.slots] at X91 l91 y91 z91 st91 hQ91
  subst l91 y91 z91
  obtain ⟨rfl, Nq91, e91⟩ := hQ91
  have N91 := Fr.app N90 Nq91
  obtain ⟨cq92, kq92, q92a, q92b, q92c⟩ := isOf hZ e91 c77
  obtain ⟨_, _, ⟨T92, L92, k92, n92⟩, -, X92, ⟨Lc92, hQ92, l92, y92, z92⟩, st92⟩ := X91.virtualBack hx (y := (⟨"com/example/fresh_index/freshindex/engine/EventCounts", "events", "()J"⟩ : MethodName)) (z := (⟨"com/example/fresh_index/freshindex/engine/EventCounts", "events", "()J"⟩ : MethodName)) hown (mvT hZ (hw _ (List.mem_of_getElem? (i := 24) rfl))) (mvT hZ (hw _ (List.mem_of_getElem? (i := 25) rfl))) (notFace_of_selects (args := #[]) (mvT hZ (hw _ (List.mem_of_getElem? (i := 27) rfl)))) (mvT hZ (hw _ (List.mem_of_getElem? (i := 27) rfl))) (mvT hZ (hw _ (List.mem_of_getElem? (i := 26) rfl))) (by decide) (backOf (W := 0) (rm4 l Z a0 hw [] b25 (0 : Int64) q1 (0 : Int64) T65.heap n0 Z65 c78 c79 c80) hZ (hw _ (List.mem_of_getElem? (i := 28) rfl)) (hw _ (List.mem_of_getElem? (i := 2) rfl)) (by decide) (by decide)) q92a q92c (g := (mkF m 107 #[.val (.long q0), .second, .val (.long q1), .second, .val (.long q2), .second, .val (.int p3), .val (.ref b1), .val (.ref b9), .val (.ref b25), .val (.ref b49), .val (.int ((p3 &&& (2147483647 : Int32)) % (3 : Int32))), .val (.ref wo), .val (.long ((q0 + q1) + q2)), .second, .val (.long ((q0 + (0 : Int64)) + (0 : Int64))), .second, .unset, .unset, .unset, .unset, .unset, .unset, .unset] [(.ref b25)])) rfl (by rw [hml]; rfl) (Steps.refl _) (argsL := []) (rest := []) (lenOf pd_2 rfl) rfl (by show 2 * 0 + _ ≤ _; exact Nat.le_of_eq rfl) (hb hby at_107) (fun _ _ => ⟨rfl, e91, (by decide : 4 + 0 ≤ _), (by decide : 12 + 0 ≤ _)⟩)
  dsimp only [Pt.U, Pt.locs, Pt.cells, Pt.slots] at X92 l92 y92 z92 st92 hQ92
  subst l92 y92 z92
  obtain ⟨rfl, Nq92, e92⟩ := hQ92
  have N92 := Fr.app N91 Nq92
  obtain ⟨cq93, kq93, q93a, q93b, q93c⟩ := isOf hZ e92 Eq65
  obtain ⟨_, _, ⟨T93, L93, k93, n93⟩, -, X93, ⟨Lc93, hQ93, l93, y93, z93⟩, st93⟩ := X92.virtualBack hx (y := (⟨"com/example/fresh_index/freshindex/engine/EventCounts", "events", "()J"⟩ : MethodName)) (z := (⟨"com/example/fresh_index/freshindex/engine/EventCounts", "events", "()J"⟩ : MethodName)) hown (mvT hZ (hw _ (List.mem_of_getElem? (i := 24) rfl))) (mvT hZ (hw _ (List.mem_of_getElem? (i := 25) rfl))) (notFace_of_selects (args := #[]) (mvT hZ (hw _ (List.mem_of_getElem? (i := 27) rfl)))) (mvT hZ (hw _ (List.mem_of_getElem? (i := 27) rfl))) (mvT hZ (hw _ (List.mem_of_getElem? (i := 26) rfl))) (by decide) (backOf (W := 0) (rm4 l Z a0 hw [] b49 (0 : Int64) (0 : Int64) q2 T65.heap n0 Z65 Fq65_0 Fq65_1 Fq65_2) hZ (hw _ (List.mem_of_getElem? (i := 28) rfl)) (hw _ (List.mem_of_getElem? (i := 2) rfl)) (by decide) (by decide)) q93a q93c (g := (mkF m 114 #[.val (.long q0), .second, .val (.long q1), .second, .val (.long q2), .second, .val (.int p3), .val (.ref b1), .val (.ref b9), .val (.ref b25), .val (.ref b49), .val (.int ((p3 &&& (2147483647 : Int32)) % (3 : Int32))), .val (.ref wo), .val (.long ((q0 + q1) + q2)), .second, .val (.long ((q0 + (0 : Int64)) + (0 : Int64))), .second, .val (.long (((0 : Int64) + q1) + (0 : Int64))), .second, .unset, .unset, .unset, .unset, .unset] [(.ref b49)])) rfl (by rw [hml]; rfl) (Steps.refl _) (argsL := []) (rest := []) (lenOf pd_2 rfl) rfl (by show 2 * 0 + _ ≤ _; exact Nat.le_of_eq rfl) (hb hby at_114) (fun _ _ => ⟨rfl, e92, (by decide : 4 + 0 ≤ _), (by decide : 12 + 0 ≤ _)⟩)
  dsimp only [Pt.U, Pt.locs, Pt.cells, Pt.slots] at X93 l93 y93 z93 st93 hQ93
  subst l93 y93 z93
  obtain ⟨rfl, Nq93, e93⟩ := hQ93
  have N93 := Fr.app N92 Nq93
  have hc94 : (lcmpW ((q0 + (0 : Int64)) + (0 : Int64)) q0) = (0 : Int32) := (lw_eq _ _).mpr (by simp)
  have ohc94 : (lcmpW ((q0 + (0 : Int64)) + (0 : Int64)) q0).toInt = 0 := own_eq.mp hc94
  have hc95 : (lcmpW (((0 : Int64) + q1) + (0 : Int64)) q1) = (0 : Int32) := (lw_eq _ _).mpr (by simp)
  have ohc95 : (lcmpW (((0 : Int64) + q1) + (0 : Int64)) q1).toInt = 0 := own_eq.mp hc95
  have hc96 : (lcmpW (((0 : Int64) + (0 : Int64)) + q2) q2) = (0 : Int32) := (lw_eq _ _).mpr (by simp)
  have ohc96 : (lcmpW (((0 : Int64) + (0 : Int64)) + q2) q2).toInt = 0 := own_eq.mp hc96
  have hc97 : (lcmpW ((q0 + q1) + q2) ((((q0 + (0 : Int64)) + (0 : Int64)) + (((0 : Int64) + q1) + (0 : Int64))) + (((0 : Int64) + (0 : Int64)) + q2))) = (0 : Int32) := (lw_eq _ _).mpr (by simp)
  have ohc97 : (lcmpW ((q0 + q1) + q2) ((((q0 + (0 : Int64)) + (0 : Int64)) + (((0 : Int64) + q1) + (0 : Int64))) + (((0 : Int64) + (0 : Int64)) + q2))).toInt = 0 := own_eq.mp hc97
  obtain ⟨cq98, kq98, q98a, q98b, q98c⟩ := isOf hZ e93 c69
  obtain ⟨_, _, ⟨T98, L98, k98, n98⟩, -, X98, ⟨Lc98, hQ98, l98, y98, z98⟩, st98⟩ := X93.virtualBack hx (y := (⟨"com/example/fresh_index/freshindex/engine/EventCounts", "plus", "(Lcom/example/fresh_index/freshindex/engine/EventCounts$Outcome;)Lcom/example/fresh_index/freshindex/engine/EventCounts;"⟩ : MethodName)) (z := (⟨"com/example/fresh_index/freshindex/engine/EventCounts", "plus", "(Lcom/example/fresh_index/freshindex/engine/EventCounts$Outcome;)Lcom/example/fresh_index/freshindex/engine/EventCounts;"⟩ : MethodName)) hown (mvT hZ (hw _ (List.mem_of_getElem? (i := 29) rfl))) (mvT hZ (hw _ (List.mem_of_getElem? (i := 30) rfl))) (notFace_of_selects (args := #[]) (mvT hZ (hw _ (List.mem_of_getElem? (i := 32) rfl)))) (mvT hZ (hw _ (List.mem_of_getElem? (i := 32) rfl))) (mvT hZ (hw _ (List.mem_of_getElem? (i := 31) rfl))) (by decide) (backOf (W := 0) (rm5 l Z a0 hw [] b1 wo w_A w_S q0 q1 q2 T65.heap n0 Z65 c66 c67 c69 c70 c71 c72) hZ (hw _ (List.mem_of_getElem? (i := 33) rfl)) (hw _ (List.mem_of_getElem? (i := 2) rfl)) (by decide) (by decide)) q98a q98c (g := (mkF m 173 #[.val (.long q0), .second, .val (.long q1), .second, .val (.long q2), .second, .val (.int p3), .val (.ref b1), .val (.ref b9), .val (.ref b25), .val (.ref b49), .val (.int ((p3 &&& (2147483647 : Int32)) % (3 : Int32))), .val (.ref wo), .val (.long ((q0 + q1) + q2)), .second, .val (.long ((q0 + (0 : Int64)) + (0 : Int64))), .second, .val (.long (((0 : Int64) + q1) + (0 : Int64))), .second, .val (.long (((0 : Int64) + (0 : Int64)) + q2)), .second, .val (.int (1 : Int32)), .val (.int (1 : Int32)), .unset] [(.ref wo), (.ref b1)])) rfl (by rw [hml]; rfl) (Steps.refl _) (argsL := [(.ref wo)]) (rest := []) (lenOf pd_3 rfl) rfl (by show 2 * 0 + _ ≤ _; exact Nat.le_of_eq rfl) (hb hby at_173) (fun _ _ => ⟨rfl, e93, (by decide : 4 + 1 ≤ _), (by decide : 12 + 3 ≤ _)⟩)
  dsimp only [Pt.U, Pt.locs, Pt.cells, Pt.slots] at X98 l98 y98 z98 st98 hQ98
  subst l98 y98 z98
  obtain ⟨b98, x98, y98', z98', rfl, Nq98, Kq98, Eq98, Fq98_0, Fq98_1, Fq98_2, hsum98⟩ := hQ98
  have N98 := Fr.app N93 Nq98
  have Z98 : n0 ≤ T98.heap.size := Nat.le_trans Z65 Kq98.1
  obtain ⟨cq99, kq99, q99a, q99b, q99c⟩ := isOf hZ rfl Eq98
  obtain ⟨_, _, ⟨T99, L99, k99, n99⟩, -, X99, ⟨Lc99, hQ99, l99, y99, z99⟩, st99⟩ := X98.virtualBack hx (y := (⟨"com/example/fresh_index/freshindex/engine/EventCounts", "events", "()J"⟩ : MethodName)) (z := (⟨"com/example/fresh_index/freshindex/engine/EventCounts", "events", "()J"⟩ : MethodName)) hown (mvT hZ (hw _ (List.mem_of_getElem? (i := 24) rfl))) (mvT hZ (hw _ (List.mem_of_getElem? (i := 25) rfl))) (notFace_of_selects (args := #[]) (mvT hZ (hw _ (List.mem_of_getElem? (i := 27) rfl)))) (mvT hZ (hw _ (List.mem_of_getElem? (i := 27) rfl))) (mvT hZ (hw _ (List.mem_of_getElem? (i := 26) rfl))) (by decide) (backOf (W := 0) (rm4 l Z a0 hw [] b98 x98 y98' z98' T98.heap n0 Z98 Fq98_0 Fq98_1 Fq98_2) hZ (hw _ (List.mem_of_getElem? (i := 28) rfl)) (hw _ (List.mem_of_getElem? (i := 2) rfl)) (by decide) (by decide)) q99a q99c (g := (mkF m 176 #[.val (.long q0), .second, .val (.long q1), .second, .val (.long q2), .second, .val (.int p3), .val (.ref b1), .val (.ref b9), .val (.ref b25), .val (.ref b49), .val (.int ((p3 &&& (2147483647 : Int32)) % (3 : Int32))), .val (.ref wo), .val (.long ((q0 + q1) + q2)), .second, .val (.long ((q0 + (0 : Int64)) + (0 : Int64))), .second, .val (.long (((0 : Int64) + q1) + (0 : Int64))), .second, .val (.long (((0 : Int64) + (0 : Int64)) + q2)), .second, .val (.int (1 : Int32)), .val (.int (1 : Int32)), .unset] [(.ref b98)])) rfl (by rw [hml]; rfl) (Steps.refl _) (argsL := []) (rest := []) (lenOf pd_2 rfl) rfl (by show 2 * 0 + _ ≤ _; exact Nat.le_of_eq rfl) (hb hby at_176) (fun _ _ => ⟨rfl, rfl, (by decide : 5 + 0 ≤ _), (by decide : 15 + 0 ≤ _)⟩)
  dsimp only [Pt.U, Pt.locs, Pt.cells, Pt.slots] at X99 l99 y99 z99 st99 hQ99
  subst l99 y99 z99
  obtain ⟨rfl, Nq99, e99⟩ := hQ99
  have N99 := Fr.app N98 Nq99
  have hc100 : (lcmpW ((x98 + y98') + z98') (((q0 + q1) + q2) + (1 : Int64))) = (0 : Int32) := (lw_eq _ _).mpr hsum98
  have ohc100 : (lcmpW ((x98 + y98') + z98') (((q0 + q1) + q2) + (1 : Int64))).toInt = 0 := own_eq.mp hc100
  have hc101 : ¬ ((1 : Int32) = (0 : Int32)) := by decide
  have hc102 : ¬ ((1 : Int32) = (0 : Int32)) := by decide
  have hc103 : ¬ ((1 : Int32) = (0 : Int32)) := by decide
  obtain ⟨fs, hr, hrun, hended, hW, hsame⟩ := X99.leave (v := some (.int (1 : Int32))) (fun h => by rw [Bd.returns] at h; cases h)
  refine ⟨_, _, pre0 _ (pre82 _ ?_), hrun, hended, _, _, rfl, ?_, ⟨_, rfl⟩, hW, hsame.mono (by decide) (by decide)⟩
  · skip
    show Steps p.tables e below (T82.setTop (mkF m 91 #[.val (.long q0), .second, .val (.long q1), .second, .val (.long q2), .second, .val (.int p3), .val (.ref b1), .val (.ref b9), .val (.ref b25), .val (.ref b49), .val (.int ((p3 &&& (2147483647 : Int32)) % (3 : Int32))), .val (.ref wo), .unset, .unset, .unset, .unset, .unset, .unset, .unset, .unset, .unset, .unset, .unset] [])) _
    refine XS.aload X82.here hx rfl (hb hby at_91) rfl rfl ?_
    show Steps p.tables e below (T82.setTop (mkF m 93 #[.val (.long q0), .second, .val (.long q1), .second, .val (.long q2), .second, .val (.int p3), .val (.ref b1), .val (.ref b9), .val (.ref b25), .val (.ref b49), .val (.int ((p3 &&& (2147483647 : Int32)) % (3 : Int32))), .val (.ref wo), .unset, .unset, .unset, .unset, .unset, .unset, .unset, .unset, .unset, .unset, .unset] [(.ref b1)])) _
    refine st90.trans ?_
    show Steps p.tables e below (T90.setTop (mkF m 96 #[.val (.long q0), .second, .val (.long q1), .second, .val (.long q2), .second, .val (.int p3), .val (.ref b1), .val (.ref b9), .val (.ref b25), .val (.ref b49), .val (.int ((p3 &&& (2147483647 : Int32)) % (3 : Int32))), .val (.ref wo), .unset, .unset, .unset, .unset, .unset, .unset, .unset, .unset, .unset, .unset, .unset] [(.long ((q0 + q1) + q2))])) _
    refine XS.lstore X90.here hx rfl (hb hby at_96) rfl (l' := #[.val (.long q0), .second, .val (.long q1), .second, .val (.long q2), .second, .val (.int p3), .val (.ref b1), .val (.ref b9), .val (.ref b25), .val (.ref b49), .val (.int ((p3 &&& (2147483647 : Int32)) % (3 : Int32))), .val (.ref wo), .val (.long ((q0 + q1) + q2)), .second, .unset, .unset, .unset, .unset, .unset, .unset, .unset, .unset, .unset]) rfl ?_
    show Steps p.tables e below (T90.setTop (mkF m 98 #[.val (.long q0), .second, .val (.long q1), .second, .val (.long q2), .second, .val (.int p3), .val (.ref b1), .val (.ref b9), .val (.ref b25), .val (.ref b49), .val (.int ((p3 &&& (2147483647 : Int32)) % (3 : Int32))), .val (.ref wo), .val (.long ((q0 + q1) + q2)), .second, .unset, .unset, .unset, .unset, .unset, .unset, .unset, .unset, .unset] [])) _
    refine XS.aload X90.here hx rfl (hb hby at_98) rfl rfl ?_
    show Steps p.tables e below (T90.setTop (mkF m 100 #[.val (.long q0), .second, .val (.long q1), .second, .val (.long q2), .second, .val (.int p3), .val (.ref b1), .val (.ref b9), .val (.ref b25), .val (.ref b49), .val (.int ((p3 &&& (2147483647 : Int32)) % (3 : Int32))), .val (.ref wo), .val (.long ((q0 + q1) + q2)), .second, .unset, .unset, .unset, .unset, .unset, .unset, .unset, .unset, .unset] [(.ref b9)])) _
    refine st91.trans ?_
    show Steps p.tables e below (T91.setTop (mkF m 103 #[.val (.long q0), .second, .val (.long q1), .second, .val (.long q2), .second, .val (.int p3), .val (.ref b1), .val (.ref b9), .val (.ref b25), .val (.ref b49), .val (.int ((p3 &&& (2147483647 : Int32)) % (3 : Int32))), .val (.ref wo), .val (.long ((q0 + q1) + q2)), .second, .unset, .unset, .unset, .unset, .unset, .unset, .unset, .unset, .unset] [(.long ((q0 + (0 : Int64)) + (0 : Int64)))])) _
    refine XS.lstore X91.here hx rfl (hb hby at_103) rfl (l' := #[.val (.long q0), .second, .val (.long q1), .second, .val (.long q2), .second, .val (.int p3), .val (.ref b1), .val (.ref b9), .val (.ref b25), .val (.ref b49), .val (.int ((p3 &&& (2147483647 : Int32)) % (3 : Int32))), .val (.ref wo), .val (.long ((q0 + q1) + q2)), .second, .val (.long ((q0 + (0 : Int64)) + (0 : Int64))), .second, .unset, .unset, .unset, .unset, .unset, .unset, .unset]) rfl ?_
    show Steps p.tables e below (T91.setTop (mkF m 105 #[.val (.long q0), .second, .val (.long q1), .second, .val (.long q2), .second, .val (.int p3), .val (.ref b1), .val (.ref b9), .val (.ref b25), .val (.ref b49), .val (.int ((p3 &&& (2147483647 : Int32)) % (3 : Int32))), .val (.ref wo), .val (.long ((q0 + q1) + q2)), .second, .val (.long ((q0 + (0 : Int64)) + (0 : Int64))), .second, .unset, .unset, .unset, .unset, .unset, .unset, .unset] [])) _
    refine XS.aload X91.here hx rfl (hb hby at_105) rfl rfl ?_
    show Steps p.tables e below (T91.setTop (mkF m 107 #[.val (.long q0), .second, .val (.long q1), .second, .val (.long q2), .second, .val (.int p3), .val (.ref b1), .val (.ref b9), .val (.ref b25), .val (.ref b49), .val (.int ((p3 &&& (2147483647 : Int32)) % (3 : Int32))), .val (.ref wo), .val (.long ((q0 + q1) + q2)), .second, .val (.long ((q0 + (0 : Int64)) + (0 : Int64))), .second, .unset, .unset, .unset, .unset, .unset, .unset, .unset] [(.ref b25)])) _
    refine st92.trans ?_
    show Steps p.tables e below (T92.setTop (mkF m 110 #[.val (.long q0), .second, .val (.long q1), .second, .val (.long q2), .second, .val (.int p3), .val (.ref b1), .val (.ref b9), .val (.ref b25), .val (.ref b49), .val (.int ((p3 &&& (2147483647 : Int32)) % (3 : Int32))), .val (.ref wo), .val (.long ((q0 + q1) + q2)), .second, .val (.long ((q0 + (0 : Int64)) + (0 : Int64))), .second, .unset, .unset, .unset, .unset, .unset, .unset, .unset] [(.long (((0 : Int64) + q1) + (0 : Int64)))])) _
    refine XS.lstore X92.here hx rfl (hb hby at_110) rfl (l' := #[.val (.long q0), .second, .val (.long q1), .second, .val (.long q2), .second, .val (.int p3), .val (.ref b1), .val (.ref b9), .val (.ref b25), .val (.ref b49), .val (.int ((p3 &&& (2147483647 : Int32)) % (3 : Int32))), .val (.ref wo), .val (.long ((q0 + q1) + q2)), .second, .val (.long ((q0 + (0 : Int64)) + (0 : Int64))), .second, .val (.long (((0 : Int64) + q1) + (0 : Int64))), .second, .unset, .unset, .unset, .unset, .unset]) rfl ?_
    show Steps p.tables e below (T92.setTop (mkF m 112 #[.val (.long q0), .second, .val (.long q1), .second, .val (.long q2), .second, .val (.int p3), .val (.ref b1), .val (.ref b9), .val (.ref b25), .val (.ref b49), .val (.int ((p3 &&& (2147483647 : Int32)) % (3 : Int32))), .val (.ref wo), .val (.long ((q0 + q1) + q2)), .second, .val (.long ((q0 + (0 : Int64)) + (0 : Int64))), .second, .val (.long (((0 : Int64) + q1) + (0 : Int64))), .second, .unset, .unset, .unset, .unset, .unset] [])) _
    refine XS.aload X92.here hx rfl (hb hby at_112) rfl rfl ?_
    show Steps p.tables e below (T92.setTop (mkF m 114 #[.val (.long q0), .second, .val (.long q1), .second, .val (.long q2), .second, .val (.int p3), .val (.ref b1), .val (.ref b9), .val (.ref b25), .val (.ref b49), .val (.int ((p3 &&& (2147483647 : Int32)) % (3 : Int32))), .val (.ref wo), .val (.long ((q0 + q1) + q2)), .second, .val (.long ((q0 + (0 : Int64)) + (0 : Int64))), .second, .val (.long (((0 : Int64) + q1) + (0 : Int64))), .second, .unset, .unset, .unset, .unset, .unset] [(.ref b49)])) _
    refine st93.trans ?_
    show Steps p.tables e below (T93.setTop (mkF m 117 #[.val (.long q0), .second, .val (.long q1), .second, .val (.long q2), .second, .val (.int p3), .val (.ref b1), .val (.ref b9), .val (.ref b25), .val (.ref b49), .val (.int ((p3 &&& (2147483647 : Int32)) % (3 : Int32))), .val (.ref wo), .val (.long ((q0 + q1) + q2)), .second, .val (.long ((q0 + (0 : Int64)) + (0 : Int64))), .second, .val (.long (((0 : Int64) + q1) + (0 : Int64))), .second, .unset, .unset, .unset, .unset, .unset] [(.long (((0 : Int64) + (0 : Int64)) + q2))])) _
    refine XS.lstore X93.here hx rfl (hb hby at_117) rfl (l' := #[.val (.long q0), .second, .val (.long q1), .second, .val (.long q2), .second, .val (.int p3), .val (.ref b1), .val (.ref b9), .val (.ref b25), .val (.ref b49), .val (.int ((p3 &&& (2147483647 : Int32)) % (3 : Int32))), .val (.ref wo), .val (.long ((q0 + q1) + q2)), .second, .val (.long ((q0 + (0 : Int64)) + (0 : Int64))), .second, .val (.long (((0 : Int64) + q1) + (0 : Int64))), .second, .val (.long (((0 : Int64) + (0 : Int64)) + q2)), .second, .unset, .unset, .unset]) rfl ?_
    show Steps p.tables e below (T93.setTop (mkF m 119 #[.val (.long q0), .second, .val (.long q1), .second, .val (.long q2), .second, .val (.int p3), .val (.ref b1), .val (.ref b9), .val (.ref b25), .val (.ref b49), .val (.int ((p3 &&& (2147483647 : Int32)) % (3 : Int32))), .val (.ref wo), .val (.long ((q0 + q1) + q2)), .second, .val (.long ((q0 + (0 : Int64)) + (0 : Int64))), .second, .val (.long (((0 : Int64) + q1) + (0 : Int64))), .second, .val (.long (((0 : Int64) + (0 : Int64)) + q2)), .second, .unset, .unset, .unset] [])) _
    refine XS.lload X93.here hx rfl (hb hby at_119) rfl ?_
    show Steps p.tables e below (T93.setTop (mkF m 121 #[.val (.long q0), .second, .val (.long q1), .second, .val (.long q2), .second, .val (.int p3), .val (.ref b1), .val (.ref b9), .val (.ref b25), .val (.ref b49), .val (.int ((p3 &&& (2147483647 : Int32)) % (3 : Int32))), .val (.ref wo), .val (.long ((q0 + q1) + q2)), .second, .val (.long ((q0 + (0 : Int64)) + (0 : Int64))), .second, .val (.long (((0 : Int64) + q1) + (0 : Int64))), .second, .val (.long (((0 : Int64) + (0 : Int64)) + q2)), .second, .unset, .unset, .unset] [(.long ((q0 + (0 : Int64)) + (0 : Int64)))])) _
    refine XS.lloadN X93.here hx rfl (hb hby at_121) rfl ?_
    show Steps p.tables e below (T93.setTop (mkF m 122 #[.val (.long q0), .second, .val (.long q1), .second, .val (.long q2), .second, .val (.int p3), .val (.ref b1), .val (.ref b9), .val (.ref b25), .val (.ref b49), .val (.int ((p3 &&& (2147483647 : Int32)) % (3 : Int32))), .val (.ref wo), .val (.long ((q0 + q1) + q2)), .second, .val (.long ((q0 + (0 : Int64)) + (0 : Int64))), .second, .val (.long (((0 : Int64) + q1) + (0 : Int64))), .second, .val (.long (((0 : Int64) + (0 : Int64)) + q2)), .second, .unset, .unset, .unset] [(.long q0), (.long ((q0 + (0 : Int64)) + (0 : Int64)))])) _
    refine XS.lcmp X93.here hx rfl (hb hby at_122) rfl ?_
    show Steps p.tables e below (T93.setTop (mkF m 123 #[.val (.long q0), .second, .val (.long q1), .second, .val (.long q2), .second, .val (.int p3), .val (.ref b1), .val (.ref b9), .val (.ref b25), .val (.ref b49), .val (.int ((p3 &&& (2147483647 : Int32)) % (3 : Int32))), .val (.ref wo), .val (.long ((q0 + q1) + q2)), .second, .val (.long ((q0 + (0 : Int64)) + (0 : Int64))), .second, .val (.long (((0 : Int64) + q1) + (0 : Int64))), .second, .val (.long (((0 : Int64) + (0 : Int64)) + q2)), .second, .unset, .unset, .unset] [(.int (lcmpW ((q0 + (0 : Int64)) + (0 : Int64)) q0))])) _
    refine XS.ifNo X93.here hx rfl (hb hby at_123) rfl ((if0 _ _).trans (teq hc94).2) ?_
    show Steps p.tables e below (T93.setTop (mkF m 126 #[.val (.long q0), .second, .val (.long q1), .second, .val (.long q2), .second, .val (.int p3), .val (.ref b1), .val (.ref b9), .val (.ref b25), .val (.ref b49), .val (.int ((p3 &&& (2147483647 : Int32)) % (3 : Int32))), .val (.ref wo), .val (.long ((q0 + q1) + q2)), .second, .val (.long ((q0 + (0 : Int64)) + (0 : Int64))), .second, .val (.long (((0 : Int64) + q1) + (0 : Int64))), .second, .val (.long (((0 : Int64) + (0 : Int64)) + q2)), .second, .unset, .unset, .unset] [])) _
    refine XS.lload X93.here hx rfl (hb hby at_126) rfl ?_
    show Steps p.tables e below (T93.setTop (mkF m 128 #[.val (.long q0), .second, .val (.long q1), .second, .val (.long q2), .second, .val (.int p3), .val (.ref b1), .val (.ref b9), .val (.ref b25), .val (.ref b49), .val (.int ((p3 &&& (2147483647 : Int32)) % (3 : Int32))), .val (.ref wo), .val (.long ((q0 + q1) + q2)), .second, .val (.long ((q0 + (0 : Int64)) + (0 : Int64))), .second, .val (.long (((0 : Int64) + q1) + (0 : Int64))), .second, .val (.long (((0 : Int64) + (0 : Int64)) + q2)), .second, .unset, .unset, .unset] [(.long (((0 : Int64) + q1) + (0 : Int64)))])) _
    refine XS.lloadN X93.here hx rfl (hb hby at_128) rfl ?_
    show Steps p.tables e below (T93.setTop (mkF m 129 #[.val (.long q0), .second, .val (.long q1), .second, .val (.long q2), .second, .val (.int p3), .val (.ref b1), .val (.ref b9), .val (.ref b25), .val (.ref b49), .val (.int ((p3 &&& (2147483647 : Int32)) % (3 : Int32))), .val (.ref wo), .val (.long ((q0 + q1) + q2)), .second, .val (.long ((q0 + (0 : Int64)) + (0 : Int64))), .second, .val (.long (((0 : Int64) + q1) + (0 : Int64))), .second, .val (.long (((0 : Int64) + (0 : Int64)) + q2)), .second, .unset, .unset, .unset] [(.long q1), (.long (((0 : Int64) + q1) + (0 : Int64)))])) _
    refine XS.lcmp X93.here hx rfl (hb hby at_129) rfl ?_
    show Steps p.tables e below (T93.setTop (mkF m 130 #[.val (.long q0), .second, .val (.long q1), .second, .val (.long q2), .second, .val (.int p3), .val (.ref b1), .val (.ref b9), .val (.ref b25), .val (.ref b49), .val (.int ((p3 &&& (2147483647 : Int32)) % (3 : Int32))), .val (.ref wo), .val (.long ((q0 + q1) + q2)), .second, .val (.long ((q0 + (0 : Int64)) + (0 : Int64))), .second, .val (.long (((0 : Int64) + q1) + (0 : Int64))), .second, .val (.long (((0 : Int64) + (0 : Int64)) + q2)), .second, .unset, .unset, .unset] [(.int (lcmpW (((0 : Int64) + q1) + (0 : Int64)) q1))])) _
    refine XS.ifNo X93.here hx rfl (hb hby at_130) rfl ((if0 _ _).trans (teq hc95).2) ?_
    show Steps p.tables e below (T93.setTop (mkF m 133 #[.val (.long q0), .second, .val (.long q1), .second, .val (.long q2), .second, .val (.int p3), .val (.ref b1), .val (.ref b9), .val (.ref b25), .val (.ref b49), .val (.int ((p3 &&& (2147483647 : Int32)) % (3 : Int32))), .val (.ref wo), .val (.long ((q0 + q1) + q2)), .second, .val (.long ((q0 + (0 : Int64)) + (0 : Int64))), .second, .val (.long (((0 : Int64) + q1) + (0 : Int64))), .second, .val (.long (((0 : Int64) + (0 : Int64)) + q2)), .second, .unset, .unset, .unset] [])) _
    refine XS.lload X93.here hx rfl (hb hby at_133) rfl ?_
    show Steps p.tables e below (T93.setTop (mkF m 135 #[.val (.long q0), .second, .val (.long q1), .second, .val (.long q2), .second, .val (.int p3), .val (.ref b1), .val (.ref b9), .val (.ref b25), .val (.ref b49), .val (.int ((p3 &&& (2147483647 : Int32)) % (3 : Int32))), .val (.ref wo), .val (.long ((q0 + q1) + q2)), .second, .val (.long ((q0 + (0 : Int64)) + (0 : Int64))), .second, .val (.long (((0 : Int64) + q1) + (0 : Int64))), .second, .val (.long (((0 : Int64) + (0 : Int64)) + q2)), .second, .unset, .unset, .unset] [(.long (((0 : Int64) + (0 : Int64)) + q2))])) _
    refine XS.lload X93.here hx rfl (hb hby at_135) rfl ?_
    show Steps p.tables e below (T93.setTop (mkF m 137 #[.val (.long q0), .second, .val (.long q1), .second, .val (.long q2), .second, .val (.int p3), .val (.ref b1), .val (.ref b9), .val (.ref b25), .val (.ref b49), .val (.int ((p3 &&& (2147483647 : Int32)) % (3 : Int32))), .val (.ref wo), .val (.long ((q0 + q1) + q2)), .second, .val (.long ((q0 + (0 : Int64)) + (0 : Int64))), .second, .val (.long (((0 : Int64) + q1) + (0 : Int64))), .second, .val (.long (((0 : Int64) + (0 : Int64)) + q2)), .second, .unset, .unset, .unset] [(.long q2), (.long (((0 : Int64) + (0 : Int64)) + q2))])) _
    refine XS.lcmp X93.here hx rfl (hb hby at_137) rfl ?_
    show Steps p.tables e below (T93.setTop (mkF m 138 #[.val (.long q0), .second, .val (.long q1), .second, .val (.long q2), .second, .val (.int p3), .val (.ref b1), .val (.ref b9), .val (.ref b25), .val (.ref b49), .val (.int ((p3 &&& (2147483647 : Int32)) % (3 : Int32))), .val (.ref wo), .val (.long ((q0 + q1) + q2)), .second, .val (.long ((q0 + (0 : Int64)) + (0 : Int64))), .second, .val (.long (((0 : Int64) + q1) + (0 : Int64))), .second, .val (.long (((0 : Int64) + (0 : Int64)) + q2)), .second, .unset, .unset, .unset] [(.int (lcmpW (((0 : Int64) + (0 : Int64)) + q2) q2))])) _
    refine XS.ifNo X93.here hx rfl (hb hby at_138) rfl ((if0 _ _).trans (teq hc96).2) ?_
    show Steps p.tables e below (T93.setTop (mkF m 141 #[.val (.long q0), .second, .val (.long q1), .second, .val (.long q2), .second, .val (.int p3), .val (.ref b1), .val (.ref b9), .val (.ref b25), .val (.ref b49), .val (.int ((p3 &&& (2147483647 : Int32)) % (3 : Int32))), .val (.ref wo), .val (.long ((q0 + q1) + q2)), .second, .val (.long ((q0 + (0 : Int64)) + (0 : Int64))), .second, .val (.long (((0 : Int64) + q1) + (0 : Int64))), .second, .val (.long (((0 : Int64) + (0 : Int64)) + q2)), .second, .unset, .unset, .unset] [])) _
    refine XS.iconst X93.here hx rfl (hb hby at_141) ?_
    show Steps p.tables e below (T93.setTop (mkF m 142 #[.val (.long q0), .second, .val (.long q1), .second, .val (.long q2), .second, .val (.int p3), .val (.ref b1), .val (.ref b9), .val (.ref b25), .val (.ref b49), .val (.int ((p3 &&& (2147483647 : Int32)) % (3 : Int32))), .val (.ref wo), .val (.long ((q0 + q1) + q2)), .second, .val (.long ((q0 + (0 : Int64)) + (0 : Int64))), .second, .val (.long (((0 : Int64) + q1) + (0 : Int64))), .second, .val (.long (((0 : Int64) + (0 : Int64)) + q2)), .second, .unset, .unset, .unset] [(.int (1 : Int32))])) _
    refine XS.goto X93.here hx rfl (pc0 := 142) (pc' := 146) rfl (hb hby at_142) (by decide) (by decide) ?_
    show Steps p.tables e below (T93.setTop (mkF m 146 #[.val (.long q0), .second, .val (.long q1), .second, .val (.long q2), .second, .val (.int p3), .val (.ref b1), .val (.ref b9), .val (.ref b25), .val (.ref b49), .val (.int ((p3 &&& (2147483647 : Int32)) % (3 : Int32))), .val (.ref wo), .val (.long ((q0 + q1) + q2)), .second, .val (.long ((q0 + (0 : Int64)) + (0 : Int64))), .second, .val (.long (((0 : Int64) + q1) + (0 : Int64))), .second, .val (.long (((0 : Int64) + (0 : Int64)) + q2)), .second, .unset, .unset, .unset] [(.int (1 : Int32))])) _
    refine XS.istore X93.here hx rfl (hb hby at_146) rfl (l' := #[.val (.long q0), .second, .val (.long q1), .second, .val (.long q2), .second, .val (.int p3), .val (.ref b1), .val (.ref b9), .val (.ref b25), .val (.ref b49), .val (.int ((p3 &&& (2147483647 : Int32)) % (3 : Int32))), .val (.ref wo), .val (.long ((q0 + q1) + q2)), .second, .val (.long ((q0 + (0 : Int64)) + (0 : Int64))), .second, .val (.long (((0 : Int64) + q1) + (0 : Int64))), .second, .val (.long (((0 : Int64) + (0 : Int64)) + q2)), .second, .val (.int (1 : Int32)), .unset, .unset]) rfl ?_
    show Steps p.tables e below (T93.setTop (mkF m 148 #[.val (.long q0), .second, .val (.long q1), .second, .val (.long q2), .second, .val (.int p3), .val (.ref b1), .val (.ref b9), .val (.ref b25), .val (.ref b49), .val (.int ((p3 &&& (2147483647 : Int32)) % (3 : Int32))), .val (.ref wo), .val (.long ((q0 + q1) + q2)), .second, .val (.long ((q0 + (0 : Int64)) + (0 : Int64))), .second, .val (.long (((0 : Int64) + q1) + (0 : Int64))), .second, .val (.long (((0 : Int64) + (0 : Int64)) + q2)), .second, .val (.int (1 : Int32)), .unset, .unset] [])) _
    refine XS.lload X93.here hx rfl (hb hby at_148) rfl ?_
    show Steps p.tables e below (T93.setTop (mkF m 150 #[.val (.long q0), .second, .val (.long q1), .second, .val (.long q2), .second, .val (.int p3), .val (.ref b1), .val (.ref b9), .val (.ref b25), .val (.ref b49), .val (.int ((p3 &&& (2147483647 : Int32)) % (3 : Int32))), .val (.ref wo), .val (.long ((q0 + q1) + q2)), .second, .val (.long ((q0 + (0 : Int64)) + (0 : Int64))), .second, .val (.long (((0 : Int64) + q1) + (0 : Int64))), .second, .val (.long (((0 : Int64) + (0 : Int64)) + q2)), .second, .val (.int (1 : Int32)), .unset, .unset] [(.long ((q0 + q1) + q2))])) _
    refine XS.lload X93.here hx rfl (hb hby at_150) rfl ?_
    show Steps p.tables e below (T93.setTop (mkF m 152 #[.val (.long q0), .second, .val (.long q1), .second, .val (.long q2), .second, .val (.int p3), .val (.ref b1), .val (.ref b9), .val (.ref b25), .val (.ref b49), .val (.int ((p3 &&& (2147483647 : Int32)) % (3 : Int32))), .val (.ref wo), .val (.long ((q0 + q1) + q2)), .second, .val (.long ((q0 + (0 : Int64)) + (0 : Int64))), .second, .val (.long (((0 : Int64) + q1) + (0 : Int64))), .second, .val (.long (((0 : Int64) + (0 : Int64)) + q2)), .second, .val (.int (1 : Int32)), .unset, .unset] [(.long ((q0 + (0 : Int64)) + (0 : Int64))), (.long ((q0 + q1) + q2))])) _
    refine XS.lload X93.here hx rfl (hb hby at_152) rfl ?_
    show Steps p.tables e below (T93.setTop (mkF m 154 #[.val (.long q0), .second, .val (.long q1), .second, .val (.long q2), .second, .val (.int p3), .val (.ref b1), .val (.ref b9), .val (.ref b25), .val (.ref b49), .val (.int ((p3 &&& (2147483647 : Int32)) % (3 : Int32))), .val (.ref wo), .val (.long ((q0 + q1) + q2)), .second, .val (.long ((q0 + (0 : Int64)) + (0 : Int64))), .second, .val (.long (((0 : Int64) + q1) + (0 : Int64))), .second, .val (.long (((0 : Int64) + (0 : Int64)) + q2)), .second, .val (.int (1 : Int32)), .unset, .unset] [(.long (((0 : Int64) + q1) + (0 : Int64))), (.long ((q0 + (0 : Int64)) + (0 : Int64))), (.long ((q0 + q1) + q2))])) _
    refine XS.ladd X93.here hx rfl (hb hby at_154) rfl ?_
    show Steps p.tables e below (T93.setTop (mkF m 155 #[.val (.long q0), .second, .val (.long q1), .second, .val (.long q2), .second, .val (.int p3), .val (.ref b1), .val (.ref b9), .val (.ref b25), .val (.ref b49), .val (.int ((p3 &&& (2147483647 : Int32)) % (3 : Int32))), .val (.ref wo), .val (.long ((q0 + q1) + q2)), .second, .val (.long ((q0 + (0 : Int64)) + (0 : Int64))), .second, .val (.long (((0 : Int64) + q1) + (0 : Int64))), .second, .val (.long (((0 : Int64) + (0 : Int64)) + q2)), .second, .val (.int (1 : Int32)), .unset, .unset] [(.long (((q0 + (0 : Int64)) + (0 : Int64)) + (((0 : Int64) + q1) + (0 : Int64)))), (.long ((q0 + q1) + q2))])) _
    refine XS.lload X93.here hx rfl (hb hby at_155) rfl ?_
    show Steps p.tables e below (T93.setTop (mkF m 157 #[.val (.long q0), .second, .val (.long q1), .second, .val (.long q2), .second, .val (.int p3), .val (.ref b1), .val (.ref b9), .val (.ref b25), .val (.ref b49), .val (.int ((p3 &&& (2147483647 : Int32)) % (3 : Int32))), .val (.ref wo), .val (.long ((q0 + q1) + q2)), .second, .val (.long ((q0 + (0 : Int64)) + (0 : Int64))), .second, .val (.long (((0 : Int64) + q1) + (0 : Int64))), .second, .val (.long (((0 : Int64) + (0 : Int64)) + q2)), .second, .val (.int (1 : Int32)), .unset, .unset] [(.long (((0 : Int64) + (0 : Int64)) + q2)), (.long (((q0 + (0 : Int64)) + (0 : Int64)) + (((0 : Int64) + q1) + (0 : Int64)))), (.long ((q0 + q1) + q2))])) _
    refine XS.ladd X93.here hx rfl (hb hby at_157) rfl ?_
    show Steps p.tables e below (T93.setTop (mkF m 158 #[.val (.long q0), .second, .val (.long q1), .second, .val (.long q2), .second, .val (.int p3), .val (.ref b1), .val (.ref b9), .val (.ref b25), .val (.ref b49), .val (.int ((p3 &&& (2147483647 : Int32)) % (3 : Int32))), .val (.ref wo), .val (.long ((q0 + q1) + q2)), .second, .val (.long ((q0 + (0 : Int64)) + (0 : Int64))), .second, .val (.long (((0 : Int64) + q1) + (0 : Int64))), .second, .val (.long (((0 : Int64) + (0 : Int64)) + q2)), .second, .val (.int (1 : Int32)), .unset, .unset] [(.long ((((q0 + (0 : Int64)) + (0 : Int64)) + (((0 : Int64) + q1) + (0 : Int64))) + (((0 : Int64) + (0 : Int64)) + q2))), (.long ((q0 + q1) + q2))])) _
    refine XS.lcmp X93.here hx rfl (hb hby at_158) rfl ?_
    show Steps p.tables e below (T93.setTop (mkF m 159 #[.val (.long q0), .second, .val (.long q1), .second, .val (.long q2), .second, .val (.int p3), .val (.ref b1), .val (.ref b9), .val (.ref b25), .val (.ref b49), .val (.int ((p3 &&& (2147483647 : Int32)) % (3 : Int32))), .val (.ref wo), .val (.long ((q0 + q1) + q2)), .second, .val (.long ((q0 + (0 : Int64)) + (0 : Int64))), .second, .val (.long (((0 : Int64) + q1) + (0 : Int64))), .second, .val (.long (((0 : Int64) + (0 : Int64)) + q2)), .second, .val (.int (1 : Int32)), .unset, .unset] [(.int (lcmpW ((q0 + q1) + q2) ((((q0 + (0 : Int64)) + (0 : Int64)) + (((0 : Int64) + q1) + (0 : Int64))) + (((0 : Int64) + (0 : Int64)) + q2))))])) _
    refine XS.ifNo X93.here hx rfl (hb hby at_159) rfl ((if0 _ _).trans (teq hc97).2) ?_
    show Steps p.tables e below (T93.setTop (mkF m 162 #[.val (.long q0), .second, .val (.long q1), .second, .val (.long q2), .second, .val (.int p3), .val (.ref b1), .val (.ref b9), .val (.ref b25), .val (.ref b49), .val (.int ((p3 &&& (2147483647 : Int32)) % (3 : Int32))), .val (.ref wo), .val (.long ((q0 + q1) + q2)), .second, .val (.long ((q0 + (0 : Int64)) + (0 : Int64))), .second, .val (.long (((0 : Int64) + q1) + (0 : Int64))), .second, .val (.long (((0 : Int64) + (0 : Int64)) + q2)), .second, .val (.int (1 : Int32)), .unset, .unset] [])) _
    refine XS.iconst X93.here hx rfl (hb hby at_162) ?_
    show Steps p.tables e below (T93.setTop (mkF m 163 #[.val (.long q0), .second, .val (.long q1), .second, .val (.long q2), .second, .val (.int p3), .val (.ref b1), .val (.ref b9), .val (.ref b25), .val (.ref b49), .val (.int ((p3 &&& (2147483647 : Int32)) % (3 : Int32))), .val (.ref wo), .val (.long ((q0 + q1) + q2)), .second, .val (.long ((q0 + (0 : Int64)) + (0 : Int64))), .second, .val (.long (((0 : Int64) + q1) + (0 : Int64))), .second, .val (.long (((0 : Int64) + (0 : Int64)) + q2)), .second, .val (.int (1 : Int32)), .unset, .unset] [(.int (1 : Int32))])) _
    refine XS.goto X93.here hx rfl (pc0 := 163) (pc' := 167) rfl (hb hby at_163) (by decide) (by decide) ?_
    show Steps p.tables e below (T93.setTop (mkF m 167 #[.val (.long q0), .second, .val (.long q1), .second, .val (.long q2), .second, .val (.int p3), .val (.ref b1), .val (.ref b9), .val (.ref b25), .val (.ref b49), .val (.int ((p3 &&& (2147483647 : Int32)) % (3 : Int32))), .val (.ref wo), .val (.long ((q0 + q1) + q2)), .second, .val (.long ((q0 + (0 : Int64)) + (0 : Int64))), .second, .val (.long (((0 : Int64) + q1) + (0 : Int64))), .second, .val (.long (((0 : Int64) + (0 : Int64)) + q2)), .second, .val (.int (1 : Int32)), .unset, .unset] [(.int (1 : Int32))])) _
    refine XS.istore X93.here hx rfl (hb hby at_167) rfl (l' := #[.val (.long q0), .second, .val (.long q1), .second, .val (.long q2), .second, .val (.int p3), .val (.ref b1), .val (.ref b9), .val (.ref b25), .val (.ref b49), .val (.int ((p3 &&& (2147483647 : Int32)) % (3 : Int32))), .val (.ref wo), .val (.long ((q0 + q1) + q2)), .second, .val (.long ((q0 + (0 : Int64)) + (0 : Int64))), .second, .val (.long (((0 : Int64) + q1) + (0 : Int64))), .second, .val (.long (((0 : Int64) + (0 : Int64)) + q2)), .second, .val (.int (1 : Int32)), .val (.int (1 : Int32)), .unset]) rfl ?_
    show Steps p.tables e below (T93.setTop (mkF m 169 #[.val (.long q0), .second, .val (.long q1), .second, .val (.long q2), .second, .val (.int p3), .val (.ref b1), .val (.ref b9), .val (.ref b25), .val (.ref b49), .val (.int ((p3 &&& (2147483647 : Int32)) % (3 : Int32))), .val (.ref wo), .val (.long ((q0 + q1) + q2)), .second, .val (.long ((q0 + (0 : Int64)) + (0 : Int64))), .second, .val (.long (((0 : Int64) + q1) + (0 : Int64))), .second, .val (.long (((0 : Int64) + (0 : Int64)) + q2)), .second, .val (.int (1 : Int32)), .val (.int (1 : Int32)), .unset] [])) _
    refine XS.aload X93.here hx rfl (hb hby at_169) rfl rfl ?_
    show Steps p.tables e below (T93.setTop (mkF m 171 #[.val (.long q0), .second, .val (.long q1), .second, .val (.long q2), .second, .val (.int p3), .val (.ref b1), .val (.ref b9), .val (.ref b25), .val (.ref b49), .val (.int ((p3 &&& (2147483647 : Int32)) % (3 : Int32))), .val (.ref wo), .val (.long ((q0 + q1) + q2)), .second, .val (.long ((q0 + (0 : Int64)) + (0 : Int64))), .second, .val (.long (((0 : Int64) + q1) + (0 : Int64))), .second, .val (.long (((0 : Int64) + (0 : Int64)) + q2)), .second, .val (.int (1 : Int32)), .val (.int (1 : Int32)), .unset] [(.ref b1)])) _
    refine XS.aload X93.here hx rfl (hb hby at_171) rfl rfl ?_
    show Steps p.tables e below (T93.setTop (mkF m 173 #[.val (.long q0), .second, .val (.long q1), .second, .val (.long q2), .second, .val (.int p3), .val (.ref b1), .val (.ref b9), .val (.ref b25), .val (.ref b49), .val (.int ((p3 &&& (2147483647 : Int32)) % (3 : Int32))), .val (.ref wo), .val (.long ((q0 + q1) + q2)), .second, .val (.long ((q0 + (0 : Int64)) + (0 : Int64))), .second, .val (.long (((0 : Int64) + q1) + (0 : Int64))), .second, .val (.long (((0 : Int64) + (0 : Int64)) + q2)), .second, .val (.int (1 : Int32)), .val (.int (1 : Int32)), .unset] [(.ref wo), (.ref b1)])) _
    refine st98.trans ?_
    show Steps p.tables e below (T98.setTop (mkF m 176 #[.val (.long q0), .second, .val (.long q1), .second, .val (.long q2), .second, .val (.int p3), .val (.ref b1), .val (.ref b9), .val (.ref b25), .val (.ref b49), .val (.int ((p3 &&& (2147483647 : Int32)) % (3 : Int32))), .val (.ref wo), .val (.long ((q0 + q1) + q2)), .second, .val (.long ((q0 + (0 : Int64)) + (0 : Int64))), .second, .val (.long (((0 : Int64) + q1) + (0 : Int64))), .second, .val (.long (((0 : Int64) + (0 : Int64)) + q2)), .second, .val (.int (1 : Int32)), .val (.int (1 : Int32)), .unset] [(.ref b98)])) _
    refine st99.trans ?_
    show Steps p.tables e below (T99.setTop (mkF m 179 #[.val (.long q0), .second, .val (.long q1), .second, .val (.long q2), .second, .val (.int p3), .val (.ref b1), .val (.ref b9), .val (.ref b25), .val (.ref b49), .val (.int ((p3 &&& (2147483647 : Int32)) % (3 : Int32))), .val (.ref wo), .val (.long ((q0 + q1) + q2)), .second, .val (.long ((q0 + (0 : Int64)) + (0 : Int64))), .second, .val (.long (((0 : Int64) + q1) + (0 : Int64))), .second, .val (.long (((0 : Int64) + (0 : Int64)) + q2)), .second, .val (.int (1 : Int32)), .val (.int (1 : Int32)), .unset] [(.long ((x98 + y98') + z98'))])) _
    refine XS.lload X99.here hx rfl (hb hby at_179) rfl ?_
    show Steps p.tables e below (T99.setTop (mkF m 181 #[.val (.long q0), .second, .val (.long q1), .second, .val (.long q2), .second, .val (.int p3), .val (.ref b1), .val (.ref b9), .val (.ref b25), .val (.ref b49), .val (.int ((p3 &&& (2147483647 : Int32)) % (3 : Int32))), .val (.ref wo), .val (.long ((q0 + q1) + q2)), .second, .val (.long ((q0 + (0 : Int64)) + (0 : Int64))), .second, .val (.long (((0 : Int64) + q1) + (0 : Int64))), .second, .val (.long (((0 : Int64) + (0 : Int64)) + q2)), .second, .val (.int (1 : Int32)), .val (.int (1 : Int32)), .unset] [(.long ((q0 + q1) + q2)), (.long ((x98 + y98') + z98'))])) _
    refine XS.lconst X99.here hx rfl (hb hby at_181) ?_
    show Steps p.tables e below (T99.setTop (mkF m 182 #[.val (.long q0), .second, .val (.long q1), .second, .val (.long q2), .second, .val (.int p3), .val (.ref b1), .val (.ref b9), .val (.ref b25), .val (.ref b49), .val (.int ((p3 &&& (2147483647 : Int32)) % (3 : Int32))), .val (.ref wo), .val (.long ((q0 + q1) + q2)), .second, .val (.long ((q0 + (0 : Int64)) + (0 : Int64))), .second, .val (.long (((0 : Int64) + q1) + (0 : Int64))), .second, .val (.long (((0 : Int64) + (0 : Int64)) + q2)), .second, .val (.int (1 : Int32)), .val (.int (1 : Int32)), .unset] [(.long (1 : Int64)), (.long ((q0 + q1) + q2)), (.long ((x98 + y98') + z98'))])) _
    refine XS.ladd X99.here hx rfl (hb hby at_182) rfl ?_
    show Steps p.tables e below (T99.setTop (mkF m 183 #[.val (.long q0), .second, .val (.long q1), .second, .val (.long q2), .second, .val (.int p3), .val (.ref b1), .val (.ref b9), .val (.ref b25), .val (.ref b49), .val (.int ((p3 &&& (2147483647 : Int32)) % (3 : Int32))), .val (.ref wo), .val (.long ((q0 + q1) + q2)), .second, .val (.long ((q0 + (0 : Int64)) + (0 : Int64))), .second, .val (.long (((0 : Int64) + q1) + (0 : Int64))), .second, .val (.long (((0 : Int64) + (0 : Int64)) + q2)), .second, .val (.int (1 : Int32)), .val (.int (1 : Int32)), .unset] [(.long (((q0 + q1) + q2) + (1 : Int64))), (.long ((x98 + y98') + z98'))])) _
    refine XS.lcmp X99.here hx rfl (hb hby at_183) rfl ?_
    show Steps p.tables e below (T99.setTop (mkF m 184 #[.val (.long q0), .second, .val (.long q1), .second, .val (.long q2), .second, .val (.int p3), .val (.ref b1), .val (.ref b9), .val (.ref b25), .val (.ref b49), .val (.int ((p3 &&& (2147483647 : Int32)) % (3 : Int32))), .val (.ref wo), .val (.long ((q0 + q1) + q2)), .second, .val (.long ((q0 + (0 : Int64)) + (0 : Int64))), .second, .val (.long (((0 : Int64) + q1) + (0 : Int64))), .second, .val (.long (((0 : Int64) + (0 : Int64)) + q2)), .second, .val (.int (1 : Int32)), .val (.int (1 : Int32)), .unset] [(.int (lcmpW ((x98 + y98') + z98') (((q0 + q1) + q2) + (1 : Int64))))])) _
    refine XS.ifNo X99.here hx rfl (hb hby at_184) rfl ((if0 _ _).trans (teq hc100).2) ?_
    show Steps p.tables e below (T99.setTop (mkF m 187 #[.val (.long q0), .second, .val (.long q1), .second, .val (.long q2), .second, .val (.int p3), .val (.ref b1), .val (.ref b9), .val (.ref b25), .val (.ref b49), .val (.int ((p3 &&& (2147483647 : Int32)) % (3 : Int32))), .val (.ref wo), .val (.long ((q0 + q1) + q2)), .second, .val (.long ((q0 + (0 : Int64)) + (0 : Int64))), .second, .val (.long (((0 : Int64) + q1) + (0 : Int64))), .second, .val (.long (((0 : Int64) + (0 : Int64)) + q2)), .second, .val (.int (1 : Int32)), .val (.int (1 : Int32)), .unset] [])) _
    refine XS.iconst X99.here hx rfl (hb hby at_187) ?_
    show Steps p.tables e below (T99.setTop (mkF m 188 #[.val (.long q0), .second, .val (.long q1), .second, .val (.long q2), .second, .val (.int p3), .val (.ref b1), .val (.ref b9), .val (.ref b25), .val (.ref b49), .val (.int ((p3 &&& (2147483647 : Int32)) % (3 : Int32))), .val (.ref wo), .val (.long ((q0 + q1) + q2)), .second, .val (.long ((q0 + (0 : Int64)) + (0 : Int64))), .second, .val (.long (((0 : Int64) + q1) + (0 : Int64))), .second, .val (.long (((0 : Int64) + (0 : Int64)) + q2)), .second, .val (.int (1 : Int32)), .val (.int (1 : Int32)), .unset] [(.int (1 : Int32))])) _
    refine XS.goto X99.here hx rfl (pc0 := 188) (pc' := 192) rfl (hb hby at_188) (by decide) (by decide) ?_
    show Steps p.tables e below (T99.setTop (mkF m 192 #[.val (.long q0), .second, .val (.long q1), .second, .val (.long q2), .second, .val (.int p3), .val (.ref b1), .val (.ref b9), .val (.ref b25), .val (.ref b49), .val (.int ((p3 &&& (2147483647 : Int32)) % (3 : Int32))), .val (.ref wo), .val (.long ((q0 + q1) + q2)), .second, .val (.long ((q0 + (0 : Int64)) + (0 : Int64))), .second, .val (.long (((0 : Int64) + q1) + (0 : Int64))), .second, .val (.long (((0 : Int64) + (0 : Int64)) + q2)), .second, .val (.int (1 : Int32)), .val (.int (1 : Int32)), .unset] [(.int (1 : Int32))])) _
    refine XS.istore X99.here hx rfl (hb hby at_192) rfl (l' := #[.val (.long q0), .second, .val (.long q1), .second, .val (.long q2), .second, .val (.int p3), .val (.ref b1), .val (.ref b9), .val (.ref b25), .val (.ref b49), .val (.int ((p3 &&& (2147483647 : Int32)) % (3 : Int32))), .val (.ref wo), .val (.long ((q0 + q1) + q2)), .second, .val (.long ((q0 + (0 : Int64)) + (0 : Int64))), .second, .val (.long (((0 : Int64) + q1) + (0 : Int64))), .second, .val (.long (((0 : Int64) + (0 : Int64)) + q2)), .second, .val (.int (1 : Int32)), .val (.int (1 : Int32)), .val (.int (1 : Int32))]) rfl ?_
    show Steps p.tables e below (T99.setTop (mkF m 194 #[.val (.long q0), .second, .val (.long q1), .second, .val (.long q2), .second, .val (.int p3), .val (.ref b1), .val (.ref b9), .val (.ref b25), .val (.ref b49), .val (.int ((p3 &&& (2147483647 : Int32)) % (3 : Int32))), .val (.ref wo), .val (.long ((q0 + q1) + q2)), .second, .val (.long ((q0 + (0 : Int64)) + (0 : Int64))), .second, .val (.long (((0 : Int64) + q1) + (0 : Int64))), .second, .val (.long (((0 : Int64) + (0 : Int64)) + q2)), .second, .val (.int (1 : Int32)), .val (.int (1 : Int32)), .val (.int (1 : Int32))] [])) _
    refine XS.iload X99.here hx rfl (hb hby at_194) rfl ?_
    show Steps p.tables e below (T99.setTop (mkF m 196 #[.val (.long q0), .second, .val (.long q1), .second, .val (.long q2), .second, .val (.int p3), .val (.ref b1), .val (.ref b9), .val (.ref b25), .val (.ref b49), .val (.int ((p3 &&& (2147483647 : Int32)) % (3 : Int32))), .val (.ref wo), .val (.long ((q0 + q1) + q2)), .second, .val (.long ((q0 + (0 : Int64)) + (0 : Int64))), .second, .val (.long (((0 : Int64) + q1) + (0 : Int64))), .second, .val (.long (((0 : Int64) + (0 : Int64)) + q2)), .second, .val (.int (1 : Int32)), .val (.int (1 : Int32)), .val (.int (1 : Int32))] [(.int (1 : Int32))])) _
    refine XS.ifNo X99.here hx rfl (hb hby at_196) rfl ((if0 _ _).trans (feq hc101).1) ?_
    show Steps p.tables e below (T99.setTop (mkF m 199 #[.val (.long q0), .second, .val (.long q1), .second, .val (.long q2), .second, .val (.int p3), .val (.ref b1), .val (.ref b9), .val (.ref b25), .val (.ref b49), .val (.int ((p3 &&& (2147483647 : Int32)) % (3 : Int32))), .val (.ref wo), .val (.long ((q0 + q1) + q2)), .second, .val (.long ((q0 + (0 : Int64)) + (0 : Int64))), .second, .val (.long (((0 : Int64) + q1) + (0 : Int64))), .second, .val (.long (((0 : Int64) + (0 : Int64)) + q2)), .second, .val (.int (1 : Int32)), .val (.int (1 : Int32)), .val (.int (1 : Int32))] [])) _
    refine XS.iload X99.here hx rfl (hb hby at_199) rfl ?_
    show Steps p.tables e below (T99.setTop (mkF m 201 #[.val (.long q0), .second, .val (.long q1), .second, .val (.long q2), .second, .val (.int p3), .val (.ref b1), .val (.ref b9), .val (.ref b25), .val (.ref b49), .val (.int ((p3 &&& (2147483647 : Int32)) % (3 : Int32))), .val (.ref wo), .val (.long ((q0 + q1) + q2)), .second, .val (.long ((q0 + (0 : Int64)) + (0 : Int64))), .second, .val (.long (((0 : Int64) + q1) + (0 : Int64))), .second, .val (.long (((0 : Int64) + (0 : Int64)) + q2)), .second, .val (.int (1 : Int32)), .val (.int (1 : Int32)), .val (.int (1 : Int32))] [(.int (1 : Int32))])) _
    refine XS.ifNo X99.here hx rfl (hb hby at_201) rfl ((if0 _ _).trans (feq hc102).1) ?_
    show Steps p.tables e below (T99.setTop (mkF m 204 #[.val (.long q0), .second, .val (.long q1), .second, .val (.long q2), .second, .val (.int p3), .val (.ref b1), .val (.ref b9), .val (.ref b25), .val (.ref b49), .val (.int ((p3 &&& (2147483647 : Int32)) % (3 : Int32))), .val (.ref wo), .val (.long ((q0 + q1) + q2)), .second, .val (.long ((q0 + (0 : Int64)) + (0 : Int64))), .second, .val (.long (((0 : Int64) + q1) + (0 : Int64))), .second, .val (.long (((0 : Int64) + (0 : Int64)) + q2)), .second, .val (.int (1 : Int32)), .val (.int (1 : Int32)), .val (.int (1 : Int32))] [])) _
    refine XS.iload X99.here hx rfl (hb hby at_204) rfl ?_
    show Steps p.tables e below (T99.setTop (mkF m 206 #[.val (.long q0), .second, .val (.long q1), .second, .val (.long q2), .second, .val (.int p3), .val (.ref b1), .val (.ref b9), .val (.ref b25), .val (.ref b49), .val (.int ((p3 &&& (2147483647 : Int32)) % (3 : Int32))), .val (.ref wo), .val (.long ((q0 + q1) + q2)), .second, .val (.long ((q0 + (0 : Int64)) + (0 : Int64))), .second, .val (.long (((0 : Int64) + q1) + (0 : Int64))), .second, .val (.long (((0 : Int64) + (0 : Int64)) + q2)), .second, .val (.int (1 : Int32)), .val (.int (1 : Int32)), .val (.int (1 : Int32))] [(.int (1 : Int32))])) _
    refine XS.ifNo X99.here hx rfl (hb hby at_206) rfl ((if0 _ _).trans (feq hc103).1) ?_
    show Steps p.tables e below (T99.setTop (mkF m 209 #[.val (.long q0), .second, .val (.long q1), .second, .val (.long q2), .second, .val (.int p3), .val (.ref b1), .val (.ref b9), .val (.ref b25), .val (.ref b49), .val (.int ((p3 &&& (2147483647 : Int32)) % (3 : Int32))), .val (.ref wo), .val (.long ((q0 + q1) + q2)), .second, .val (.long ((q0 + (0 : Int64)) + (0 : Int64))), .second, .val (.long (((0 : Int64) + q1) + (0 : Int64))), .second, .val (.long (((0 : Int64) + (0 : Int64)) + q2)), .second, .val (.int (1 : Int32)), .val (.int (1 : Int32)), .val (.int (1 : Int32))] [])) _
    refine XS.iconst X99.here hx rfl (hb hby at_209) ?_
    show Steps p.tables e below (T99.setTop (mkF m 210 #[.val (.long q0), .second, .val (.long q1), .second, .val (.long q2), .second, .val (.int p3), .val (.ref b1), .val (.ref b9), .val (.ref b25), .val (.ref b49), .val (.int ((p3 &&& (2147483647 : Int32)) % (3 : Int32))), .val (.ref wo), .val (.long ((q0 + q1) + q2)), .second, .val (.long ((q0 + (0 : Int64)) + (0 : Int64))), .second, .val (.long (((0 : Int64) + q1) + (0 : Int64))), .second, .val (.long (((0 : Int64) + (0 : Int64)) + q2)), .second, .val (.int (1 : Int32)), .val (.int (1 : Int32)), .val (.int (1 : Int32))] [(.int (1 : Int32))])) _
    refine XS.goto X99.here hx rfl (pc0 := 210) (pc' := 214) rfl (hb hby at_210) (by decide) (by decide) ?_
    show Steps p.tables e below (T99.setTop (mkF m 214 #[.val (.long q0), .second, .val (.long q1), .second, .val (.long q2), .second, .val (.int p3), .val (.ref b1), .val (.ref b9), .val (.ref b25), .val (.ref b49), .val (.int ((p3 &&& (2147483647 : Int32)) % (3 : Int32))), .val (.ref wo), .val (.long ((q0 + q1) + q2)), .second, .val (.long ((q0 + (0 : Int64)) + (0 : Int64))), .second, .val (.long (((0 : Int64) + q1) + (0 : Int64))), .second, .val (.long (((0 : Int64) + (0 : Int64)) + q2)), .second, .val (.int (1 : Int32)), .val (.int (1 : Int32)), .val (.int (1 : Int32))] [(.int (1 : Int32))])) _
    exact retN X99 hx (t := .boolean) Bd.returns (by simp) (hb hby at_214) hr
  · show Q0 Z q0 q1 q2 p3 w_A w_S w_P h0 n0 _ T99.heap _
    rw [e99]
    exact ⟨rfl, N99⟩
set_option maxRecDepth 65536 in
set_option maxHeartbeats 40000000 in
theorem comes_1 {Post : Tables → Env → Array Value → State → Outcome → State → Prop} (hpost : ∀ tb e args s v u, (limb_1_1.after args s (.returned v) u = true ∧ limb_1_2.after args s (.returned v) u = true ∧ True) → FrameEnd s (.returned v) u (Jvm.fieldLocs frame_1_writes args s ++ Jvm.arrayLocs frame_1_arrays args s ++ Jvm.staticLocs frame_1_statics s) 24 128 → Post tb e args s (.returned v) u) :
    ArmFor flags0 classFile x code maxLocals ret World_1 tables_1 room_1 Calls_1 rest_1 Pre_1 Post := by
  intro l hfl _ _ p e ha hc hk s m args below hf hA hF happ hP
  obtain ⟨hcalls, hrest, hpre⟩ := hP
  obtain ⟨-, -, -, hnamed, -, -, -, hat⟩ := (Spec.applies_iff hf).mp happ
  obtain ⟨hg, hn⟩ := and_e (Cond.before_iff.mp (show (Jvm.Cond.and given_1 narrow_1).before args s = true from hpre))
  obtain ⟨g1, g2⟩ := and_e hg
  obtain ⟨g3, g4⟩ := and_e g2
  obtain ⟨g5, g6⟩ := and_e g4
  obtain ⟨g7, g8⟩ := and_e g6
  obtain ⟨g9, g10⟩ := and_e hn
  obtain ⟨g11, g12⟩ := and_e g10
  obtain ⟨g13, g14⟩ := and_e g12
  obtain ⟨g15, g16⟩ := and_e g14
  obtain ⟨g17, g18⟩ := and_e g16
  obtain ⟨w0, w1, w2, w3, rfl⟩ : ∃ w0 w1 w2 w3 : Value, args = #[w0, w1, w2, w3] := by
    have hs : args.size = 4 := by simpa [Cond.value, given_1] using g1
    obtain ⟨L⟩ := args
    match L, hs with
    | [w0, w1, w2, w3], _ => exact ⟨w0, w1, w2, w3, rfl⟩
  have hw := fun d (hd : d ∈ tables_1) => atoms_spec (ws := Jvm.Cond.code x code maxLocals ret :: tables_1) hat d (List.mem_cons_of_mem _ hd)
  have hfit : Fit s := fun {y c} hc i hi => by
    obtain ⟨ha, rfl⟩ := Array.getElem?_eq_some_iff.mp hc
    have q := List.all_eq_true.mp ((Array.all_eq_true_iff_forall_mem.mp hF) _ (Array.getElem_mem ha)) i (List.mem_range.mpr hi)
    simpa [Array.getElem?_eq_getElem hi] using q
  obtain ⟨i0, ei0⟩ := isL_v g3
  obtain rfl : w0 = (.long i0) := Option.some.inj ei0
  obtain ⟨i1, ei1⟩ := isL_v g5
  obtain rfl : w1 = (.long i1) := Option.some.inj ei1
  obtain ⟨i2, ei2⟩ := isL_v g7
  obtain rfl : w2 = (.long i2) := Option.some.inj ei2
  obtain ⟨i3, ei3⟩ := is_v g8
  obtain rfl : w3 = (.int i3) := Option.some.inj ei3
  obtain ⟨w_A, ev_A⟩ := exa_v g11
  have E_A : Exa s s.heap w_A "com/example/fresh_index/freshindex/engine/EventCounts$Outcome" := Exa.start ev_A g11
  have S_A : Sta s s.heap "com/example/fresh_index/freshindex/engine/EventCounts$Outcome" "APPLIED" "Lcom/example/fresh_index/freshindex/engine/EventCounts$Outcome;" (.ref w_A) := Sta.start ev_A (Or.inr ⟨(hw _ (List.mem_of_getElem? (i := 22) rfl)), (hw _ (List.mem_of_getElem? (i := 35) rfl))⟩)
  have o_A := own_fldI ev_A g15
  obtain ⟨w_S, ev_S⟩ := exa_v g17
  have E_S : Exa s s.heap w_S "com/example/fresh_index/freshindex/engine/EventCounts$Outcome" := Exa.start ev_S g17
  have S_S : Sta s s.heap "com/example/fresh_index/freshindex/engine/EventCounts$Outcome" "SKIPPED" "Lcom/example/fresh_index/freshindex/engine/EventCounts$Outcome;" (.ref w_S) := Sta.start ev_S (Or.inr ⟨(hw _ (List.mem_of_getElem? (i := 22) rfl)), (hw _ (List.mem_of_getElem? (i := 37) rfl))⟩)
  have o_S := own_fldI ev_S g18
  obtain ⟨w_P, ev_P⟩ := exa_v g9
  have E_P : Exa s s.heap w_P "com/example/fresh_index/freshindex/engine/EventCounts$Outcome" := Exa.start ev_P g9
  have S_P : Sta s s.heap "com/example/fresh_index/freshindex/engine/EventCounts$Outcome" "PARKED" "Lcom/example/fresh_index/freshindex/engine/EventCounts$Outcome;" (.ref w_P) := Sta.start ev_P (Or.inr ⟨(hw _ (List.mem_of_getElem? (i := 22) rfl)), (hw _ (List.mem_of_getElem? (i := 23) rfl))⟩)
  have o_P := own_fldI ev_P g13
  obtain ⟨n, o, h1, h2, h3, _, L, rfl, ⟨rfl, N⟩, hq⟩ := rm0 l s _ hw tables_1 i0 i1 i2 i3 w_A w_S w_P s.heap s.heap.size (Nat.le_refl _) S_A S_S S_P p e ha hc hk s m _ below hf ((Spec.applies_iff_loose hf).mp happ).1 ⟨rfl, State.Warmed39.refl s, rfl⟩ trivial
  refine ⟨n, _, h1, h2, h3, hpost _ _ _ _ _ _ ⟨Cond.after_iff.mpr rfl, Cond.after_iff.mpr (eq_i res_at (Term.int_eval (1)) rfl), trivial⟩ ⟨hq.1, hq.2.1, (hq.2.2.sift fun y hy => Or.inr (N y hy)).mono (by decide) (by decide)⟩⟩
theorem main_1_1 : Claimed_1_1 := comes_1 fun _ _ _ _ _ _ h hF => ⟨h.1, hF⟩
theorem main_1_2 : Claimed_1_2 := comes_1 fun _ _ _ _ _ _ h hF => ⟨h.2.1, hF⟩
end Jvm.Pilot.@@N@@
namespace Jvm.Pilot.@@N@@
open Jvm Jvm.ClassFile Sem Op Lib Jvm.Free Jvm.Stand Jvm.Pilot.@@N@@.Jvm.D
/-! MADE BY PROGRAM (witnessworld.py) out of the Statement's table words and the real class files: 14 classes; the members and pool entries that the words name. The judged class is class 1, her method 1. -/
namespace start1
open Jvm.ClassFile
def u (s : String) : CpInfo := .utf8 (stringToUtf16 s)
/-- a pool by its gaps: so many unusable entries, then the entry; so many at the end -/
def gap : Nat → List CpInfo → List CpInfo
  | 0, r => r
  | n + 1, r => .unusable :: gap n r
def poolList (es : List (Nat × CpInfo)) (last : Nat) : List CpInfo := es.foldr (fun e r => gap e.1 (e.2 :: r)) (gap last [])
def pool (es : List (Nat × CpInfo)) (last : Nat) : Array CpInfo := ⟨poolList es last⟩
def fileOf (pool : Array CpInfo) (this : Nat) (attrs : Array Attribute := #[]) (ms : Array MethodInfo := #[]) (fl : Nat := 33) (sup : Nat := 0) (ifs : Array Nat := #[]) (fds : Array FieldInfo := #[]) : ClassFile where
  minorVersion := 0
  majorVersion := 65
  constantPool := pool
  accessFlags := fl
  thisClass := this
  superClass := sup
  interfaces := ifs
  fields := fds
  methods := ms
  attributes := attrs
def plain (name : String) (sup : Option ClassId) : Class where
  name := name
  kind := .ordinary
  loader := none
  accessFlags := 33
  super := sup
  interfaces := #[]
  cf := none
  fields := #[]
  methods := #[]
  instanceTypes := #[]
  staticTypes := #[]
  resolved := #[]
  callSites := []
  init := .initialized
  statics := none
  mirror := none

def pool0 : Array CpInfo := pool [(5, u "<init>"), (0, u "()V"), (1, .class_ 10), (1, u "java/lang/Object")] 113

def k0c0 : Code := { maxStack := 0, maxLocals := 1, code := object_method_1_code, exceptionTable := #[], attributes := #[] }
def k0m0 : Method := { name := "<init>", desc := "()V", sig := { parameters := [], returnType := none }, accessFlags := 1, code := some k0c0 }
/-- java/lang/Object -/
def k0 : Class := { plain "java/lang/Object" none with
  accessFlags := 33
  interfaces := #[]
  cf := some (fileOf pool0 8 #[] #[{ accessFlags := 1, nameIndex := 5, descriptorIndex := 6, attributes := #[] }] 33 0 #[] #[])
  fields := #[]
  methods := #[k0m0]
  instanceTypes := #[]
  staticTypes := #[]
  resolved := Array.replicate 124 none
  statics := none }

def pool1 : Array CpInfo := pool [(2, .class_ 4), (1, u "java/lang/Object"), (0, u "<init>"), (0, u "()V"), (0, .class_ 8), (0, u "com/example/fresh_index/freshindex/engine/EventCounts"), (0, .methodref 7 10), (0, .nameAndType 5 11), (0, u "(JJJ)V"), (0, .integer 2147483647), (0, .fieldref 14 15), (0, .class_ 16), (0, .nameAndType 17 18), (0, u "com/example/fresh_index/freshindex/engine/EventCounts$Outcome"), (0, u "APPLIED"), (0, u "Lcom/example/fresh_index/freshindex/engine/EventCounts$Outcome;"), (0, .fieldref 14 20), (0, .nameAndType 21 18), (0, u "SKIPPED"), (0, .fieldref 14 23), (0, .nameAndType 24 18), (0, u "PARKED"), (0, .methodref 7 26), (0, .nameAndType 27 28), (0, u "events"), (0, u "()J"), (0, .methodref 7 30), (0, .nameAndType 31 32), (0, u "plus"), (0, u "(Lcom/example/fresh_index/freshindex/engine/EventCounts$Outcome;)Lcom/example/fresh_index/freshindex/engine/EventCounts;"), (0, .class_ 34), (0, u "com/example/fresh_index/freshindex/engine/EventCountsEventsPinLaw"), (2, u "law"), (0, u "(JJJI)Z")] 5

def k1m0 : Method := { name := "<init>", desc := "()V", sig := { parameters := [], returnType := none }, accessFlags := 2, code := none }
def k1c1 : Code := { maxStack := 8, maxLocals := 24, code := code, exceptionTable := #[], attributes := #[] }
def k1m1 : Method := { name := "law", desc := "(JJJI)Z", sig := { parameters := [.long, .long, .long, .int], returnType := some .boolean }, accessFlags := 9, code := some k1c1 }
/-- com/example/fresh_index/freshindex/engine/EventCountsEventsPinLaw -/
def k1 : Class := { plain "com/example/fresh_index/freshindex/engine/EventCountsEventsPinLaw" (some 0) with
  accessFlags := 49
  interfaces := #[]
  cf := some (fileOf pool1 33 #[] #[{ accessFlags := 2, nameIndex := 5, descriptorIndex := 6, attributes := #[] }, { accessFlags := 9, nameIndex := 37, descriptorIndex := 38, attributes := #[] }] 49 2 #[] #[])
  fields := #[]
  methods := #[k1m0, k1m1]
  instanceTypes := #[]
  staticTypes := #[]
  resolved := Array.replicate 44 none
  statics := none }

def pool2 : Array CpInfo := pool [(1, .methodref 2 3), (0, .class_ 4), (0, .nameAndType 5 6), (0, u "java/lang/Object"), (0, u "<init>"), (0, u "()V"), (0, .class_ 8), (0, u "java/lang/Record")] 13

def k2c0 : Code := { maxStack := 1, maxLocals := 1, code := jdk_30_method_1_code, exceptionTable := #[], attributes := #[] }
def k2m0 : Method := { name := "<init>", desc := "()V", sig := { parameters := [], returnType := none }, accessFlags := 4, code := some k2c0 }
/-- java/lang/Record -/
def k2 : Class := { plain "java/lang/Record" (some 0) with
  accessFlags := 1057
  interfaces := #[]
  cf := some (fileOf pool2 7 #[] #[{ accessFlags := 4, nameIndex := 5, descriptorIndex := 6, attributes := #[] }] 1057 2 #[] #[])
  fields := #[]
  methods := #[k2m0]
  instanceTypes := #[]
  staticTypes := #[]
  resolved := Array.replicate 22 none
  statics := none }

def pool3 : Array CpInfo := pool [(1, .methodref 2 3), (0, .class_ 4), (0, .nameAndType 5 6), (0, u "java/lang/Record"), (0, u "<init>"), (0, u "()V"), (0, .fieldref 8 9), (0, .class_ 10), (0, .nameAndType 11 12), (0, u "com/example/fresh_index/freshindex/engine/EventCounts"), (0, u "applied"), (0, u "J"), (0, .fieldref 8 14), (0, .nameAndType 15 12), (0, u "skipped"), (0, .fieldref 8 17), (0, .nameAndType 18 12), (0, u "parked"), (5, u "events"), (0, u "()J"), (19, .fieldref 46 47), (0, .class_ 48), (0, .nameAndType 49 50), (0, u "com/example/fresh_index/freshindex/engine/EventCounts$Outcome"), (0, u "APPLIED"), (0, u "Lcom/example/fresh_index/freshindex/engine/EventCounts$Outcome;"), (0, .methodref 8 52), (0, .nameAndType 5 53), (0, u "(JJJ)V"), (0, .fieldref 46 55), (0, .nameAndType 56 50), (0, u "SKIPPED"), (14, u "NONE"), (0, u "Lcom/example/fresh_index/freshindex/engine/EventCounts;"), (7, u "plus"), (0, u "(Lcom/example/fresh_index/freshindex/engine/EventCounts$Outcome;)Lcom/example/fresh_index/freshindex/engine/EventCounts;")] 29

def k3c0 : Code := { maxStack := 3, maxLocals := 7, code := prog_11_method_1_code, exceptionTable := #[], attributes := #[] }
def k3m0 : Method := { name := "<init>", desc := "(JJJ)V", sig := { parameters := [.long, .long, .long], returnType := none }, accessFlags := 1, code := some k3c0 }
def k3c1 : Code := { maxStack := 4, maxLocals := 1, code := prog_11_method_2_code, exceptionTable := #[], attributes := #[] }
def k3m1 : Method := { name := "events", desc := "()J", sig := { parameters := [], returnType := some .long }, accessFlags := 1, code := some k3c1 }
def k3c2 : Code := { maxStack := 10, maxLocals := 3, code := prog_11_method_4_code, exceptionTable := #[], attributes := #[] }
def k3m2 : Method := { name := "plus", desc := "(Lcom/example/fresh_index/freshindex/engine/EventCounts$Outcome;)Lcom/example/fresh_index/freshindex/engine/EventCounts;", sig := { parameters := [(.object "com/example/fresh_index/freshindex/engine/EventCounts$Outcome")], returnType := some (.object "com/example/fresh_index/freshindex/engine/EventCounts") }, accessFlags := 0, code := some k3c2 }
/-- com/example/fresh_index/freshindex/engine/EventCounts -/
def k3 : Class := { plain "com/example/fresh_index/freshindex/engine/EventCounts" (some 2) with
  accessFlags := 49
  interfaces := #[]
  cf := some (fileOf pool3 8 #[.nestMembers #[46]] #[{ accessFlags := 1, nameIndex := 5, descriptorIndex := 53, attributes := #[] }, { accessFlags := 1, nameIndex := 24, descriptorIndex := 25, attributes := #[] }, { accessFlags := 0, nameIndex := 80, descriptorIndex := 81, attributes := #[] }] 49 2 #[] #[{ accessFlags := 18, nameIndex := 11, descriptorIndex := 12, attributes := #[] }, { accessFlags := 18, nameIndex := 15, descriptorIndex := 12, attributes := #[] }, { accessFlags := 18, nameIndex := 18, descriptorIndex := 12, attributes := #[] }, { accessFlags := 25, nameIndex := 71, descriptorIndex := 72, attributes := #[] }])
  fields := #[{ name := "applied", type := .long, accessFlags := 18, slot := 0, constantValue := 0 }, { name := "skipped", type := .long, accessFlags := 18, slot := 1, constantValue := 0 }, { name := "parked", type := .long, accessFlags := 18, slot := 2, constantValue := 0 }, { name := "NONE", type := (.object "com/example/fresh_index/freshindex/engine/EventCounts"), accessFlags := 25, slot := 0, constantValue := 0 }]
  methods := #[k3m0, k3m1, k3m2]
  instanceTypes := #[.long, .long, .long]
  staticTypes := #[(.object "com/example/fresh_index/freshindex/engine/EventCounts")]
  resolved := Array.replicate 111 none
  statics := none }

def pool4 : Array CpInfo := pool [(1, .class_ 2), (0, u "java/lang/constant/Constable"), (0, .class_ 4), (0, u "java/lang/Object")] 6

/-- java/lang/constant/Constable -/
def k4 : Class := { plain "java/lang/constant/Constable" (some 0) with
  accessFlags := 1537
  interfaces := #[]
  cf := some (fileOf pool4 1 #[] #[] 1537 3 #[] #[])
  fields := #[]
  methods := #[]
  instanceTypes := #[]
  staticTypes := #[]
  resolved := Array.replicate 11 none
  statics := none }

def pool5 : Array CpInfo := pool [(1, .class_ 2), (0, u "java/lang/Comparable"), (0, .class_ 4), (0, u "java/lang/Object")] 7

/-- java/lang/Comparable -/
def k5 : Class := { plain "java/lang/Comparable" (some 0) with
  accessFlags := 1537
  interfaces := #[]
  cf := some (fileOf pool5 1 #[] #[] 1537 3 #[] #[])
  fields := #[]
  methods := #[]
  instanceTypes := #[]
  staticTypes := #[]
  resolved := Array.replicate 12 none
  statics := none }

def pool6 : Array CpInfo := pool [(1, .class_ 2), (0, u "java/io/Serializable"), (0, .class_ 4), (0, u "java/lang/Object")] 2

/-- java/io/Serializable -/
def k6 : Class := { plain "java/io/Serializable" (some 0) with
  accessFlags := 1537
  interfaces := #[]
  cf := some (fileOf pool6 1 #[] #[] 1537 3 #[] #[])
  fields := #[]
  methods := #[]
  instanceTypes := #[]
  staticTypes := #[]
  resolved := Array.replicate 7 none
  statics := none }

def pool7 : Array CpInfo := pool [(2, .class_ 4), (1, u "java/lang/Enum"), (0, u "name"), (0, u "Ljava/lang/String;"), (2, u "ordinal"), (0, u "I"), (1, .class_ 14), (1, u "java/lang/Object"), (4, u "hash"), (86, .class_ 108), (1, u "java/lang/Enum$EnumDesc"), (2, .class_ 112), (0, u "java/lang/constant/Constable"), (0, .class_ 114), (0, u "java/lang/Comparable"), (0, .class_ 116), (0, u "java/io/Serializable")] 87

/-- java/lang/Enum -/
def k7 : Class := { plain "java/lang/Enum" (some 0) with
  accessFlags := 1057
  interfaces := #[4, 5, 6]
  cf := some (fileOf pool7 2 #[.nestMembers #[106]] #[] 1057 12 #[111, 113, 115] #[{ accessFlags := 18, nameIndex := 5, descriptorIndex := 6, attributes := #[] }, { accessFlags := 18, nameIndex := 9, descriptorIndex := 10, attributes := #[] }, { accessFlags := 2, nameIndex := 19, descriptorIndex := 10, attributes := #[] }])
  fields := #[{ name := "name", type := (.object "java/lang/String"), accessFlags := 18, slot := 0, constantValue := 0 }, { name := "ordinal", type := .int, accessFlags := 18, slot := 1, constantValue := 0 }, { name := "hash", type := .int, accessFlags := 2, slot := 2, constantValue := 0 }]
  methods := #[]
  instanceTypes := #[(.object "java/lang/String"), .int, .int]
  staticTypes := #[]
  resolved := Array.replicate 204 none
  statics := none }

def pool8 : Array CpInfo := pool [(1, .class_ 2), (0, u "com/example/fresh_index/freshindex/engine/EventCounts$Outcome"), (2, u "APPLIED"), (0, u "Lcom/example/fresh_index/freshindex/engine/EventCounts$Outcome;"), (2, u "SKIPPED"), (2, u "PARKED"), (2, u "$VALUES"), (0, u "[Lcom/example/fresh_index/freshindex/engine/EventCounts$Outcome;"), (6, .class_ 25), (1, u "java/lang/Enum"), (26, .class_ 53), (0, u "com/example/fresh_index/freshindex/engine/EventCounts")] 2

/-- com/example/fresh_index/freshindex/engine/EventCounts$Outcome -/
def k8 : Class := { plain "com/example/fresh_index/freshindex/engine/EventCounts$Outcome" (some 7) with
  accessFlags := 16432
  interfaces := #[]
  cf := some (fileOf pool8 1 #[.nestHost 52] #[] 16432 23 #[] #[{ accessFlags := 16409, nameIndex := 5, descriptorIndex := 6, attributes := #[] }, { accessFlags := 16409, nameIndex := 9, descriptorIndex := 6, attributes := #[] }, { accessFlags := 16409, nameIndex := 12, descriptorIndex := 6, attributes := #[] }, { accessFlags := 4122, nameIndex := 15, descriptorIndex := 16, attributes := #[] }])
  fields := #[{ name := "APPLIED", type := (.object "com/example/fresh_index/freshindex/engine/EventCounts$Outcome"), accessFlags := 16409, slot := 0, constantValue := 0 }, { name := "SKIPPED", type := (.object "com/example/fresh_index/freshindex/engine/EventCounts$Outcome"), accessFlags := 16409, slot := 1, constantValue := 0 }, { name := "PARKED", type := (.object "com/example/fresh_index/freshindex/engine/EventCounts$Outcome"), accessFlags := 16409, slot := 2, constantValue := 0 }, { name := "$VALUES", type := (.array (.object "com/example/fresh_index/freshindex/engine/EventCounts$Outcome")), accessFlags := 4122, slot := 3, constantValue := 0 }]
  methods := #[]
  instanceTypes := #[(.object "java/lang/String"), .int, .int]
  staticTypes := #[(.object "com/example/fresh_index/freshindex/engine/EventCounts$Outcome"), (.object "com/example/fresh_index/freshindex/engine/EventCounts$Outcome"), (.object "com/example/fresh_index/freshindex/engine/EventCounts$Outcome"), (.array (.object "com/example/fresh_index/freshindex/engine/EventCounts$Outcome"))]
  resolved := Array.replicate 56 none
  statics := some 0 }

def pool9 : Array CpInfo := pool [(1, u "java/lang/Cloneable"), (0, .class_ 1), (0, u "java/lang/Object"), (0, .class_ 3)] 3

/-- java/lang/Cloneable -/
def k9 : Class := { plain "java/lang/Cloneable" (some 0) with
  accessFlags := 1537
  interfaces := #[]
  cf := some (fileOf pool9 2 #[] #[] 1537 4 #[] #[])
  fields := #[]
  methods := #[]
  instanceTypes := #[]
  staticTypes := #[]
  resolved := Array.replicate 8 none
  statics := none }

/-- the primitive byte -/
def k10 : Class := { plain "byte" none with kind := .primitive 'B', accessFlags := 0x411 }
/-- [B -/
def k11 : Class := { plain "[B" (some 0) with kind := .array 10 .byte, interfaces := #[9, 6], accessFlags := 1041 }

/-- the primitive int -/
def k12 : Class := { plain "int" none with kind := .primitive 'I', accessFlags := 0x411 }
/-- [I -/
def k13 : Class := { plain "[I" (some 0) with kind := .array 12 .int, interfaces := #[9, 6], accessFlags := 1041 }

def heap : Heap := #[{ cls := 8, slots := #[.ref 1, .ref 2, .ref 3, .null], vm := .statics 8 },
  { cls := 8, slots := #[.null, .int 0, .int 0], vm := .none },
  { cls := 8, slots := #[.null, .int 1, .int 0], vm := .none },
  { cls := 8, slots := #[.null, .int 2, .int 0], vm := .none }]
def classes : Array Class := #[k0, k1, k2, k3, k4, k5, k6, k7, k8, k9, k10, k11, k12, k13]
def interned : List (Array UInt16 × Addr) := []
def slotsUsed : Nat := 13
def theMethod : MethodId := ⟨1, 1⟩
def args0 : Array Value := #[.long 5, .long 5, .long 5, .int 5]
def aboutOver (below : List Frame) : State where
  vm := { classes := classes, interned := interned.toArray }
  heap := heap
  slotsUsed := slotsUsed
  threads := #[{ frames := .invoking theMethod args0 :: below }]
def below0 : List Frame := [.native { method := ⟨0, 0⟩, args := #[] }]
def about1 : State := aboutOver below0
def p0 : Program := .bare "" "" ""
def e0 : Env := launch0.env 0 0 0
theorem w_frames : about1.frames = Frame.invoking theMethod args0 :: below0 := rfl
set_option maxRecDepth 65536 in
theorem w_args : argsFit about1.vm theMethod args0 = true := by decide +kernel
set_option maxRecDepth 65536 in
theorem w_heap : heapFits about1 = true := by decide +kernel
set_option maxRecDepth 65536 in
theorem w_runnable : about1.curStatus? = some .runnable := by decide +kernel
set_option maxRecDepth 65536 in
theorem w_alone : about1.alone = true := by decide +kernel
set_option maxRecDepth 65536 in
theorem w_named : about1.methodNamed? x = some theMethod := by decide +kernel
set_option maxRecDepth 65536 in
theorem w_hears : about1.hears theMethod below0 = true := by decide +kernel
set_option maxRecDepth 65536 in
theorem w_ripe : about1.ripe theMethod args0 below0 = true := by decide +kernel
theorem w_running : about1.status = .running := rfl
set_option maxRecDepth 65536 in
theorem w_room : about1.hasRoom e0.platform room_1 = true :=
  launch0.hasRoom_least _ room_1 (by decide +kernel) (by decide +kernel) (by decide +kernel) (by decide +kernel) (by decide +kernel) (by decide +kernel)
theorem allAtoms_all (ts : List Jvm.Cond) (a : Array Jvm.Value) (st : Jvm.State) : (allAtoms ts).before a st = ts.all (fun c => c.before a st) := by
  induction ts with
  | nil => rfl
  | cons c t ih =>
    show (Jvm.Cond.and c (allAtoms t)).before a st = _
    rw [Jvm.Cond.before_and, ih, List.all_cons]
def words1 : List Jvm.Cond := Jvm.Cond.code x code maxLocals ret :: tables_1
/-- a 'code' word, met by the world's own term for the bytes: nothing is compared byte by byte -/
theorem code_word {y : MethodName} {bytes : ByteArray} {mx : Nat} {rt : Option FieldType} {a : Array Value} {s : State} {m : MethodId} {meth : Method} {c : Code} (h1 : s.methodNamed? y = some m) (h2 : s.vm.method? m = some meth) (h3 : meth.code = some c) (h4 : c.code = bytes)
    (h5 : (c.maxLocals == mx && c.exceptionTable.isEmpty && decide (c.maxStack ≤ mostOperands) && decide (meth.sig.returnType = rt) && !meth.locks && decide (parseMethodDescriptor y.desc = some meth.sig)) = true) : (Jvm.Cond.code y bytes mx rt).before a s = true := by
  simp only [Bool.and_eq_true, beq_iff_eq, Bool.not_eq_true', decide_eq_true_eq] at h5
  obtain ⟨⟨⟨⟨⟨g1, g2⟩, g3⟩, g4⟩, g5⟩, g6⟩ := h5
  simp [Cond.before, Cond.holds, Cond.value, h1, h2, h3, h4, g1, g2, g3, g4, g5, g6]
def isCode : Jvm.Cond → Bool
  | .code _ _ _ _ => true
  | _ => false
theorem all_split {L : List Jvm.Cond} {P : Jvm.Cond → Bool} (h1 : L.all (fun c => isCode c || P c) = true) (h2 : ∀ c ∈ L.filter isCode, P c = true) : L.all P = true := by
  refine List.all_eq_true.mpr fun c hc => ?_
  have h := List.all_eq_true.mp h1 c hc
  rcases Bool.eq_false_or_eq_true (isCode c) with hi | hi
  · exact h2 c (List.mem_filter.mpr ⟨hc, hi⟩)
  · simpa [hi] using h
set_option maxRecDepth 65536 in
theorem w_c0 : (Jvm.Cond.code x code maxLocals ret).before args0 about1 = true := code_word (m := ⟨1, 1⟩) (meth := k1m1) (c := k1c1) (by decide +kernel) rfl rfl rfl (by decide +kernel)
set_option maxRecDepth 65536 in
theorem w_c1 : (Jvm.Cond.code ({ cls := "com/example/fresh_index/freshindex/engine/EventCounts", name := "<init>", desc := "(JJJ)V" } : Jvm.MethodName) prog_11_method_1_code (7 : Nat) (Option.none : Option Jvm.ClassFile.FieldType)).before args0 about1 = true := code_word (m := ⟨3, 0⟩) (meth := k3m0) (c := k3c0) (by decide +kernel) rfl rfl rfl (by decide +kernel)
set_option maxRecDepth 65536 in
theorem w_c2 : (Jvm.Cond.code ({ cls := "java/lang/Record", name := "<init>", desc := "()V" } : Jvm.MethodName) jdk_30_method_1_code (1 : Nat) (Option.none : Option Jvm.ClassFile.FieldType)).before args0 about1 = true := code_word (m := ⟨2, 0⟩) (meth := k2m0) (c := k2c0) (by decide +kernel) rfl rfl rfl (by decide +kernel)
set_option maxRecDepth 65536 in
theorem w_c3 : (Jvm.Cond.code ({ cls := "java/lang/Object", name := "<init>", desc := "()V" } : Jvm.MethodName) object_method_1_code (1 : Nat) (Option.none : Option Jvm.ClassFile.FieldType)).before args0 about1 = true := code_word (m := ⟨0, 0⟩) (meth := k0m0) (c := k0c0) (by decide +kernel) rfl rfl rfl (by decide +kernel)
set_option maxRecDepth 65536 in
theorem w_c4 : (Jvm.Cond.code ({ cls := "com/example/fresh_index/freshindex/engine/EventCounts", name := "events", desc := "()J" } : Jvm.MethodName) prog_11_method_2_code (1 : Nat) (Option.some Jvm.ClassFile.FieldType.long)).before args0 about1 = true := code_word (m := ⟨3, 1⟩) (meth := k3m1) (c := k3c1) (by decide +kernel) rfl rfl rfl (by decide +kernel)
set_option maxRecDepth 65536 in
theorem w_c5 : (Jvm.Cond.code ({ cls := "com/example/fresh_index/freshindex/engine/EventCounts", name := "plus", desc := "(Lcom/example/fresh_index/freshindex/engine/EventCounts$Outcome;)Lcom/example/fresh_index/freshindex/engine/EventCounts;" } : Jvm.MethodName) prog_11_method_4_code (3 : Nat) (Option.some (Jvm.ClassFile.FieldType.object "com/example/fresh_index/freshindex/engine/EventCounts"))).before args0 about1 = true := code_word (m := ⟨3, 2⟩) (meth := k3m2) (c := k3c2) (by decide +kernel) rfl rfl rfl (by decide +kernel)
def codes1 : List Jvm.Cond := [Jvm.Cond.code x code maxLocals ret, Jvm.Cond.code ({ cls := "com/example/fresh_index/freshindex/engine/EventCounts", name := "<init>", desc := "(JJJ)V" } : Jvm.MethodName) prog_11_method_1_code (7 : Nat) (Option.none : Option Jvm.ClassFile.FieldType), Jvm.Cond.code ({ cls := "java/lang/Record", name := "<init>", desc := "()V" } : Jvm.MethodName) jdk_30_method_1_code (1 : Nat) (Option.none : Option Jvm.ClassFile.FieldType), Jvm.Cond.code ({ cls := "java/lang/Object", name := "<init>", desc := "()V" } : Jvm.MethodName) object_method_1_code (1 : Nat) (Option.none : Option Jvm.ClassFile.FieldType), Jvm.Cond.code ({ cls := "com/example/fresh_index/freshindex/engine/EventCounts", name := "events", desc := "()J" } : Jvm.MethodName) prog_11_method_2_code (1 : Nat) (Option.some Jvm.ClassFile.FieldType.long), Jvm.Cond.code ({ cls := "com/example/fresh_index/freshindex/engine/EventCounts", name := "plus", desc := "(Lcom/example/fresh_index/freshindex/engine/EventCounts$Outcome;)Lcom/example/fresh_index/freshindex/engine/EventCounts;" } : Jvm.MethodName) prog_11_method_4_code (3 : Nat) (Option.some (Jvm.ClassFile.FieldType.object "com/example/fresh_index/freshindex/engine/EventCounts"))]
set_option maxRecDepth 65536 in
theorem codes_eq : words1.filter isCode = codes1 := rfl
theorem w_codes : ∀ c ∈ words1.filter isCode, c.before args0 about1 = true := by
  rw [codes_eq]
  intro c hc
  simp only [codes1, List.mem_cons, List.not_mem_nil, or_false] at hc
  rcases hc with rfl | rfl | rfl | rfl | rfl | rfl
  · exact w_c0
  · exact w_c1
  · exact w_c2
  · exact w_c3
  · exact w_c4
  · exact w_c5
set_option maxRecDepth 65536 in
theorem w_t1 : (words1.take 24).all (fun c => isCode c || c.before args0 about1) = true := by decide +kernel
set_option maxRecDepth 65536 in
theorem w_t2 : (words1.drop 24).all (fun c => isCode c || c.before args0 about1) = true := by decide +kernel
theorem w_tables : (allAtoms (Jvm.Cond.code x code maxLocals ret :: tables_1)).before args0 about1 = true := by
  rw [allAtoms_all]
  show words1.all (fun c => c.before args0 about1) = true
  refine all_split ?_ w_codes
  rw [← List.take_append_drop 24 words1, List.all_append, w_t1, w_t2]
  rfl
set_option maxRecDepth 65536 in
theorem w_case : (Jvm.Cond.and given_1 narrow_1).before args0 about1 = true := by decide +kernel
theorem w_applies : (headSpec (Jvm.Cond.code x code maxLocals ret :: tables_1) room_1).applies x e0.platform about1 = true :=
  (Spec.applies_iff w_frames).mpr ⟨w_running, w_runnable, w_alone, w_named, w_hears, w_ripe, w_room, w_tables⟩
theorem atStart : AtStart classFile x code maxLocals ret World_1 tables_1 room_1 Calls_1 rest_1 Pre_1 launch0 p0 e0 about1 theMethod args0 below0 :=
  ⟨lists_1, trivial, launch0.admits_env _ _ _, launch0.least_env, fairChoices_fair.cas, fairChoices_fair.clock, w_frames, w_args, w_heap, w_applies, trivial, trivial, w_case⟩
end start1
theorem witness_1 : WitnessClaimed_1 := ⟨start1.p0, start1.e0, start1.about1, start1.theMethod, start1.args0, start1.below0, start1.atStart⟩
end Jvm.Pilot.@@N@@
