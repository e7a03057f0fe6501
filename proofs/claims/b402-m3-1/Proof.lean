import JvmDerived
import JvmDerived.Pilot.@@N@@Statement
import JvmDerived.Pilot.@@N@@Code
set_option linter.unusedVariables false
set_option linter.unusedSimpArgs false
namespace Jvm.RoadKit
open Sem ClassFile Op Lib Jvm.Stand Jvm.Free Jvm.LawKit
section New
variable {p : Program} {l : Launch} {e : Env} {R : Room} {s : State} {m : MethodId} {args : Array Value} {below : List Frame} {meth : Method} {c : Code} {T : State} {locs : List Loc} {cells slots : Nat}
theorem retI (X : Stand p l e R s m args below meth c T locs cells slots) (hx : p.tables.exec = Jvm.exec) {pc : Nat} {Ls : Array Slot} {z : Int32} {rest : List Value} (hret : meth.sig.returnType = some .int) (hd : decode c.code pc = .ok (.ireturn, 1)) {fs : List Frame}
    (hl : ∀ (f : JFrame) (acts : List Action), f.method = m → f.locked = none → f.entered = [] → (doReturn e (T.setTop f) acts (some (.int z))).1 = T.setFrames fs) : Steps p.tables e below (T.setTop (mkF m pc Ls (.int z :: rest))) (T.setFrames fs) := by
  have hm' : T.vm.method? m = some meth := X.method'
  have hn : narrow .int (.int z) = .int z := rfl
  show Steps p.tables e below (T.setTop { method := m, pc := pc, locals := Ls, stack := _ :: rest, locked := none }) _
  jvm_step X.here [X.here.top, hx, hd, hm', hret, hn]
  first | (intro acts; rw [hl _ acts rfl rfl rfl]) | rw [hl _ _ rfl rfl rfl]
  exact Steps.refl _
end New
end Jvm.RoadKit
namespace Jvm.Pilot.@@N@@
open Jvm Jvm.ClassFile Sem Op Lib Jvm.Free Jvm.Stand Jvm.LawKit Jvm.RoadKit Bundle Jvm.Pilot.@@N@@.Jvm.D
def bI (P : Prop) [Decidable P] : Int32 := if P then 1 else 0
theorem own_b1 {P : Prop} [Decidable P] (h : P) : some (Value.int (1 : Int32)) = some (Value.int (bI P)) := by rw [bI, if_pos h]
theorem own_b0 {P : Prop} [Decidable P] (h : ¬ P) : some (Value.int (0 : Int32)) = some (Value.int (bI P)) := by rw [bI, if_neg h]
theorem own_c1 {P : Prop} [Decidable P] (h : P) : (1 : Int32) = bI P := by rw [bI, if_pos h]
theorem own_c0 {P : Prop} [Decidable P] (h : ¬ P) : (0 : Int32) = bI P := by rw [bI, if_neg h]
theorem own_bI {P : Prop} [Decidable P] : (P ∧ bI P = 1) ∨ (¬ P ∧ bI P = 0) := by by_cases h : P <;> simp [bI, h]
theorem own_bt {P : Prop} [Decidable P] : (P ∧ (bI P).toInt = 1) ∨ (¬ P ∧ (bI P).toInt = 0) := by by_cases h : P <;> simp [bI, h]
theorem own_nar {P : Prop} [Decidable P] : nar .boolean (bI P) = bI P := by by_cases h : P <;> simp only [bI, h, if_true, if_false] <;> decide
theorem own_lt {a b : Int32} : a < b ↔ a.toInt < b.toInt := Int32.lt_iff_toInt_lt
theorem own_nlt {a b : Int32} : ¬ (a < b) ↔ b.toInt ≤ a.toInt := by rw [own_lt]; omega
theorem own_eq {a b : Int32} : a = b ↔ a.toInt = b.toInt := Int32.toInt_inj.symm
theorem own_neq {a b : Int32} : ¬ (a = b) ↔ ¬ (a.toInt = b.toInt) := by rw [own_eq]
theorem own_ltL {a b : Int64} : a < b ↔ a.toInt < b.toInt := Int64.lt_iff_toInt_lt
theorem own_eqL {a b : Int64} : a = b ↔ a.toInt = b.toInt := Int64.toInt_inj.symm
theorem own_sk {Z : State} {h h' : Heap} {C n d K : String} {v : Value} {b : Addr} (F : Sta Z h C n d v) (Kp : Keep h h' [b]) (E : Exa Z h b K) : Sta Z h' C n d v := by
  obtain ⟨cf, i, k, f, st, cell, h1, h2, h3, h4, h5, h6, h7⟩ := F
  refine ⟨cf, i, k, f, st, cell, h1, h2, h3, h4, Kp.2.1 st cell h5 (fun q => ?_), h6, h7⟩
  obtain ⟨cl, kk, e1, e2, e3, e4, e5⟩ := E
  have q' := List.mem_singleton.mp q
  subst q'
  rw [h5] at e1
  cases e1
  rw [h6] at e4
  cases e4
theorem own_eqI {t : Term} {k : Int32} {args : Array Value} {Z : State} (h : (Jvm.Cond.eq t (Term.int k)).value args Z none Z [] = some true) : t.eval args Z none [] Z = some (.int k) := by
  obtain ⟨x, y, hx, hy, K1, K2⟩ := cmp_v (Or.inl h)
  have hy' : y = .int k := by simpa [Term.eval] using hy.symm
  subst hy'
  obtain ⟨z, rfl⟩ := K2
  have q : z = k := by simpa [Jvm.Cond.value, hx, Term.eval] using h
  rw [hx, q]
theorem own_fldI {t : Term} {C n d : String} {k : Int32} {a : Addr} {args : Array Value} {Z : State} (ev : t.eval args Z none [] Z = some (.ref a)) (h : (Jvm.Cond.eq (Term.field t C n d) (Term.int k)).value args Z none Z [] = some true) : Z.fieldOf? a C n d = some (.int k) := by
  rw [← fld_at ev]; exact own_eqI h
theorem own_ford {C n d : String} {k k' : Int32} {a b : Addr} {Z : State} (h1 : Z.fieldOf? a C n d = some (.int k)) (h2 : Z.fieldOf? b C n d = some (.int k')) (hk : k ≠ k') : a ≠ b := fun q => by
  rw [q, h2] at h1
  exact hk (Value.int.inj (Option.some.inj h1)).symm
theorem own_s0 {Z : State} {h h' : Heap} {C n d : String} {v : Value} (F : Sta Z h C n d v) (Kp : Keep h h' []) : Sta Z h' C n d v := by
  obtain ⟨cf, i, k, f, st, cell, h1, h2, h3, h4, h5, h6, h7⟩ := F
  exact ⟨cf, i, k, f, st, cell, h1, h2, h3, h4, Kp.2.1 st cell h5 (by simp), h6, h7⟩
theorem own_a0 {Z : State} {h h' : Heap} {a : Addr} {c : Cell} {ty : FieldType} (A : Arr Z h a c ty) (Kp : Keep h h' []) : Arr Z h' a c ty := ⟨Kp.2.1 a c A.1 (by simp), A.2⟩
theorem own_f0 {Z : State} {h h' : Heap} {C n d : String} {a : Addr} {v : Value} (F : Fld Z h a C n d v) (Kp : Keep h h' []) : Fld Z h' a C n d v := F.keep Kp (by simp)
theorem own_no2 {Z : State} {a0 : Array Value} {C S O K : String} {n : Nat} (w1 : (Jvm.Cond.superclass C S).before a0 Z = true) (w2 : (Jvm.Cond.superclass S O).before a0 Z = true) (w3 : (Jvm.Cond.noSuperclass O).before a0 Z = true) (wk : (Jvm.Cond.instantiable K n).before a0 Z = true)
    (n1 : C ≠ K) (n2 : S ≠ K) (n3 : O ≠ K) : ∃ c t, Z.vm.findClass C = some c ∧ Z.vm.findClass K = some t ∧ Z.vm.assignable c t = false := by
  obtain ⟨t, kt, ht, hkt, ho, hi, -, -⟩ := Cond.instantiable_spec wk
  obtain ⟨cO, kO, hO, hkO, hs, -, -⟩ := Cond.noSuperclass_spec w3
  have neO := ids_ne hO ht n3
  have r0 : NS Z O K := ⟨cO, t, hO, ht, fun fuel => by cases fuel with
    | zero => rfl
    | succ f => simp [Vm.isSubclassAux, neO, hkO, hs]⟩
  obtain ⟨c, t', h0, g0, n3'⟩ := NS.step w1 (NS.step w2 r0 n2) n1
  cases ht.symm.trans g0
  obtain ⟨p, k, kp, h1, h2, h3, h4, h5, -, h7⟩ := Cond.superclass_spec h0 w1
  have ne := ids_ne h0 ht n1
  have hi' : kt.isInterface = false := by simp only [Bool.or_eq_false_iff] at hi; exact hi.1
  refine ⟨c, t, h0, ht, ?_⟩
  show Z.vm.assignableAux (255 + 1) c t = false
  simp [Vm.assignableAux, ne, h2, hkt, h5, ho, hi', Vm.isSubclass, n3']
theorem own_box {Z : State} {args : Array Value} {t : Term} {K : String} {X : Jvm.Cond} {a : Addr} {c : Cell} (et : ∀ idx, t.eval args Z none idx Z = some (.ref a)) (A : Arr Z Z.heap a c (.object K))
    (h : (Jvm.Cond.all t (.and (.exactly (.elem t (.index 0)) K) X)).value args Z none Z [] = some true) (j : Int32) (hj : ¬ (j < 0 ∨ c.slots.size ≤ j.toNatClampNeg)) : ∃ b : Addr, c.slots[j.toNatClampNeg]? = some (.ref b) ∧ Exa Z Z.heap b K := by
  have nn : ¬ j < 0 := fun x => hj (Or.inl x)
  have u := (and_e (Cond.all_elim (et []) (A.fin (Vm.Alike.refl _)) h j.toNatClampNeg (Nat.lt_of_not_le fun x => hj (Or.inr x)))).1
  obtain ⟨box, eb⟩ := exa_v u
  exact ⟨box, (elem_f (et _) (idx_at nn) (A.fin (Vm.Alike.refl _)) nn).symm.trans eb, exa_at eb u⟩
theorem own_len {Z : State} {args : Array Value} {t : Term} {a : Addr} {c : Cell} {ty : FieldType} {z : Int32} (ev : t.eval args Z none [] Z = some (.ref a)) (A : Arr Z Z.heap a c ty) (h : (Term.length t).eval args Z none [] Z = some (.int z)) : c.slots.size < 2 ^ 31 ∧ c.slots.size.toInt32 = z := by
  have ha := A.fin (Vm.Alike.refl _)
  simpa [Term.eval, ev, ha] using h
theorem own_size {c : Cell} {z : Int32} {n : Nat} (h : c.slots.size < 2 ^ 31 ∧ c.slots.size.toInt32 = z) (hz : z.toInt = n) : c.slots.size = n := by
  have q := len_toInt h.1
  rw [h.2] at q
  omega
theorem own_eqR {t u : Term} {b : Addr} {args : Array Value} {Z : State} (hu : u.eval args Z none [] Z = some (.ref b)) (h : (Jvm.Cond.eq t u).value args Z none Z [] = some true) : t.eval args Z none [] Z = some (.ref b) := by
  obtain ⟨x, y, hx, hy, K1, K2⟩ := cmp_v (Or.inl h)
  cases hu.symm.trans hy
  have hr : x.isRef = true := K2.2
  have e := eq_R hx hu hr rfl
  rw [h] at e
  rw [hx, of_decide_eq_true (Option.some.inj e).symm]
theorem own_rew {s t : State} {o : Outcome} {L : List Loc} {k n k' n' : Nat} (h : ReturnedEndW s o t L k n) (hk : k ≤ k') (hn : n ≤ n') : ReturnedEndW s o t L k' n' := ⟨h.1, h.2.1, h.2.2.1, h.2.2.2.mono hk hn⟩
theorem own_m31 (x : Int32) : (x &&& (2147483647 : Int32)).toInt = x.toInt % 2147483648 := c_mask x (2147483647 : Int32) 31 (by decide) (by decide)
theorem own_mrem (x y : Int32) (d : Int) (hy : y.toInt = d) : ((x &&& (2147483647 : Int32)) % y).toInt = (x.toInt % 2147483648) % d := by
  have h := own_m31 x
  rw [(c_irem _ y d hy).1 (by omega), h]
theorem ef_1 (m : MethodId) (x0 : Addr) (x1 : Int32) (x2 : Int32) : entryFrame m #[(.ref x0), (.int x1), (.int x2)] 3 = mkF m 0 #[.val (.ref x0), .val (.int x1), .val (.int x2)] [] := by first | (simp [entryFrame, mkF, argsToLocals, Value.category]; done) | rfl
theorem pn_com_example_acker_acker_engine_Backoff : plainName "com/example/acker/acker/engine/Backoff" = true := by first | (simp [plainName, overriddenIn]; done) | decide +kernel
theorem d1_0 : decode prog_2_method_1_code 0 = .ok (.aload_n 0, 1) := by decide +kernel
theorem d1_1 : decode prog_2_method_1_code 1 = .ok (.invokespecial 1, 3) := by decide +kernel
theorem d1_4 : decode prog_2_method_1_code 4 = .ok (.iload_n 1, 1) := by decide +kernel
theorem d1_5 : decode prog_2_method_1_code 5 = .ok (.ifCond .lt 9, 3) := by decide +kernel
theorem d1_8 : decode prog_2_method_1_code 8 = .ok (.iload_n 1, 1) := by decide +kernel
theorem d1_9 : decode prog_2_method_1_code 9 = .ok (.ldc 9, 2) := by decide +kernel
theorem d1_11 : decode prog_2_method_1_code 11 = .ok (.if_icmp .le 13, 3) := by decide +kernel
theorem d1_24 : decode prog_2_method_1_code 24 = .ok (.iload_n 2, 1) := by decide +kernel
theorem d1_25 : decode prog_2_method_1_code 25 = .ok (.ifCond .lt 9, 3) := by decide +kernel
theorem d1_28 : decode prog_2_method_1_code 28 = .ok (.iload_n 2, 1) := by decide +kernel
theorem d1_29 : decode prog_2_method_1_code 29 = .ok (.ldc 9, 2) := by decide +kernel
theorem d1_31 : decode prog_2_method_1_code 31 = .ok (.if_icmp .le 13, 3) := by decide +kernel
theorem d1_44 : decode prog_2_method_1_code 44 = .ok (.aload_n 0, 1) := by decide +kernel
theorem d1_45 : decode prog_2_method_1_code 45 = .ok (.iload_n 1, 1) := by decide +kernel
theorem d1_46 : decode prog_2_method_1_code 46 = .ok (.putfield 19, 3) := by decide +kernel
theorem d1_49 : decode prog_2_method_1_code 49 = .ok (.aload_n 0, 1) := by decide +kernel
theorem d1_50 : decode prog_2_method_1_code 50 = .ok (.iload_n 2, 1) := by decide +kernel
theorem d1_51 : decode prog_2_method_1_code 51 = .ok (.putfield 23, 3) := by decide +kernel
theorem d1_54 : decode prog_2_method_1_code 54 = .ok (.return_, 1) := by decide +kernel
theorem ef_3 (m : MethodId) (x0 : Addr) : entryFrame m #[(.ref x0)] 1 = mkF m 0 #[.val (.ref x0)] [] := by first | (simp [entryFrame, mkF, argsToLocals, Value.category]; done) | rfl
theorem d3_0 : decode prog_2_method_6_code 0 = .ok (.aload_n 0, 1) := by decide +kernel
theorem d3_1 : decode prog_2_method_6_code 1 = .ok (.getfield 19, 3) := by decide +kernel
theorem d3_4 : decode prog_2_method_6_code 4 = .ok (.bipush 31, 2) := by decide +kernel
theorem d3_6 : decode prog_2_method_6_code 6 = .ok (.imul, 1) := by decide +kernel
theorem d3_7 : decode prog_2_method_6_code 7 = .ok (.aload_n 0, 1) := by decide +kernel
theorem d3_8 : decode prog_2_method_6_code 8 = .ok (.getfield 23, 3) := by decide +kernel
theorem d3_11 : decode prog_2_method_6_code 11 = .ok (.iadd, 1) := by decide +kernel
theorem d3_12 : decode prog_2_method_6_code 12 = .ok (.ireturn, 1) := by decide +kernel
theorem ef_4 (m : MethodId) (x0 : Addr) (x1 : Addr) : entryFrame m #[(.ref x0), (.ref x1)] 2 = mkF m 0 #[.val (.ref x0), .val (.ref x1)] [] := by first | (simp [entryFrame, mkF, argsToLocals, Value.category]; done) | rfl
theorem d4_0 : decode prog_2_method_5_code 0 = .ok (.aload_n 1, 1) := by decide +kernel
theorem d4_1 : decode prog_2_method_5_code 1 = .ok (.instanceof 7, 3) := by decide +kernel
theorem d4_4 : decode prog_2_method_5_code 4 = .ok (.ifCond .eq 35, 3) := by decide +kernel
theorem d4_7 : decode prog_2_method_5_code 7 = .ok (.aload_n 1, 1) := by decide +kernel
theorem d4_8 : decode prog_2_method_5_code 8 = .ok (.checkcast 7, 3) := by decide +kernel
theorem d4_11 : decode prog_2_method_5_code 11 = .ok (.getfield 19, 3) := by decide +kernel
theorem d4_14 : decode prog_2_method_5_code 14 = .ok (.aload_n 0, 1) := by decide +kernel
theorem d4_15 : decode prog_2_method_5_code 15 = .ok (.getfield 19, 3) := by decide +kernel
theorem d4_18 : decode prog_2_method_5_code 18 = .ok (.if_icmp .ne 21, 3) := by decide +kernel
theorem d4_21 : decode prog_2_method_5_code 21 = .ok (.aload_n 1, 1) := by decide +kernel
theorem d4_22 : decode prog_2_method_5_code 22 = .ok (.checkcast 7, 3) := by decide +kernel
theorem d4_25 : decode prog_2_method_5_code 25 = .ok (.getfield 23, 3) := by decide +kernel
theorem d4_28 : decode prog_2_method_5_code 28 = .ok (.aload_n 0, 1) := by decide +kernel
theorem d4_29 : decode prog_2_method_5_code 29 = .ok (.getfield 23, 3) := by decide +kernel
theorem d4_32 : decode prog_2_method_5_code 32 = .ok (.if_icmp .ne 7, 3) := by decide +kernel
theorem d4_35 : decode prog_2_method_5_code 35 = .ok (.iconst 1, 1) := by decide +kernel
theorem d4_36 : decode prog_2_method_5_code 36 = .ok (.goto 4, 3) := by decide +kernel
theorem d4_40 : decode prog_2_method_5_code 40 = .ok (.ireturn, 1) := by decide +kernel
theorem d4_39 : decode prog_2_method_5_code 39 = .ok (.iconst 0, 1) := by decide +kernel
theorem ef_0 (m : MethodId) (x0 : Int32) (x1 : Int32) (x2 : Int32) (x3 : Int32) (x4 : Int32) : entryFrame m #[(.int x0), (.int x1), (.int x2), (.int x3), (.int x4)] maxLocals = mkF m 0 #[.val (.int x0), .val (.int x1), .val (.int x2), .val (.int x3), .val (.int x4), .unset, .unset, .unset, .unset, .unset, .unset, .unset, .unset, .unset, .unset] [] := by first | (simp [entryFrame, mkF, argsToLocals, Value.category, maxLocals]; done) | rfl
theorem pn_com_example_acker_acker_engine_BackoffHashCodePinLaw : plainName "com/example/acker/acker/engine/BackoffHashCodePinLaw" = true := by first | (simp [plainName, overriddenIn]; done) | decide +kernel
theorem pd_0 : parseMethodDescriptor "(II)V" = some ⟨[.int, .int], none⟩ := by decide +kernel
theorem pd_1 : parseMethodDescriptor "()I" = some ⟨[], some .int⟩ := by decide +kernel
theorem pd_2 : parseMethodDescriptor "(Ljava/lang/Object;)Z" = some ⟨[(.object "java/lang/Object")], some .boolean⟩ := by decide +kernel
def Q1 (Z : State) (r0 : Addr) (p1 : Int32) (p2 : Int32) (h0 : Heap) (n0 : Nat) (v : Option Value) (h : Heap) (L : List Loc) : Prop := v = none ∧ Fr n0 L ∧ Keep h0 h [r0] ∧ Exa Z h r0 "com/example/acker/acker/engine/Backoff" ∧ Fld Z h r0 "com/example/acker/acker/engine/Backoff" "initialSeconds" "I" (.int p1) ∧ Fld Z h r0 "com/example/acker/acker/engine/Backoff" "maxSeconds" "I" (.int p2)
set_option maxRecDepth 65536 in
set_option maxHeartbeats 40000000 in
theorem rm1 (l : Launch) (Z : State) (a0 : Array Value) (hw : ∀ d ∈ tables_1, d.before a0 Z = true) (ws : List Jvm.Cond) (r0 : Addr) (p1 : Int32) (p2 : Int32) (h0 : Heap) (n0 : Nat) (Z0 : n0 ≤ h0.size) (E_r0 : Exa Z h0 r0 "com/example/acker/acker/engine/Backoff") (F_0 : Fld Z h0 r0 "com/example/acker/acker/engine/Backoff" "initialSeconds" "I" (.int (0 : Int32))) (F_1 : Fld Z h0 r0 "com/example/acker/acker/engine/Backoff" "maxSeconds" "I" (.int (0 : Int32))) (g_r0 : n0 ≤ r0) (hp1 : 0 ≤ p1.toInt ∧ p1.toInt ≤ 43200) (hp2 : 0 ≤ p2.toInt ∧ p2.toInt ≤ 43200) :
    MetFree l (⟨"com/example/acker/acker/engine/Backoff", "<init>", "(II)V"⟩ : MethodName) (head1 (Jvm.Cond.code (⟨"com/example/acker/acker/engine/Backoff", "<init>", "(II)V"⟩ : MethodName) prog_2_method_1_code 3 none :: ws) ({ frames := 1, cells := 0, slots := 0, locals := 12 } : Room)) (fun a U => a = #[(.ref r0), (.int p1), (.int p2)] ∧ Z.Warmed39 U.vm ∧ U.heap = h0) (fun _ _ _ _ _ => True) (fun _ U o U' => ∃ v L, o = .returned v ∧ Q1 Z r0 p1 p2 h0 n0 v U'.heap L ∧ FrameEnd U o U' L ({ frames := 1, cells := 0, slots := 0, locals := 12 } : Room).cells ({ frames := 1, cells := 0, slots := 0, locals := 12 } : Room).slots) := by
  refine MetFree.of_bodySF (plainFor_of_name pn_com_example_acker_acker_engine_Backoff) hisR ?_
  intro p e s m args below meth c s₁ Bd hml0 hP hK
  obtain ⟨rfl, hZ, hh⟩ := hP
  have hx := Bd.exec
  have hby := Bd.bytes
  have hml : c.maxLocals = 3 := hml0
  have hown : s.vm.findClass "com/example/acker/acker/engine/Backoff" = some m.cls := findClass_of_methodNamed Bd.named
  have hnm := (name_of_methodNamed Bd.named Bd.method).1
  have X0 : Stand p l e ({ frames := 1, cells := 0, slots := 0, locals := 12 } : Room) s m #[(.ref r0), (.int p1), (.int p2)] below meth c s₁ [] 0 0 := Stand.of_body Bd
  have e0 : s₁.heap = h0 := by rw [← hh, Bd.state]; rfl
  have N0 := Fr.nil n0
  have pre0 : ∀ t, Steps p.tables e below (s₁.setTop (mkF m 0 #[.val (.ref r0), .val (.int p1), .val (.int p2)] [])) t → Steps p.tables e below (s₁.setTop (entryFrame m #[(.ref r0), (.int p1), (.int p2)] 3)) t := fun t k => castTop (ef_1 m r0 p1 p2) k
  have preS : ∀ t, Steps p.tables e below (s₁.setTop (mkF m 0 #[.val (.ref r0), .val (.int p1), .val (.int p2)] [])) t → Steps p.tables e below (s₁.setTop (mkF m 0 #[.val (.ref r0), .val (.int p1), .val (.int p2)] [])) t := fun t k => k
  have KR : Keep h0 h0 [r0] := Keep.refl _ _
  obtain ⟨T1, X1, e1, st1⟩ := initO X0 hx hZ hown (hw _ (List.mem_of_getElem? (i := 8) rfl)) (hw _ (List.mem_of_getElem? (i := 9) rfl)) (hw _ (List.mem_of_getElem? (i := 10) rfl)) e0 (g := (mkF m 1 #[.val (.ref r0), .val (.int p1), .val (.int p2)] [(.ref r0)])) rfl (by rw [hml]; rfl) rfl (hb hby d1_1) (by decide) (W := 0) (by show 2 * 0 + _ ≤ _; exact Nat.le_of_eq rfl) (by decide)
  have hc2 : ¬ (p1 < (0 : Int32)) := own_nlt.mpr (show 0 ≤ p1.toInt by omega)
  have ohc2 : 0 ≤ p1.toInt := own_nlt.mp hc2
  have hc3 : ¬ ((43200 : Int32) < p1) := own_nlt.mpr (show p1.toInt ≤ 43200 by omega)
  have ohc3 : p1.toInt ≤ 43200 := own_nlt.mp hc3
  have hc4 : ¬ (p2 < (0 : Int32)) := own_nlt.mpr (show 0 ≤ p2.toInt by omega)
  have ohc4 : 0 ≤ p2.toInt := own_nlt.mp hc4
  have hc5 : ¬ ((43200 : Int32) < p2) := own_nlt.mpr (show p2.toInt ≤ 43200 by omega)
  have ohc5 : p2.toInt ≤ 43200 := own_nlt.mp hc5
  obtain ⟨T6, h6, X6, e6, W6, st6⟩ := putF X1 hx hZ hown (host := "") (Or.inl (hw _ (List.mem_of_getElem? (i := 12) rfl))) Via.refl e1 F_0 E_r0 (Or.inr ⟨(hw _ (List.mem_of_getElem? (i := 13) rfl)), rfl, hnm⟩) (hw _ (List.mem_of_getElem? (i := 3) rfl)) (ty := .int) (by decide) rfl rfl (g := (mkF m 46 #[.val (.ref r0), .val (.int p1), .val (.int p2)] [(.int p1), (.ref r0)])) rfl rfl (hb hby d1_46)
  have Fw6 : Fld Z h6 r0 "com/example/acker/acker/engine/Backoff" "initialSeconds" "I" (.int p1) := F_0.same W6
  have N6 := Fr.snoc X6 N0 g_r0
  have Z6 : n0 ≤ h6.size := Nat.le_trans Z0 (Keep.of_wr W6).1
  have K6 : Keep h0 h6 [r0] := KR.wr W6 (Or.inl (List.mem_of_getElem? (i := 0) rfl))
  have c7 : Exa Z h6 r0 "com/example/acker/acker/engine/Backoff" := E_r0.wr W6
  have c8 : Fld Z h6 r0 "com/example/acker/acker/engine/Backoff" "maxSeconds" "I" (.int (0 : Int32)) := F_1.other W6 (Or.inr (slot_ne (Or.inr (hw _ (List.mem_of_getElem? (i := 15) rfl))) (Or.inr (hw _ (List.mem_of_getElem? (i := 13) rfl))) (by decide) (t := .int) (t' := .int) (by decide) (by decide)))
  obtain ⟨T9, h9, X9, e9, W9, st9⟩ := putF X6 hx hZ hown (host := "") (Or.inl (hw _ (List.mem_of_getElem? (i := 14) rfl))) Via.refl e6 c8 c7 (Or.inr ⟨(hw _ (List.mem_of_getElem? (i := 15) rfl)), rfl, hnm⟩) (hw _ (List.mem_of_getElem? (i := 3) rfl)) (ty := .int) (by decide) rfl rfl (g := (mkF m 51 #[.val (.ref r0), .val (.int p1), .val (.int p2)] [(.int p2), (.ref r0)])) rfl rfl (hb hby d1_51)
  have Fw9 : Fld Z h9 r0 "com/example/acker/acker/engine/Backoff" "maxSeconds" "I" (.int p2) := c8.same W9
  have N9 := Fr.snoc X9 N6 g_r0
  have Z9 : n0 ≤ h9.size := Nat.le_trans Z6 (Keep.of_wr W9).1
  have K9 : Keep h0 h9 [r0] := K6.wr W9 (Or.inl (List.mem_of_getElem? (i := 0) rfl))
  have c10 : Exa Z h9 r0 "com/example/acker/acker/engine/Backoff" := c7.wr W9
  have c11 : Fld Z h9 r0 "com/example/acker/acker/engine/Backoff" "initialSeconds" "I" (.int p1) := Fw6.other W9 (Or.inr (slot_ne (Or.inr (hw _ (List.mem_of_getElem? (i := 13) rfl))) (Or.inr (hw _ (List.mem_of_getElem? (i := 15) rfl))) (by decide) (t := .int) (t' := .int) (by decide) (by decide)))
  obtain ⟨fs, hr, hrun, hended, hW, hsame⟩ := X9.leave (v := none) (fun _ => rfl)
  refine ⟨_, _, pre0 _ (preS _ ?_), hrun, hended, _, _, rfl, ?_, ⟨_, rfl⟩, hW, hsame.mono (by decide) (by decide)⟩
  · skip
    show Steps p.tables e below (s₁.setTop (mkF m 0 #[.val (.ref r0), .val (.int p1), .val (.int p2)] [])) _
    refine XS.aloadN X0.here hx rfl (hb hby d1_0) rfl rfl ?_
    show Steps p.tables e below (s₁.setTop (mkF m 1 #[.val (.ref r0), .val (.int p1), .val (.int p2)] [(.ref r0)])) _
    refine st1 _ ?_
    show Steps p.tables e below (T1.setTop (mkF m 4 #[.val (.ref r0), .val (.int p1), .val (.int p2)] [])) _
    refine XS.iloadN X1.here hx rfl (hb hby d1_4) rfl ?_
    show Steps p.tables e below (T1.setTop (mkF m 5 #[.val (.ref r0), .val (.int p1), .val (.int p2)] [(.int p1)])) _
    refine XS.ifNo X1.here hx rfl (hb hby d1_5) rfl ((if0 _ _).trans (flt hc2).1) ?_
    show Steps p.tables e below (T1.setTop (mkF m 8 #[.val (.ref r0), .val (.int p1), .val (.int p2)] [])) _
    refine XS.iloadN X1.here hx rfl (hb hby d1_8) rfl ?_
    show Steps p.tables e below (T1.setTop (mkF m 9 #[.val (.ref r0), .val (.int p1), .val (.int p2)] [(.int p1)])) _
    refine X1.ldcInt hx hown (mvT hZ (hw _ (List.mem_of_getElem? (i := 11) rfl))) (g := (mkF m 9 #[.val (.ref r0), .val (.int p1), .val (.int p2)] [(.int p1)])) rfl (hb hby d1_9) _ ?_
    show Steps p.tables e below (T1.setTop (mkF m 11 #[.val (.ref r0), .val (.int p1), .val (.int p2)] [(.int (43200 : Int32)), (.int p1)])) _
    refine XS.icmpYes X1.here hx rfl (pc0 := 11) (pc' := 24) rfl (hb hby d1_11) rfl (flt hc3).2.2.2 (by decide) (by decide) ?_
    show Steps p.tables e below (T1.setTop (mkF m 24 #[.val (.ref r0), .val (.int p1), .val (.int p2)] [])) _
    refine XS.iloadN X1.here hx rfl (hb hby d1_24) rfl ?_
    show Steps p.tables e below (T1.setTop (mkF m 25 #[.val (.ref r0), .val (.int p1), .val (.int p2)] [(.int p2)])) _
    refine XS.ifNo X1.here hx rfl (hb hby d1_25) rfl ((if0 _ _).trans (flt hc4).1) ?_
    show Steps p.tables e below (T1.setTop (mkF m 28 #[.val (.ref r0), .val (.int p1), .val (.int p2)] [])) _
    refine XS.iloadN X1.here hx rfl (hb hby d1_28) rfl ?_
    show Steps p.tables e below (T1.setTop (mkF m 29 #[.val (.ref r0), .val (.int p1), .val (.int p2)] [(.int p2)])) _
    refine X1.ldcInt hx hown (mvT hZ (hw _ (List.mem_of_getElem? (i := 11) rfl))) (g := (mkF m 29 #[.val (.ref r0), .val (.int p1), .val (.int p2)] [(.int p2)])) rfl (hb hby d1_29) _ ?_
    show Steps p.tables e below (T1.setTop (mkF m 31 #[.val (.ref r0), .val (.int p1), .val (.int p2)] [(.int (43200 : Int32)), (.int p2)])) _
    refine XS.icmpYes X1.here hx rfl (pc0 := 31) (pc' := 44) rfl (hb hby d1_31) rfl (flt hc5).2.2.2 (by decide) (by decide) ?_
    show Steps p.tables e below (T1.setTop (mkF m 44 #[.val (.ref r0), .val (.int p1), .val (.int p2)] [])) _
    refine XS.aloadN X1.here hx rfl (hb hby d1_44) rfl rfl ?_
    show Steps p.tables e below (T1.setTop (mkF m 45 #[.val (.ref r0), .val (.int p1), .val (.int p2)] [(.ref r0)])) _
    refine XS.iloadN X1.here hx rfl (hb hby d1_45) rfl ?_
    show Steps p.tables e below (T1.setTop (mkF m 46 #[.val (.ref r0), .val (.int p1), .val (.int p2)] [(.int p1), (.ref r0)])) _
    refine st6 _ ?_
    show Steps p.tables e below (T6.setTop (mkF m 49 #[.val (.ref r0), .val (.int p1), .val (.int p2)] [])) _
    refine XS.aloadN X6.here hx rfl (hb hby d1_49) rfl rfl ?_
    show Steps p.tables e below (T6.setTop (mkF m 50 #[.val (.ref r0), .val (.int p1), .val (.int p2)] [(.ref r0)])) _
    refine XS.iloadN X6.here hx rfl (hb hby d1_50) rfl ?_
    show Steps p.tables e below (T6.setTop (mkF m 51 #[.val (.ref r0), .val (.int p1), .val (.int p2)] [(.int p2), (.ref r0)])) _
    refine st9 _ ?_
    show Steps p.tables e below (T9.setTop (mkF m 54 #[.val (.ref r0), .val (.int p1), .val (.int p2)] [])) _
    exact X9.returnOut hx Bd.returns (hb hby d1_54) hr
  · show Q1 Z r0 p1 p2 h0 n0 _ T9.heap _
    rw [e9]
    exact ⟨rfl, N9, K9, c10, c11, Fw9⟩
def Q3 (Z : State) (r0 : Addr) (w0 : Int32) (w1 : Int32) (h0 : Heap) (n0 : Nat) (v : Option Value) (h : Heap) (L : List Loc) : Prop := v = some (.int ((w0 * (31 : Int32)) + w1)) ∧ Fr n0 L ∧ h = h0
set_option maxRecDepth 65536 in
set_option maxHeartbeats 40000000 in
theorem rm3 (l : Launch) (Z : State) (a0 : Array Value) (hw : ∀ d ∈ tables_1, d.before a0 Z = true) (ws : List Jvm.Cond) (r0 : Addr) (w0 : Int32) (w1 : Int32) (h0 : Heap) (n0 : Nat) (Z0 : n0 ≤ h0.size) (F0 : Fld Z h0 r0 "com/example/acker/acker/engine/Backoff" "initialSeconds" "I" (.int w0)) (F1 : Fld Z h0 r0 "com/example/acker/acker/engine/Backoff" "maxSeconds" "I" (.int w1)) :
    MetFree l (⟨"com/example/acker/acker/engine/Backoff", "hashCode", "()I"⟩ : MethodName) (head1 (Jvm.Cond.code (⟨"com/example/acker/acker/engine/Backoff", "hashCode", "()I"⟩ : MethodName) prog_2_method_6_code 1 (some .int) :: ws) ({ frames := 0, cells := 0, slots := 0, locals := 0 } : Room)) (fun a U => a = #[(.ref r0)] ∧ Z.Warmed39 U.vm ∧ U.heap = h0) (fun _ _ _ _ _ => True) (fun _ U o U' => ∃ v L, o = .returned v ∧ Q3 Z r0 w0 w1 h0 n0 v U'.heap L ∧ FrameEnd U o U' L ({ frames := 0, cells := 0, slots := 0, locals := 0 } : Room).cells ({ frames := 0, cells := 0, slots := 0, locals := 0 } : Room).slots) := by
  refine MetFree.of_bodySF (plainFor_of_name pn_com_example_acker_acker_engine_Backoff) hisR ?_
  intro p e s m args below meth c s₁ Bd hml0 hP hK
  obtain ⟨rfl, hZ, hh⟩ := hP
  have hx := Bd.exec
  have hby := Bd.bytes
  have hml : c.maxLocals = 1 := hml0
  have hown : s.vm.findClass "com/example/acker/acker/engine/Backoff" = some m.cls := findClass_of_methodNamed Bd.named
  have hnm := (name_of_methodNamed Bd.named Bd.method).1
  have X0 : Stand p l e ({ frames := 0, cells := 0, slots := 0, locals := 0 } : Room) s m #[(.ref r0)] below meth c s₁ [] 0 0 := Stand.of_body Bd
  have e0 : s₁.heap = h0 := by rw [← hh, Bd.state]; rfl
  have N0 := Fr.nil n0
  have pre0 : ∀ t, Steps p.tables e below (s₁.setTop (mkF m 0 #[.val (.ref r0)] [])) t → Steps p.tables e below (s₁.setTop (entryFrame m #[(.ref r0)] 1)) t := fun t k => castTop (ef_3 m r0) k
  have preS : ∀ t, Steps p.tables e below (s₁.setTop (mkF m 0 #[.val (.ref r0)] [])) t → Steps p.tables e below (s₁.setTop (mkF m 0 #[.val (.ref r0)] [])) t := fun t k => k
  obtain ⟨T1, X1, e1, st1⟩ := getF X0 hx hZ hown (host := "") (Or.inl (hw _ (List.mem_of_getElem? (i := 12) rfl))) Via.refl e0 F0 (g := (mkF m 1 #[.val (.ref r0)] [(.ref r0)])) rfl rfl (hb hby d3_1)
  obtain ⟨T2, X2, e2, st2⟩ := getF X1 hx hZ hown (host := "") (Or.inl (hw _ (List.mem_of_getElem? (i := 14) rfl))) Via.refl e1 F1 (g := (mkF m 8 #[.val (.ref r0)] [(.ref r0), (.int (w0 * (31 : Int32)))])) rfl rfl (hb hby d3_8)
  obtain ⟨fs, hr, hrun, hended, hW, hsame⟩ := X2.leave (v := some (.int ((w0 * (31 : Int32)) + w1))) (fun h => by rw [Bd.returns] at h; cases h)
  refine ⟨_, _, pre0 _ (preS _ ?_), hrun, hended, _, _, rfl, ?_, ⟨_, rfl⟩, hW, hsame.mono (by decide) (by decide)⟩
  · skip
    show Steps p.tables e below (s₁.setTop (mkF m 0 #[.val (.ref r0)] [])) _
    refine XS.aloadN X0.here hx rfl (hb hby d3_0) rfl rfl ?_
    show Steps p.tables e below (s₁.setTop (mkF m 1 #[.val (.ref r0)] [(.ref r0)])) _
    refine st1 _ ?_
    show Steps p.tables e below (T1.setTop (mkF m 4 #[.val (.ref r0)] [(.int w0)])) _
    refine XS.bipush X1.here hx rfl (hb hby d3_4) ?_
    show Steps p.tables e below (T1.setTop (mkF m 6 #[.val (.ref r0)] [(.int (31 : Int32)), (.int w0)])) _
    refine XS.imul X1.here hx rfl (hb hby d3_6) rfl ?_
    show Steps p.tables e below (T1.setTop (mkF m 7 #[.val (.ref r0)] [(.int (w0 * (31 : Int32)))])) _
    refine XS.aloadN X1.here hx rfl (hb hby d3_7) rfl rfl ?_
    show Steps p.tables e below (T1.setTop (mkF m 8 #[.val (.ref r0)] [(.ref r0), (.int (w0 * (31 : Int32)))])) _
    refine st2 _ ?_
    show Steps p.tables e below (T2.setTop (mkF m 11 #[.val (.ref r0)] [(.int w1), (.int (w0 * (31 : Int32)))])) _
    refine XS.iadd X2.here hx rfl (hb hby d3_11) rfl ?_
    show Steps p.tables e below (T2.setTop (mkF m 12 #[.val (.ref r0)] [(.int ((w0 * (31 : Int32)) + w1))])) _
    exact retI X2 hx Bd.returns (hb hby d3_12) hr
  · show Q3 Z r0 w0 w1 h0 n0 _ T2.heap _
    rw [e2]
    exact ⟨rfl, N0, rfl⟩
def Q4 (Z : State) (r0 : Addr) (r1 : Addr) (w0 : Int32) (w1 : Int32) (u0 : Int32) (u1 : Int32) (h0 : Heap) (n0 : Nat) (v : Option Value) (h : Heap) (L : List Loc) : Prop := v = some (.int (bI (w0.toInt = u0.toInt ∧ w1.toInt = u1.toInt))) ∧ Fr n0 L ∧ h = h0
set_option maxRecDepth 65536 in
set_option maxHeartbeats 40000000 in
theorem rm4 (l : Launch) (Z : State) (a0 : Array Value) (hw : ∀ d ∈ tables_1, d.before a0 Z = true) (ws : List Jvm.Cond) (r0 : Addr) (r1 : Addr) (w0 : Int32) (w1 : Int32) (u0 : Int32) (u1 : Int32) (h0 : Heap) (n0 : Nat) (Z0 : n0 ≤ h0.size) (F0 : Fld Z h0 r0 "com/example/acker/acker/engine/Backoff" "initialSeconds" "I" (.int w0)) (F1 : Fld Z h0 r0 "com/example/acker/acker/engine/Backoff" "maxSeconds" "I" (.int w1)) (G0 : Fld Z h0 r1 "com/example/acker/acker/engine/Backoff" "initialSeconds" "I" (.int u0)) (G1 : Fld Z h0 r1 "com/example/acker/acker/engine/Backoff" "maxSeconds" "I" (.int u1)) (E1 : Exa Z h0 r1 "com/example/acker/acker/engine/Backoff") :
    MetFree l (⟨"com/example/acker/acker/engine/Backoff", "equals", "(Ljava/lang/Object;)Z"⟩ : MethodName) (head1 (Jvm.Cond.code (⟨"com/example/acker/acker/engine/Backoff", "equals", "(Ljava/lang/Object;)Z"⟩ : MethodName) prog_2_method_5_code 2 (some .boolean) :: ws) ({ frames := 0, cells := 0, slots := 0, locals := 0 } : Room)) (fun a U => a = #[(.ref r0), (.ref r1)] ∧ Z.Warmed39 U.vm ∧ U.heap = h0) (fun _ _ _ _ _ => True) (fun _ U o U' => ∃ v L, o = .returned v ∧ Q4 Z r0 r1 w0 w1 u0 u1 h0 n0 v U'.heap L ∧ FrameEnd U o U' L ({ frames := 0, cells := 0, slots := 0, locals := 0 } : Room).cells ({ frames := 0, cells := 0, slots := 0, locals := 0 } : Room).slots) := by
  refine MetFree.of_bodySF (plainFor_of_name pn_com_example_acker_acker_engine_Backoff) hisR ?_
  intro p e s m args below meth c s₁ Bd hml0 hP hK
  obtain ⟨rfl, hZ, hh⟩ := hP
  have hx := Bd.exec
  have hby := Bd.bytes
  have hml : c.maxLocals = 2 := hml0
  have hown : s.vm.findClass "com/example/acker/acker/engine/Backoff" = some m.cls := findClass_of_methodNamed Bd.named
  have hnm := (name_of_methodNamed Bd.named Bd.method).1
  have X0 : Stand p l e ({ frames := 0, cells := 0, slots := 0, locals := 0 } : Room) s m #[(.ref r0), (.ref r1)] below meth c s₁ [] 0 0 := Stand.of_body Bd
  have e0 : s₁.heap = h0 := by rw [← hh, Bd.state]; rfl
  have N0 := Fr.nil n0
  have pre0 : ∀ t, Steps p.tables e below (s₁.setTop (mkF m 0 #[.val (.ref r0), .val (.ref r1)] [])) t → Steps p.tables e below (s₁.setTop (entryFrame m #[(.ref r0), (.ref r1)] 2)) t := fun t k => castTop (ef_4 m r0 r1) k
  have preS : ∀ t, Steps p.tables e below (s₁.setTop (mkF m 0 #[.val (.ref r0), .val (.ref r1)] [])) t → Steps p.tables e below (s₁.setTop (mkF m 0 #[.val (.ref r0), .val (.ref r1)] [])) t := fun t k => k
  obtain ⟨T1, X1, e1, st1⟩ := instY X0 hx hZ hown (hw _ (List.mem_of_getElem? (i := 26) rfl)) e0 (Ins.self E1) (g := (mkF m 1 #[.val (.ref r0), .val (.ref r1)] [(.ref r1)])) rfl rfl (hb hby d4_1)
  have hc2 : ¬ ((1 : Int32) = (0 : Int32)) := by decide
  obtain ⟨T3, X3, e3, st3⟩ := castY X1 hx hZ hown (hw _ (List.mem_of_getElem? (i := 26) rfl)) e1 (Ins.self E1) (g := (mkF m 8 #[.val (.ref r0), .val (.ref r1)] [(.ref r1)])) rfl rfl (hb hby d4_8)
  obtain ⟨T4, X4, e4, st4⟩ := getF X3 hx hZ hown (host := "") (Or.inl (hw _ (List.mem_of_getElem? (i := 12) rfl))) Via.refl e3 G0 (g := (mkF m 11 #[.val (.ref r0), .val (.ref r1)] [(.ref r1)])) rfl rfl (hb hby d4_11)
  obtain ⟨T5, X5, e5, st5⟩ := getF X4 hx hZ hown (host := "") (Or.inl (hw _ (List.mem_of_getElem? (i := 12) rfl))) Via.refl e4 F0 (g := (mkF m 15 #[.val (.ref r0), .val (.ref r1)] [(.ref r0), (.int u0)])) rfl rfl (hb hby d4_15)
  have pre7 : ∀ t, Steps p.tables e below (T5.setTop (mkF m 18 #[.val (.ref r0), .val (.ref r1)] [(.int w0), (.int u0)])) t → Steps p.tables e below (s₁.setTop (mkF m 0 #[.val (.ref r0), .val (.ref r1)] [])) t := fun t k => preS t (by
    show Steps p.tables e below (s₁.setTop (mkF m 0 #[.val (.ref r0), .val (.ref r1)] [])) _
    refine XS.aloadN X0.here hx rfl (hb hby d4_0) rfl rfl ?_
    show Steps p.tables e below (s₁.setTop (mkF m 1 #[.val (.ref r0), .val (.ref r1)] [(.ref r1)])) _
    refine st1 _ ?_
    show Steps p.tables e below (T1.setTop (mkF m 4 #[.val (.ref r0), .val (.ref r1)] [(.int (1 : Int32))])) _
    refine XS.ifNo X1.here hx rfl (hb hby d4_4) rfl ((if0 _ _).trans (feq hc2).1) ?_
    show Steps p.tables e below (T1.setTop (mkF m 7 #[.val (.ref r0), .val (.ref r1)] [])) _
    refine XS.aloadN X1.here hx rfl (hb hby d4_7) rfl rfl ?_
    show Steps p.tables e below (T1.setTop (mkF m 8 #[.val (.ref r0), .val (.ref r1)] [(.ref r1)])) _
    refine st3 _ ?_
    show Steps p.tables e below (T3.setTop (mkF m 11 #[.val (.ref r0), .val (.ref r1)] [(.ref r1)])) _
    refine st4 _ ?_
    show Steps p.tables e below (T4.setTop (mkF m 14 #[.val (.ref r0), .val (.ref r1)] [(.int u0)])) _
    refine XS.aloadN X4.here hx rfl (hb hby d4_14) rfl rfl ?_
    show Steps p.tables e below (T4.setTop (mkF m 15 #[.val (.ref r0), .val (.ref r1)] [(.ref r0), (.int u0)])) _
    refine st5 _ ?_
    exact k)
  by_cases hc6 : u0 = w0
  · skip
    have ohc6 : u0.toInt = w0.toInt := own_eq.mp hc6
    obtain ⟨T8, X8, e8, st8⟩ := castY X5 hx hZ hown (hw _ (List.mem_of_getElem? (i := 26) rfl)) e5 (Ins.self E1) (g := (mkF m 22 #[.val (.ref r0), .val (.ref r1)] [(.ref r1)])) rfl rfl (hb hby d4_22)
    obtain ⟨T9, X9, e9, st9⟩ := getF X8 hx hZ hown (host := "") (Or.inl (hw _ (List.mem_of_getElem? (i := 14) rfl))) Via.refl e8 G1 (g := (mkF m 25 #[.val (.ref r0), .val (.ref r1)] [(.ref r1)])) rfl rfl (hb hby d4_25)
    obtain ⟨T10, X10, e10, st10⟩ := getF X9 hx hZ hown (host := "") (Or.inl (hw _ (List.mem_of_getElem? (i := 14) rfl))) Via.refl e9 F1 (g := (mkF m 29 #[.val (.ref r0), .val (.ref r1)] [(.ref r0), (.int u1)])) rfl rfl (hb hby d4_29)
    have pre12 : ∀ t, Steps p.tables e below (T10.setTop (mkF m 32 #[.val (.ref r0), .val (.ref r1)] [(.int w1), (.int u1)])) t → Steps p.tables e below (s₁.setTop (mkF m 0 #[.val (.ref r0), .val (.ref r1)] [])) t := fun t k => pre7 t (by
      show Steps p.tables e below (T5.setTop (mkF m 18 #[.val (.ref r0), .val (.ref r1)] [(.int w0), (.int u0)])) _
      refine XS.icmpNo X5.here hx rfl (hb hby d4_18) rfl (teq hc6).2 ?_
      show Steps p.tables e below (T5.setTop (mkF m 21 #[.val (.ref r0), .val (.ref r1)] [])) _
      refine XS.aloadN X5.here hx rfl (hb hby d4_21) rfl rfl ?_
      show Steps p.tables e below (T5.setTop (mkF m 22 #[.val (.ref r0), .val (.ref r1)] [(.ref r1)])) _
      refine st8 _ ?_
      show Steps p.tables e below (T8.setTop (mkF m 25 #[.val (.ref r0), .val (.ref r1)] [(.ref r1)])) _
      refine st9 _ ?_
      show Steps p.tables e below (T9.setTop (mkF m 28 #[.val (.ref r0), .val (.ref r1)] [(.int u1)])) _
      refine XS.aloadN X9.here hx rfl (hb hby d4_28) rfl rfl ?_
      show Steps p.tables e below (T9.setTop (mkF m 29 #[.val (.ref r0), .val (.ref r1)] [(.ref r0), (.int u1)])) _
      refine st10 _ ?_
      exact k)
    by_cases hc11 : u1 = w1
    · skip
      have ohc11 : u1.toInt = w1.toInt := own_eq.mp hc11
      obtain ⟨fs, hr, hrun, hended, hW, hsame⟩ := X10.leave (v := some (.int (1 : Int32))) (fun h => by rw [Bd.returns] at h; cases h)
      refine ⟨_, _, pre0 _ (pre12 _ ?_), hrun, hended, _, _, rfl, ?_, ⟨_, rfl⟩, hW, hsame.mono (by decide) (by decide)⟩
      · skip
        show Steps p.tables e below (T10.setTop (mkF m 32 #[.val (.ref r0), .val (.ref r1)] [(.int w1), (.int u1)])) _
        refine XS.icmpNo X10.here hx rfl (hb hby d4_32) rfl (teq hc11).2 ?_
        show Steps p.tables e below (T10.setTop (mkF m 35 #[.val (.ref r0), .val (.ref r1)] [])) _
        refine XS.iconst X10.here hx rfl (hb hby d4_35) ?_
        show Steps p.tables e below (T10.setTop (mkF m 36 #[.val (.ref r0), .val (.ref r1)] [(.int (1 : Int32))])) _
        refine XS.goto X10.here hx rfl (pc0 := 36) (pc' := 40) rfl (hb hby d4_36) (by decide) (by decide) ?_
        show Steps p.tables e below (T10.setTop (mkF m 40 #[.val (.ref r0), .val (.ref r1)] [(.int (1 : Int32))])) _
        exact retN X10 hx (t := .boolean) Bd.returns (by simp) (hb hby d4_40) hr
      · show Q4 Z r0 r1 w0 w1 u0 u1 h0 n0 _ T10.heap _
        rw [e10]
        exact ⟨own_b1 (by omega), N0, rfl⟩
    · skip
      have ohc11 : ¬ (u1.toInt = w1.toInt) := own_neq.mp hc11
      obtain ⟨fs, hr, hrun, hended, hW, hsame⟩ := X10.leave (v := some (.int (0 : Int32))) (fun h => by rw [Bd.returns] at h; cases h)
      refine ⟨_, _, pre0 _ (pre12 _ ?_), hrun, hended, _, _, rfl, ?_, ⟨_, rfl⟩, hW, hsame.mono (by decide) (by decide)⟩
      · skip
        show Steps p.tables e below (T10.setTop (mkF m 32 #[.val (.ref r0), .val (.ref r1)] [(.int w1), (.int u1)])) _
        refine XS.icmpYes X10.here hx rfl (pc0 := 32) (pc' := 39) rfl (hb hby d4_32) rfl (feq hc11).2 (by decide) (by decide) ?_
        show Steps p.tables e below (T10.setTop (mkF m 39 #[.val (.ref r0), .val (.ref r1)] [])) _
        refine XS.iconst X10.here hx rfl (hb hby d4_39) ?_
        show Steps p.tables e below (T10.setTop (mkF m 40 #[.val (.ref r0), .val (.ref r1)] [(.int (0 : Int32))])) _
        exact retN X10 hx (t := .boolean) Bd.returns (by simp) (hb hby d4_40) hr
      · show Q4 Z r0 r1 w0 w1 u0 u1 h0 n0 _ T10.heap _
        rw [e10]
        exact ⟨own_b0 (by omega), N0, rfl⟩
  · skip
    have ohc6 : ¬ (u0.toInt = w0.toInt) := own_neq.mp hc6
    obtain ⟨fs, hr, hrun, hended, hW, hsame⟩ := X5.leave (v := some (.int (0 : Int32))) (fun h => by rw [Bd.returns] at h; cases h)
    refine ⟨_, _, pre0 _ (pre7 _ ?_), hrun, hended, _, _, rfl, ?_, ⟨_, rfl⟩, hW, hsame.mono (by decide) (by decide)⟩
    · skip
      show Steps p.tables e below (T5.setTop (mkF m 18 #[.val (.ref r0), .val (.ref r1)] [(.int w0), (.int u0)])) _
      refine XS.icmpYes X5.here hx rfl (pc0 := 18) (pc' := 39) rfl (hb hby d4_18) rfl (feq hc6).2 (by decide) (by decide) ?_
      show Steps p.tables e below (T5.setTop (mkF m 39 #[.val (.ref r0), .val (.ref r1)] [])) _
      refine XS.iconst X5.here hx rfl (hb hby d4_39) ?_
      show Steps p.tables e below (T5.setTop (mkF m 40 #[.val (.ref r0), .val (.ref r1)] [(.int (0 : Int32))])) _
      exact retN X5 hx (t := .boolean) Bd.returns (by simp) (hb hby d4_40) hr
    · show Q4 Z r0 r1 w0 w1 u0 u1 h0 n0 _ T5.heap _
      rw [e5]
      exact ⟨own_b0 (by omega), N0, rfl⟩
def Q0 (Z : State) (p0 : Int32) (p1 : Int32) (p2 : Int32) (p3 : Int32) (p4 : Int32) (h0 : Heap) (n0 : Nat) (v : Option Value) (h : Heap) (L : List Loc) : Prop := v = some (.int 1) ∧ Fr n0 L
set_option maxRecDepth 65536 in
set_option maxHeartbeats 40000000 in
theorem rm0 (l : Launch) (Z : State) (a0 : Array Value) (hw : ∀ d ∈ tables_1, d.before a0 Z = true) (ws : List Jvm.Cond) (p0 : Int32) (p1 : Int32) (p2 : Int32) (p3 : Int32) (p4 : Int32) (h0 : Heap) (n0 : Nat) (Z0 : n0 ≤ h0.size) :
    MetFree l x (head1 (Jvm.Cond.code x code maxLocals ret :: ws) room_1) (fun a U => a = #[(.int p0), (.int p1), (.int p2), (.int p3), (.int p4)] ∧ Z.Warmed39 U.vm ∧ U.heap = h0) (fun _ _ _ _ _ => True) (fun _ U o U' => ∃ v L, o = .returned v ∧ Q0 Z p0 p1 p2 p3 p4 h0 n0 v U'.heap L ∧ FrameEnd U o U' L room_1.cells room_1.slots) := by
  refine MetFree.of_bodySF (plainFor_of_name pn_com_example_acker_acker_engine_BackoffHashCodePinLaw) hisR ?_
  intro p e s m args below meth c s₁ Bd hml0 hP hK
  obtain ⟨rfl, hZ, hh⟩ := hP
  have hx := Bd.exec
  have hby := Bd.bytes
  have hml : c.maxLocals = 15 := hml0
  have hown : s.vm.findClass "com/example/acker/acker/engine/BackoffHashCodePinLaw" = some m.cls := findClass_of_methodNamed Bd.named
  have hnm := (name_of_methodNamed Bd.named Bd.method).1
  have X0 : Stand p l e room_1 s m #[(.int p0), (.int p1), (.int p2), (.int p3), (.int p4)] below meth c s₁ [] 0 0 := Stand.of_body Bd
  have e0 : s₁.heap = h0 := by rw [← hh, Bd.state]; rfl
  have N0 := Fr.nil n0
  have pre0 : ∀ t, Steps p.tables e below (s₁.setTop (mkF m 0 #[.val (.int p0), .val (.int p1), .val (.int p2), .val (.int p3), .val (.int p4), .unset, .unset, .unset, .unset, .unset, .unset, .unset, .unset, .unset, .unset] [])) t → Steps p.tables e below (s₁.setTop (entryFrame m #[(.int p0), (.int p1), (.int p2), (.int p3), (.int p4)] maxLocals)) t := fun t k => castTop (ef_0 m p0 p1 p2 p3 p4) k
  have preS : ∀ t, Steps p.tables e below (s₁.setTop (mkF m 0 #[.val (.int p0), .val (.int p1), .val (.int p2), .val (.int p3), .val (.int p4), .unset, .unset, .unset, .unset, .unset, .unset, .unset, .unset, .unset, .unset] [])) t → Steps p.tables e below (s₁.setTop (mkF m 0 #[.val (.int p0), .val (.int p1), .val (.int p2), .val (.int p3), .val (.int p4), .unset, .unset, .unset, .unset, .unset, .unset, .unset, .unset, .unset, .unset] [])) t := fun t k => k
  have m0 := own_mrem p0 (43201 : Int32) 43201 rfl
  have m1 := own_mrem p1 (43201 : Int32) 43201 rfl
  have m2 := own_mrem p2 (43201 : Int32) 43201 rfl
  have m3 := own_mrem p3 (43201 : Int32) 43201 rfl
  have pre1 : ∀ t, Steps p.tables e below (s₁.setTop (mkF m 18 #[.val (.int p0), .val (.int p1), .val (.int p2), .val (.int p3), .val (.int p4), .val (.int ((p0 &&& (2147483647 : Int32)) % (43201 : Int32))), .val (.int ((p1 &&& (2147483647 : Int32)) % (43201 : Int32))), .unset, .unset, .unset, .unset, .unset, .unset, .unset, .unset] [])) t → Steps p.tables e below (s₁.setTop (mkF m 0 #[.val (.int p0), .val (.int p1), .val (.int p2), .val (.int p3), .val (.int p4), .unset, .unset, .unset, .unset, .unset, .unset, .unset, .unset, .unset, .unset] [])) t := fun t k => preS t (by
    show Steps p.tables e below (s₁.setTop (mkF m 0 #[.val (.int p0), .val (.int p1), .val (.int p2), .val (.int p3), .val (.int p4), .unset, .unset, .unset, .unset, .unset, .unset, .unset, .unset, .unset, .unset] [])) _
    refine XS.iloadN X0.here hx rfl (hb hby at_0) rfl ?_
    show Steps p.tables e below (s₁.setTop (mkF m 1 #[.val (.int p0), .val (.int p1), .val (.int p2), .val (.int p3), .val (.int p4), .unset, .unset, .unset, .unset, .unset, .unset, .unset, .unset, .unset, .unset] [(.int p0)])) _
    refine X0.ldcInt hx hown (mvT hZ (hw _ (List.mem_of_getElem? (i := 0) rfl))) (g := (mkF m 1 #[.val (.int p0), .val (.int p1), .val (.int p2), .val (.int p3), .val (.int p4), .unset, .unset, .unset, .unset, .unset, .unset, .unset, .unset, .unset, .unset] [(.int p0)])) rfl (hb hby at_1) _ ?_
    show Steps p.tables e below (s₁.setTop (mkF m 3 #[.val (.int p0), .val (.int p1), .val (.int p2), .val (.int p3), .val (.int p4), .unset, .unset, .unset, .unset, .unset, .unset, .unset, .unset, .unset, .unset] [(.int (2147483647 : Int32)), (.int p0)])) _
    refine XS.iand X0.here hx rfl (hb hby at_3) rfl ?_
    show Steps p.tables e below (s₁.setTop (mkF m 4 #[.val (.int p0), .val (.int p1), .val (.int p2), .val (.int p3), .val (.int p4), .unset, .unset, .unset, .unset, .unset, .unset, .unset, .unset, .unset, .unset] [(.int (p0 &&& (2147483647 : Int32)))])) _
    refine X0.ldcInt hx hown (mvT hZ (hw _ (List.mem_of_getElem? (i := 1) rfl))) (g := (mkF m 4 #[.val (.int p0), .val (.int p1), .val (.int p2), .val (.int p3), .val (.int p4), .unset, .unset, .unset, .unset, .unset, .unset, .unset, .unset, .unset, .unset] [(.int (p0 &&& (2147483647 : Int32)))])) rfl (hb hby at_4) _ ?_
    show Steps p.tables e below (s₁.setTop (mkF m 6 #[.val (.int p0), .val (.int p1), .val (.int p2), .val (.int p3), .val (.int p4), .unset, .unset, .unset, .unset, .unset, .unset, .unset, .unset, .unset, .unset] [(.int (43201 : Int32)), (.int (p0 &&& (2147483647 : Int32)))])) _
    refine Jvm.RoadKit.iremM (g := (mkF m 6 #[.val (.int p0), .val (.int p1), .val (.int p2), .val (.int p3), .val (.int p4), .unset, .unset, .unset, .unset, .unset, .unset, .unset, .unset, .unset, .unset] [(.int (43201 : Int32)), (.int (p0 &&& (2147483647 : Int32)))])) X0 hx rfl (hb hby at_6) rfl (by decide) ?_
    show Steps p.tables e below (s₁.setTop (mkF m 7 #[.val (.int p0), .val (.int p1), .val (.int p2), .val (.int p3), .val (.int p4), .unset, .unset, .unset, .unset, .unset, .unset, .unset, .unset, .unset, .unset] [(.int ((p0 &&& (2147483647 : Int32)) % (43201 : Int32)))])) _
    refine XS.istore X0.here hx rfl (hb hby at_7) rfl (l' := #[.val (.int p0), .val (.int p1), .val (.int p2), .val (.int p3), .val (.int p4), .val (.int ((p0 &&& (2147483647 : Int32)) % (43201 : Int32))), .unset, .unset, .unset, .unset, .unset, .unset, .unset, .unset, .unset]) rfl ?_
    show Steps p.tables e below (s₁.setTop (mkF m 9 #[.val (.int p0), .val (.int p1), .val (.int p2), .val (.int p3), .val (.int p4), .val (.int ((p0 &&& (2147483647 : Int32)) % (43201 : Int32))), .unset, .unset, .unset, .unset, .unset, .unset, .unset, .unset, .unset] [])) _
    refine XS.iloadN X0.here hx rfl (hb hby at_9) rfl ?_
    show Steps p.tables e below (s₁.setTop (mkF m 10 #[.val (.int p0), .val (.int p1), .val (.int p2), .val (.int p3), .val (.int p4), .val (.int ((p0 &&& (2147483647 : Int32)) % (43201 : Int32))), .unset, .unset, .unset, .unset, .unset, .unset, .unset, .unset, .unset] [(.int p1)])) _
    refine X0.ldcInt hx hown (mvT hZ (hw _ (List.mem_of_getElem? (i := 0) rfl))) (g := (mkF m 10 #[.val (.int p0), .val (.int p1), .val (.int p2), .val (.int p3), .val (.int p4), .val (.int ((p0 &&& (2147483647 : Int32)) % (43201 : Int32))), .unset, .unset, .unset, .unset, .unset, .unset, .unset, .unset, .unset] [(.int p1)])) rfl (hb hby at_10) _ ?_
    show Steps p.tables e below (s₁.setTop (mkF m 12 #[.val (.int p0), .val (.int p1), .val (.int p2), .val (.int p3), .val (.int p4), .val (.int ((p0 &&& (2147483647 : Int32)) % (43201 : Int32))), .unset, .unset, .unset, .unset, .unset, .unset, .unset, .unset, .unset] [(.int (2147483647 : Int32)), (.int p1)])) _
    refine XS.iand X0.here hx rfl (hb hby at_12) rfl ?_
    show Steps p.tables e below (s₁.setTop (mkF m 13 #[.val (.int p0), .val (.int p1), .val (.int p2), .val (.int p3), .val (.int p4), .val (.int ((p0 &&& (2147483647 : Int32)) % (43201 : Int32))), .unset, .unset, .unset, .unset, .unset, .unset, .unset, .unset, .unset] [(.int (p1 &&& (2147483647 : Int32)))])) _
    refine X0.ldcInt hx hown (mvT hZ (hw _ (List.mem_of_getElem? (i := 1) rfl))) (g := (mkF m 13 #[.val (.int p0), .val (.int p1), .val (.int p2), .val (.int p3), .val (.int p4), .val (.int ((p0 &&& (2147483647 : Int32)) % (43201 : Int32))), .unset, .unset, .unset, .unset, .unset, .unset, .unset, .unset, .unset] [(.int (p1 &&& (2147483647 : Int32)))])) rfl (hb hby at_13) _ ?_
    show Steps p.tables e below (s₁.setTop (mkF m 15 #[.val (.int p0), .val (.int p1), .val (.int p2), .val (.int p3), .val (.int p4), .val (.int ((p0 &&& (2147483647 : Int32)) % (43201 : Int32))), .unset, .unset, .unset, .unset, .unset, .unset, .unset, .unset, .unset] [(.int (43201 : Int32)), (.int (p1 &&& (2147483647 : Int32)))])) _
    refine Jvm.RoadKit.iremM (g := (mkF m 15 #[.val (.int p0), .val (.int p1), .val (.int p2), .val (.int p3), .val (.int p4), .val (.int ((p0 &&& (2147483647 : Int32)) % (43201 : Int32))), .unset, .unset, .unset, .unset, .unset, .unset, .unset, .unset, .unset] [(.int (43201 : Int32)), (.int (p1 &&& (2147483647 : Int32)))])) X0 hx rfl (hb hby at_15) rfl (by decide) ?_
    show Steps p.tables e below (s₁.setTop (mkF m 16 #[.val (.int p0), .val (.int p1), .val (.int p2), .val (.int p3), .val (.int p4), .val (.int ((p0 &&& (2147483647 : Int32)) % (43201 : Int32))), .unset, .unset, .unset, .unset, .unset, .unset, .unset, .unset, .unset] [(.int ((p1 &&& (2147483647 : Int32)) % (43201 : Int32)))])) _
    refine XS.istore X0.here hx rfl (hb hby at_16) rfl (l' := #[.val (.int p0), .val (.int p1), .val (.int p2), .val (.int p3), .val (.int p4), .val (.int ((p0 &&& (2147483647 : Int32)) % (43201 : Int32))), .val (.int ((p1 &&& (2147483647 : Int32)) % (43201 : Int32))), .unset, .unset, .unset, .unset, .unset, .unset, .unset, .unset]) rfl ?_
    exact k)
  obtain ⟨va, h_va⟩ : ∃ z, z = ((p0 &&& (2147483647 : Int32)) % (43201 : Int32)) := ⟨_, rfl⟩
  rw [← h_va] at pre1
  obtain ⟨vb, h_vb⟩ : ∃ z, z = ((p1 &&& (2147483647 : Int32)) % (43201 : Int32)) := ⟨_, rfl⟩
  rw [← h_vb] at pre1
  rw [← h_va] at m0
  rw [← h_vb] at m1
  obtain ⟨vc, b_vc, pre2⟩ : ∃ (vc : Int32), (0 ≤ vc.toInt ∧ vc.toInt ≤ 43200) ∧ ∀ t, Steps p.tables e below (s₁.setTop (mkF m 37 #[.val (.int p0), .val (.int p1), .val (.int p2), .val (.int p3), .val (.int p4), .val (.int va), .val (.int vb), .unset, .unset, .unset, .unset, .unset, .unset, .unset, .unset] [(.int vc)])) t → Steps p.tables e below (s₁.setTop (mkF m 0 #[.val (.int p0), .val (.int p1), .val (.int p2), .val (.int p3), .val (.int p4), .unset, .unset, .unset, .unset, .unset, .unset, .unset, .unset, .unset, .unset] [])) t := by
    have pre4 : ∀ t, Steps p.tables e below (s₁.setTop (mkF m 22 #[.val (.int p0), .val (.int p1), .val (.int p2), .val (.int p3), .val (.int p4), .val (.int va), .val (.int vb), .unset, .unset, .unset, .unset, .unset, .unset, .unset, .unset] [(.int (p4 &&& (1 : Int32)))])) t → Steps p.tables e below (s₁.setTop (mkF m 0 #[.val (.int p0), .val (.int p1), .val (.int p2), .val (.int p3), .val (.int p4), .unset, .unset, .unset, .unset, .unset, .unset, .unset, .unset, .unset, .unset] [])) t := fun t k => pre1 t (by
      show Steps p.tables e below (s₁.setTop (mkF m 18 #[.val (.int p0), .val (.int p1), .val (.int p2), .val (.int p3), .val (.int p4), .val (.int va), .val (.int vb), .unset, .unset, .unset, .unset, .unset, .unset, .unset, .unset] [])) _
      refine XS.iload X0.here hx rfl (hb hby at_18) rfl ?_
      show Steps p.tables e below (s₁.setTop (mkF m 20 #[.val (.int p0), .val (.int p1), .val (.int p2), .val (.int p3), .val (.int p4), .val (.int va), .val (.int vb), .unset, .unset, .unset, .unset, .unset, .unset, .unset, .unset] [(.int p4)])) _
      refine XS.iconst X0.here hx rfl (hb hby at_20) ?_
      show Steps p.tables e below (s₁.setTop (mkF m 21 #[.val (.int p0), .val (.int p1), .val (.int p2), .val (.int p3), .val (.int p4), .val (.int va), .val (.int vb), .unset, .unset, .unset, .unset, .unset, .unset, .unset, .unset] [(.int (1 : Int32)), (.int p4)])) _
      refine XS.iand X0.here hx rfl (hb hby at_21) rfl ?_
      exact k)
    by_cases hc3 : (p4 &&& (1 : Int32)) = (0 : Int32)
    · skip
      have ohc3 : (p4 &&& (1 : Int32)).toInt = 0 := own_eq.mp hc3
      refine ⟨((p2 &&& (2147483647 : Int32)) % (43201 : Int32)), ?_, fun t k => pre4 t ?_⟩
      · constructor <;> omega
      · skip
        show Steps p.tables e below (s₁.setTop (mkF m 22 #[.val (.int p0), .val (.int p1), .val (.int p2), .val (.int p3), .val (.int p4), .val (.int va), .val (.int vb), .unset, .unset, .unset, .unset, .unset, .unset, .unset, .unset] [(.int (p4 &&& (1 : Int32)))])) _
        refine XS.ifYes X0.here hx rfl (pc0 := 22) (pc' := 30) rfl (hb hby at_22) rfl ((if0 _ _).trans (teq hc3).1) (by decide) (by decide) ?_
        show Steps p.tables e below (s₁.setTop (mkF m 30 #[.val (.int p0), .val (.int p1), .val (.int p2), .val (.int p3), .val (.int p4), .val (.int va), .val (.int vb), .unset, .unset, .unset, .unset, .unset, .unset, .unset, .unset] [])) _
        refine XS.iloadN X0.here hx rfl (hb hby at_30) rfl ?_
        show Steps p.tables e below (s₁.setTop (mkF m 31 #[.val (.int p0), .val (.int p1), .val (.int p2), .val (.int p3), .val (.int p4), .val (.int va), .val (.int vb), .unset, .unset, .unset, .unset, .unset, .unset, .unset, .unset] [(.int p2)])) _
        refine X0.ldcInt hx hown (mvT hZ (hw _ (List.mem_of_getElem? (i := 0) rfl))) (g := (mkF m 31 #[.val (.int p0), .val (.int p1), .val (.int p2), .val (.int p3), .val (.int p4), .val (.int va), .val (.int vb), .unset, .unset, .unset, .unset, .unset, .unset, .unset, .unset] [(.int p2)])) rfl (hb hby at_31) _ ?_
        show Steps p.tables e below (s₁.setTop (mkF m 33 #[.val (.int p0), .val (.int p1), .val (.int p2), .val (.int p3), .val (.int p4), .val (.int va), .val (.int vb), .unset, .unset, .unset, .unset, .unset, .unset, .unset, .unset] [(.int (2147483647 : Int32)), (.int p2)])) _
        refine XS.iand X0.here hx rfl (hb hby at_33) rfl ?_
        show Steps p.tables e below (s₁.setTop (mkF m 34 #[.val (.int p0), .val (.int p1), .val (.int p2), .val (.int p3), .val (.int p4), .val (.int va), .val (.int vb), .unset, .unset, .unset, .unset, .unset, .unset, .unset, .unset] [(.int (p2 &&& (2147483647 : Int32)))])) _
        refine X0.ldcInt hx hown (mvT hZ (hw _ (List.mem_of_getElem? (i := 1) rfl))) (g := (mkF m 34 #[.val (.int p0), .val (.int p1), .val (.int p2), .val (.int p3), .val (.int p4), .val (.int va), .val (.int vb), .unset, .unset, .unset, .unset, .unset, .unset, .unset, .unset] [(.int (p2 &&& (2147483647 : Int32)))])) rfl (hb hby at_34) _ ?_
        show Steps p.tables e below (s₁.setTop (mkF m 36 #[.val (.int p0), .val (.int p1), .val (.int p2), .val (.int p3), .val (.int p4), .val (.int va), .val (.int vb), .unset, .unset, .unset, .unset, .unset, .unset, .unset, .unset] [(.int (43201 : Int32)), (.int (p2 &&& (2147483647 : Int32)))])) _
        refine Jvm.RoadKit.iremM (g := (mkF m 36 #[.val (.int p0), .val (.int p1), .val (.int p2), .val (.int p3), .val (.int p4), .val (.int va), .val (.int vb), .unset, .unset, .unset, .unset, .unset, .unset, .unset, .unset] [(.int (43201 : Int32)), (.int (p2 &&& (2147483647 : Int32)))])) X0 hx rfl (hb hby at_36) rfl (by decide) ?_
        exact k
    · skip
      have ohc3 : ¬ ((p4 &&& (1 : Int32)).toInt = 0) := own_neq.mp hc3
      refine ⟨va, ?_, fun t k => pre4 t ?_⟩
      · constructor <;> omega
      · skip
        show Steps p.tables e below (s₁.setTop (mkF m 22 #[.val (.int p0), .val (.int p1), .val (.int p2), .val (.int p3), .val (.int p4), .val (.int va), .val (.int vb), .unset, .unset, .unset, .unset, .unset, .unset, .unset, .unset] [(.int (p4 &&& (1 : Int32)))])) _
        refine XS.ifNo X0.here hx rfl (hb hby at_22) rfl ((if0 _ _).trans (feq hc3).1) ?_
        show Steps p.tables e below (s₁.setTop (mkF m 25 #[.val (.int p0), .val (.int p1), .val (.int p2), .val (.int p3), .val (.int p4), .val (.int va), .val (.int vb), .unset, .unset, .unset, .unset, .unset, .unset, .unset, .unset] [])) _
        refine XS.iload X0.here hx rfl (hb hby at_25) rfl ?_
        show Steps p.tables e below (s₁.setTop (mkF m 27 #[.val (.int p0), .val (.int p1), .val (.int p2), .val (.int p3), .val (.int p4), .val (.int va), .val (.int vb), .unset, .unset, .unset, .unset, .unset, .unset, .unset, .unset] [(.int va)])) _
        refine XS.goto X0.here hx rfl (pc0 := 27) (pc' := 37) rfl (hb hby at_27) (by decide) (by decide) ?_
        exact k
  have pre5 : ∀ t, Steps p.tables e below (s₁.setTop (mkF m 39 #[.val (.int p0), .val (.int p1), .val (.int p2), .val (.int p3), .val (.int p4), .val (.int va), .val (.int vb), .val (.int vc), .unset, .unset, .unset, .unset, .unset, .unset, .unset] [])) t → Steps p.tables e below (s₁.setTop (mkF m 0 #[.val (.int p0), .val (.int p1), .val (.int p2), .val (.int p3), .val (.int p4), .unset, .unset, .unset, .unset, .unset, .unset, .unset, .unset, .unset, .unset] [])) t := fun t k => pre2 t (by
    show Steps p.tables e below (s₁.setTop (mkF m 37 #[.val (.int p0), .val (.int p1), .val (.int p2), .val (.int p3), .val (.int p4), .val (.int va), .val (.int vb), .unset, .unset, .unset, .unset, .unset, .unset, .unset, .unset] [(.int vc)])) _
    refine XS.istore X0.here hx rfl (hb hby at_37) rfl (l' := #[.val (.int p0), .val (.int p1), .val (.int p2), .val (.int p3), .val (.int p4), .val (.int va), .val (.int vb), .val (.int vc), .unset, .unset, .unset, .unset, .unset, .unset, .unset]) rfl ?_
    exact k)
  obtain ⟨vd, b_vd, pre6⟩ : ∃ (vd : Int32), (0 ≤ vd.toInt ∧ vd.toInt ≤ 43200) ∧ ∀ t, Steps p.tables e below (s₁.setTop (mkF m 58 #[.val (.int p0), .val (.int p1), .val (.int p2), .val (.int p3), .val (.int p4), .val (.int va), .val (.int vb), .val (.int vc), .unset, .unset, .unset, .unset, .unset, .unset, .unset] [(.int vd)])) t → Steps p.tables e below (s₁.setTop (mkF m 0 #[.val (.int p0), .val (.int p1), .val (.int p2), .val (.int p3), .val (.int p4), .unset, .unset, .unset, .unset, .unset, .unset, .unset, .unset, .unset, .unset] [])) t := by
    have pre8 : ∀ t, Steps p.tables e below (s₁.setTop (mkF m 43 #[.val (.int p0), .val (.int p1), .val (.int p2), .val (.int p3), .val (.int p4), .val (.int va), .val (.int vb), .val (.int vc), .unset, .unset, .unset, .unset, .unset, .unset, .unset] [(.int (p4 &&& (2 : Int32)))])) t → Steps p.tables e below (s₁.setTop (mkF m 0 #[.val (.int p0), .val (.int p1), .val (.int p2), .val (.int p3), .val (.int p4), .unset, .unset, .unset, .unset, .unset, .unset, .unset, .unset, .unset, .unset] [])) t := fun t k => pre5 t (by
      show Steps p.tables e below (s₁.setTop (mkF m 39 #[.val (.int p0), .val (.int p1), .val (.int p2), .val (.int p3), .val (.int p4), .val (.int va), .val (.int vb), .val (.int vc), .unset, .unset, .unset, .unset, .unset, .unset, .unset] [])) _
      refine XS.iload X0.here hx rfl (hb hby at_39) rfl ?_
      show Steps p.tables e below (s₁.setTop (mkF m 41 #[.val (.int p0), .val (.int p1), .val (.int p2), .val (.int p3), .val (.int p4), .val (.int va), .val (.int vb), .val (.int vc), .unset, .unset, .unset, .unset, .unset, .unset, .unset] [(.int p4)])) _
      refine XS.iconst X0.here hx rfl (hb hby at_41) ?_
      show Steps p.tables e below (s₁.setTop (mkF m 42 #[.val (.int p0), .val (.int p1), .val (.int p2), .val (.int p3), .val (.int p4), .val (.int va), .val (.int vb), .val (.int vc), .unset, .unset, .unset, .unset, .unset, .unset, .unset] [(.int (2 : Int32)), (.int p4)])) _
      refine XS.iand X0.here hx rfl (hb hby at_42) rfl ?_
      exact k)
    by_cases hc7 : (p4 &&& (2 : Int32)) = (0 : Int32)
    · skip
      have ohc7 : (p4 &&& (2 : Int32)).toInt = 0 := own_eq.mp hc7
      refine ⟨((p3 &&& (2147483647 : Int32)) % (43201 : Int32)), ?_, fun t k => pre8 t ?_⟩
      · constructor <;> omega
      · skip
        show Steps p.tables e below (s₁.setTop (mkF m 43 #[.val (.int p0), .val (.int p1), .val (.int p2), .val (.int p3), .val (.int p4), .val (.int va), .val (.int vb), .val (.int vc), .unset, .unset, .unset, .unset, .unset, .unset, .unset] [(.int (p4 &&& (2 : Int32)))])) _
        refine XS.ifYes X0.here hx rfl (pc0 := 43) (pc' := 51) rfl (hb hby at_43) rfl ((if0 _ _).trans (teq hc7).1) (by decide) (by decide) ?_
        show Steps p.tables e below (s₁.setTop (mkF m 51 #[.val (.int p0), .val (.int p1), .val (.int p2), .val (.int p3), .val (.int p4), .val (.int va), .val (.int vb), .val (.int vc), .unset, .unset, .unset, .unset, .unset, .unset, .unset] [])) _
        refine XS.iloadN X0.here hx rfl (hb hby at_51) rfl ?_
        show Steps p.tables e below (s₁.setTop (mkF m 52 #[.val (.int p0), .val (.int p1), .val (.int p2), .val (.int p3), .val (.int p4), .val (.int va), .val (.int vb), .val (.int vc), .unset, .unset, .unset, .unset, .unset, .unset, .unset] [(.int p3)])) _
        refine X0.ldcInt hx hown (mvT hZ (hw _ (List.mem_of_getElem? (i := 0) rfl))) (g := (mkF m 52 #[.val (.int p0), .val (.int p1), .val (.int p2), .val (.int p3), .val (.int p4), .val (.int va), .val (.int vb), .val (.int vc), .unset, .unset, .unset, .unset, .unset, .unset, .unset] [(.int p3)])) rfl (hb hby at_52) _ ?_
        show Steps p.tables e below (s₁.setTop (mkF m 54 #[.val (.int p0), .val (.int p1), .val (.int p2), .val (.int p3), .val (.int p4), .val (.int va), .val (.int vb), .val (.int vc), .unset, .unset, .unset, .unset, .unset, .unset, .unset] [(.int (2147483647 : Int32)), (.int p3)])) _
        refine XS.iand X0.here hx rfl (hb hby at_54) rfl ?_
        show Steps p.tables e below (s₁.setTop (mkF m 55 #[.val (.int p0), .val (.int p1), .val (.int p2), .val (.int p3), .val (.int p4), .val (.int va), .val (.int vb), .val (.int vc), .unset, .unset, .unset, .unset, .unset, .unset, .unset] [(.int (p3 &&& (2147483647 : Int32)))])) _
        refine X0.ldcInt hx hown (mvT hZ (hw _ (List.mem_of_getElem? (i := 1) rfl))) (g := (mkF m 55 #[.val (.int p0), .val (.int p1), .val (.int p2), .val (.int p3), .val (.int p4), .val (.int va), .val (.int vb), .val (.int vc), .unset, .unset, .unset, .unset, .unset, .unset, .unset] [(.int (p3 &&& (2147483647 : Int32)))])) rfl (hb hby at_55) _ ?_
        show Steps p.tables e below (s₁.setTop (mkF m 57 #[.val (.int p0), .val (.int p1), .val (.int p2), .val (.int p3), .val (.int p4), .val (.int va), .val (.int vb), .val (.int vc), .unset, .unset, .unset, .unset, .unset, .unset, .unset] [(.int (43201 : Int32)), (.int (p3 &&& (2147483647 : Int32)))])) _
        refine Jvm.RoadKit.iremM (g := (mkF m 57 #[.val (.int p0), .val (.int p1), .val (.int p2), .val (.int p3), .val (.int p4), .val (.int va), .val (.int vb), .val (.int vc), .unset, .unset, .unset, .unset, .unset, .unset, .unset] [(.int (43201 : Int32)), (.int (p3 &&& (2147483647 : Int32)))])) X0 hx rfl (hb hby at_57) rfl (by decide) ?_
        exact k
    · skip
      have ohc7 : ¬ ((p4 &&& (2 : Int32)).toInt = 0) := own_neq.mp hc7
      refine ⟨vb, ?_, fun t k => pre8 t ?_⟩
      · constructor <;> omega
      · skip
        show Steps p.tables e below (s₁.setTop (mkF m 43 #[.val (.int p0), .val (.int p1), .val (.int p2), .val (.int p3), .val (.int p4), .val (.int va), .val (.int vb), .val (.int vc), .unset, .unset, .unset, .unset, .unset, .unset, .unset] [(.int (p4 &&& (2 : Int32)))])) _
        refine XS.ifNo X0.here hx rfl (hb hby at_43) rfl ((if0 _ _).trans (feq hc7).1) ?_
        show Steps p.tables e below (s₁.setTop (mkF m 46 #[.val (.int p0), .val (.int p1), .val (.int p2), .val (.int p3), .val (.int p4), .val (.int va), .val (.int vb), .val (.int vc), .unset, .unset, .unset, .unset, .unset, .unset, .unset] [])) _
        refine XS.iload X0.here hx rfl (hb hby at_46) rfl ?_
        show Steps p.tables e below (s₁.setTop (mkF m 48 #[.val (.int p0), .val (.int p1), .val (.int p2), .val (.int p3), .val (.int p4), .val (.int va), .val (.int vb), .val (.int vc), .unset, .unset, .unset, .unset, .unset, .unset, .unset] [(.int vb)])) _
        refine XS.goto X0.here hx rfl (pc0 := 48) (pc' := 58) rfl (hb hby at_48) (by decide) (by decide) ?_
        exact k
  obtain ⟨T9, h9, X9, e9, E9, A9, D9, -, st9⟩ := newO X0 hx hZ hown (hw _ (List.mem_of_getElem? (i := 2) rfl)) (hw _ (List.mem_of_getElem? (i := 3) rfl)) (hw _ (List.mem_of_getElem? (i := 4) rfl)) e0 (g := (mkF m 60 #[.val (.int p0), .val (.int p1), .val (.int p2), .val (.int p3), .val (.int p4), .val (.int va), .val (.int vb), .val (.int vc), .val (.int vd), .unset, .unset, .unset, .unset, .unset, .unset] [])) rfl (hb hby at_60) (by decide) (by decide)
  obtain ⟨b9, g9⟩ : ∃ z, z = h0.size := ⟨_, rfl⟩
  rw [← g9] at A9 D9 st9
  have g_b9 : n0 ≤ b9 := Nat.le_trans Z0 (Nat.le_of_eq g9.symm)
  skip
  have Z9 : n0 ≤ h9.size := Nat.le_trans Z0 E9.1
  have F9_initialSeconds : Fld Z h9 b9 "com/example/acker/acker/engine/Backoff" "initialSeconds" "I" (.int (0 : Int32)) := D9 (Or.inr (hw _ (List.mem_of_getElem? (i := 13) rfl))) (ty := .int) (by decide)
  have F9_maxSeconds : Fld Z h9 b9 "com/example/acker/acker/engine/Backoff" "maxSeconds" "I" (.int (0 : Int32)) := D9 (Or.inr (hw _ (List.mem_of_getElem? (i := 15) rfl))) (ty := .int) (by decide)
  obtain ⟨_, _, ⟨T10, L10, k10, n10⟩, -, X10, ⟨Lc10, hQ10, l10, y10, z10⟩, st10⟩ := X9.specialBack hx (y := (⟨"com/example/acker/acker/engine/Backoff", "<init>", "(II)V"⟩ : MethodName)) rfl hown (mvT hZ (hw _ (List.mem_of_getElem? (i := 5) rfl))) (mvT hZ (hw _ (List.mem_of_getElem? (i := 6) rfl))) (mvT hZ (hw _ (List.mem_of_getElem? (i := 7) rfl))) (by decide) (backOf (W := 1) (rm1 l Z a0 hw [] b9 va vb h9 n0 Z9 A9 F9_initialSeconds F9_maxSeconds g_b9 (by omega) (by omega)) hZ (hw _ (List.mem_of_getElem? (i := 7) rfl)) (hw _ (List.mem_of_getElem? (i := 4) rfl)) (by decide) (by decide)) (g := (mkF m 68 #[.val (.int p0), .val (.int p1), .val (.int p2), .val (.int p3), .val (.int p4), .val (.int va), .val (.int vb), .val (.int vc), .val (.int vd), .unset, .unset, .unset, .unset, .unset, .unset] [(.int vb), (.int va), (.ref b9), (.ref b9)])) rfl (by rw [hml]; rfl) (Steps.refl _) (a := b9) (argsL := [(.int va), (.int vb)]) (rest := [(.ref b9)]) (lenOf pd_0 rfl) rfl (by show 2 * 0 + _ ≤ _; exact Nat.le_of_eq rfl) (hb hby at_68) (fun _ _ => ⟨rfl, e9, (by decide : 1 + 0 ≤ _), (by decide : 2 + 0 ≤ _)⟩)
  dsimp only [Pt.U, Pt.locs, Pt.cells, Pt.slots] at X10 l10 y10 z10 st10 hQ10
  subst l10 y10 z10
  obtain ⟨rfl, Nq10, Kq10, Eq10, Fq10_0, Fq10_1⟩ := hQ10
  have N10 := Fr.app N0 Nq10
  have Z10 : n0 ≤ T10.heap.size := Nat.le_trans Z9 Kq10.1
  obtain ⟨T11, h11, X11, e11, E11, A11, D11, -, st11⟩ := newO X10 hx hZ hown (hw _ (List.mem_of_getElem? (i := 2) rfl)) (hw _ (List.mem_of_getElem? (i := 3) rfl)) (hw _ (List.mem_of_getElem? (i := 4) rfl)) rfl (g := (mkF m 73 #[.val (.int p0), .val (.int p1), .val (.int p2), .val (.int p3), .val (.int p4), .val (.int va), .val (.int vb), .val (.int vc), .val (.int vd), .val (.ref b9), .unset, .unset, .unset, .unset, .unset] [])) rfl (hb hby at_73) (by decide) (by decide)
  obtain ⟨b11, g11⟩ : ∃ z, z = T10.heap.size := ⟨_, rfl⟩
  rw [← g11] at A11 D11 st11
  have g_b11 : n0 ≤ b11 := Nat.le_trans Z10 (Nat.le_of_eq g11.symm)
  skip
  have Z11 : n0 ≤ h11.size := Nat.le_trans Z10 E11.1
  have ne_b9_b11 : b9 ≠ b11 := Nat.ne_of_lt (Nat.lt_of_lt_of_le Eq10.lt (Nat.le_of_eq g11.symm))
  have c12 : Exa Z h11 b9 "com/example/acker/acker/engine/Backoff" := Eq10.ext E11
  have c13 : Fld Z h11 b9 "com/example/acker/acker/engine/Backoff" "initialSeconds" "I" (.int va) := Fq10_0.ext E11
  have c14 : Fld Z h11 b9 "com/example/acker/acker/engine/Backoff" "maxSeconds" "I" (.int vb) := Fq10_1.ext E11
  have F11_initialSeconds : Fld Z h11 b11 "com/example/acker/acker/engine/Backoff" "initialSeconds" "I" (.int (0 : Int32)) := D11 (Or.inr (hw _ (List.mem_of_getElem? (i := 13) rfl))) (ty := .int) (by decide)
  have F11_maxSeconds : Fld Z h11 b11 "com/example/acker/acker/engine/Backoff" "maxSeconds" "I" (.int (0 : Int32)) := D11 (Or.inr (hw _ (List.mem_of_getElem? (i := 15) rfl))) (ty := .int) (by decide)
  obtain ⟨_, _, ⟨T15, L15, k15, n15⟩, -, X15, ⟨Lc15, hQ15, l15, y15, z15⟩, st15⟩ := X11.specialBack hx (y := (⟨"com/example/acker/acker/engine/Backoff", "<init>", "(II)V"⟩ : MethodName)) rfl hown (mvT hZ (hw _ (List.mem_of_getElem? (i := 5) rfl))) (mvT hZ (hw _ (List.mem_of_getElem? (i := 6) rfl))) (mvT hZ (hw _ (List.mem_of_getElem? (i := 7) rfl))) (by decide) (backOf (W := 1) (rm1 l Z a0 hw [] b11 vc vd h11 n0 Z11 A11 F11_initialSeconds F11_maxSeconds g_b11 (by omega) (by omega)) hZ (hw _ (List.mem_of_getElem? (i := 7) rfl)) (hw _ (List.mem_of_getElem? (i := 4) rfl)) (by decide) (by decide)) (g := (mkF m 81 #[.val (.int p0), .val (.int p1), .val (.int p2), .val (.int p3), .val (.int p4), .val (.int va), .val (.int vb), .val (.int vc), .val (.int vd), .val (.ref b9), .unset, .unset, .unset, .unset, .unset] [(.int vd), (.int vc), (.ref b11), (.ref b11)])) rfl (by rw [hml]; rfl) (Steps.refl _) (a := b11) (argsL := [(.int vc), (.int vd)]) (rest := [(.ref b11)]) (lenOf pd_0 rfl) rfl (by show 2 * 0 + _ ≤ _; exact Nat.le_of_eq rfl) (hb hby at_81) (fun _ _ => ⟨rfl, e11, (by decide : 2 + 0 ≤ _), (by decide : 4 + 0 ≤ _)⟩)
  dsimp only [Pt.U, Pt.locs, Pt.cells, Pt.slots] at X15 l15 y15 z15 st15 hQ15
  subst l15 y15 z15
  obtain ⟨rfl, Nq15, Kq15, Eq15, Fq15_0, Fq15_1⟩ := hQ15
  have N15 := Fr.app N10 Nq15
  have Z15 : n0 ≤ T15.heap.size := Nat.le_trans Z11 Kq15.1
  have c16 : Exa Z T15.heap b9 "com/example/acker/acker/engine/Backoff" := c12.keep Kq15
  have c17 : Fld Z T15.heap b9 "com/example/acker/acker/engine/Backoff" "initialSeconds" "I" (.int va) := c13.keep Kq15 (fun q => ne_b9_b11 (List.mem_singleton.mp q))
  have c18 : Fld Z T15.heap b9 "com/example/acker/acker/engine/Backoff" "maxSeconds" "I" (.int vb) := c14.keep Kq15 (fun q => ne_b9_b11 (List.mem_singleton.mp q))
  obtain ⟨cq19, kq19, q19a, q19b, q19c⟩ := isOf hZ rfl c16
  obtain ⟨_, _, ⟨T19, L19, k19, n19⟩, -, X19, ⟨Lc19, hQ19, l19, y19, z19⟩, st19⟩ := X15.virtualBack hx (y := (⟨"com/example/acker/acker/engine/Backoff", "hashCode", "()I"⟩ : MethodName)) (z := (⟨"com/example/acker/acker/engine/Backoff", "hashCode", "()I"⟩ : MethodName)) hown (mvT hZ (hw _ (List.mem_of_getElem? (i := 16) rfl))) (mvT hZ (hw _ (List.mem_of_getElem? (i := 17) rfl))) (notFace_of_selects (args := #[]) (mvT hZ (hw _ (List.mem_of_getElem? (i := 19) rfl)))) (mvT hZ (hw _ (List.mem_of_getElem? (i := 19) rfl))) (mvT hZ (hw _ (List.mem_of_getElem? (i := 18) rfl))) (by decide) (backOf (W := 0) (rm3 l Z a0 hw [] b9 va vb T15.heap n0 Z15 c17 c18) hZ (hw _ (List.mem_of_getElem? (i := 20) rfl)) (hw _ (List.mem_of_getElem? (i := 4) rfl)) (by decide) (by decide)) q19a q19c (g := (mkF m 88 #[.val (.int p0), .val (.int p1), .val (.int p2), .val (.int p3), .val (.int p4), .val (.int va), .val (.int vb), .val (.int vc), .val (.int vd), .val (.ref b9), .val (.ref b11), .unset, .unset, .unset, .unset] [(.ref b9)])) rfl (by rw [hml]; rfl) (Steps.refl _) (argsL := []) (rest := []) (lenOf pd_1 rfl) rfl (by show 2 * 0 + _ ≤ _; exact Nat.le_of_eq rfl) (hb hby at_88) (fun _ _ => ⟨rfl, rfl, (by decide : 2 + 0 ≤ _), (by decide : 4 + 0 ≤ _)⟩)
  dsimp only [Pt.U, Pt.locs, Pt.cells, Pt.slots] at X19 l19 y19 z19 st19 hQ19
  subst l19 y19 z19
  obtain ⟨rfl, Nq19, e19⟩ := hQ19
  have N19 := Fr.app N15 Nq19
  obtain ⟨cq20, kq20, q20a, q20b, q20c⟩ := isOf hZ e19 c16
  obtain ⟨_, _, ⟨T20, L20, k20, n20⟩, -, X20, ⟨Lc20, hQ20, l20, y20, z20⟩, st20⟩ := X19.virtualBack hx (y := (⟨"com/example/acker/acker/engine/Backoff", "hashCode", "()I"⟩ : MethodName)) (z := (⟨"com/example/acker/acker/engine/Backoff", "hashCode", "()I"⟩ : MethodName)) hown (mvT hZ (hw _ (List.mem_of_getElem? (i := 16) rfl))) (mvT hZ (hw _ (List.mem_of_getElem? (i := 17) rfl))) (notFace_of_selects (args := #[]) (mvT hZ (hw _ (List.mem_of_getElem? (i := 19) rfl)))) (mvT hZ (hw _ (List.mem_of_getElem? (i := 19) rfl))) (mvT hZ (hw _ (List.mem_of_getElem? (i := 18) rfl))) (by decide) (backOf (W := 0) (rm3 l Z a0 hw [] b9 va vb T15.heap n0 Z15 c17 c18) hZ (hw _ (List.mem_of_getElem? (i := 20) rfl)) (hw _ (List.mem_of_getElem? (i := 4) rfl)) (by decide) (by decide)) q20a q20c (g := (mkF m 95 #[.val (.int p0), .val (.int p1), .val (.int p2), .val (.int p3), .val (.int p4), .val (.int va), .val (.int vb), .val (.int vc), .val (.int vd), .val (.ref b9), .val (.ref b11), .val (.int ((va * (31 : Int32)) + vb)), .unset, .unset, .unset] [(.ref b9)])) rfl (by rw [hml]; rfl) (Steps.refl _) (argsL := []) (rest := []) (lenOf pd_1 rfl) rfl (by show 2 * 0 + _ ≤ _; exact Nat.le_of_eq rfl) (hb hby at_95) (fun _ _ => ⟨rfl, e19, (by decide : 2 + 0 ≤ _), (by decide : 4 + 0 ≤ _)⟩)
  dsimp only [Pt.U, Pt.locs, Pt.cells, Pt.slots] at X20 l20 y20 z20 st20 hQ20
  subst l20 y20 z20
  obtain ⟨rfl, Nq20, e20⟩ := hQ20
  have N20 := Fr.app N19 Nq20
  obtain ⟨cq21, kq21, q21a, q21b, q21c⟩ := isOf hZ e20 Eq15
  obtain ⟨_, _, ⟨T21, L21, k21, n21⟩, -, X21, ⟨Lc21, hQ21, l21, y21, z21⟩, st21⟩ := X20.virtualBack hx (y := (⟨"com/example/acker/acker/engine/Backoff", "hashCode", "()I"⟩ : MethodName)) (z := (⟨"com/example/acker/acker/engine/Backoff", "hashCode", "()I"⟩ : MethodName)) hown (mvT hZ (hw _ (List.mem_of_getElem? (i := 16) rfl))) (mvT hZ (hw _ (List.mem_of_getElem? (i := 17) rfl))) (notFace_of_selects (args := #[]) (mvT hZ (hw _ (List.mem_of_getElem? (i := 19) rfl)))) (mvT hZ (hw _ (List.mem_of_getElem? (i := 19) rfl))) (mvT hZ (hw _ (List.mem_of_getElem? (i := 18) rfl))) (by decide) (backOf (W := 0) (rm3 l Z a0 hw [] b11 vc vd T15.heap n0 Z15 Fq15_0 Fq15_1) hZ (hw _ (List.mem_of_getElem? (i := 20) rfl)) (hw _ (List.mem_of_getElem? (i := 4) rfl)) (by decide) (by decide)) q21a q21c (g := (mkF m 102 #[.val (.int p0), .val (.int p1), .val (.int p2), .val (.int p3), .val (.int p4), .val (.int va), .val (.int vb), .val (.int vc), .val (.int vd), .val (.ref b9), .val (.ref b11), .val (.int ((va * (31 : Int32)) + vb)), .val (.int ((va * (31 : Int32)) + vb)), .unset, .unset] [(.ref b11)])) rfl (by rw [hml]; rfl) (Steps.refl _) (argsL := []) (rest := []) (lenOf pd_1 rfl) rfl (by show 2 * 0 + _ ≤ _; exact Nat.le_of_eq rfl) (hb hby at_102) (fun _ _ => ⟨rfl, e20, (by decide : 2 + 0 ≤ _), (by decide : 4 + 0 ≤ _)⟩)
  dsimp only [Pt.U, Pt.locs, Pt.cells, Pt.slots] at X21 l21 y21 z21 st21 hQ21
  subst l21 y21 z21
  obtain ⟨rfl, Nq21, e21⟩ := hQ21
  have N21 := Fr.app N20 Nq21
  have hc22 : ((va * (31 : Int32)) + vb) = ((va * (31 : Int32)) + vb) := rfl
  have ohc22 : ((va * (31 : Int32)) + vb).toInt = ((va * (31 : Int32)) + vb).toInt := own_eq.mp hc22
  have pre23 : ∀ t, Steps p.tables e below (T21.setTop (mkF m 116 #[.val (.int p0), .val (.int p1), .val (.int p2), .val (.int p3), .val (.int p4), .val (.int va), .val (.int vb), .val (.int vc), .val (.int vd), .val (.ref b9), .val (.ref b11), .val (.int ((va * (31 : Int32)) + vb)), .val (.int ((va * (31 : Int32)) + vb)), .val (.int ((vc * (31 : Int32)) + vd)), .unset] [])) t → Steps p.tables e below (s₁.setTop (mkF m 0 #[.val (.int p0), .val (.int p1), .val (.int p2), .val (.int p3), .val (.int p4), .unset, .unset, .unset, .unset, .unset, .unset, .unset, .unset, .unset, .unset] [])) t := fun t k => pre6 t (by
    show Steps p.tables e below (s₁.setTop (mkF m 58 #[.val (.int p0), .val (.int p1), .val (.int p2), .val (.int p3), .val (.int p4), .val (.int va), .val (.int vb), .val (.int vc), .unset, .unset, .unset, .unset, .unset, .unset, .unset] [(.int vd)])) _
    refine XS.istore X0.here hx rfl (hb hby at_58) rfl (l' := #[.val (.int p0), .val (.int p1), .val (.int p2), .val (.int p3), .val (.int p4), .val (.int va), .val (.int vb), .val (.int vc), .val (.int vd), .unset, .unset, .unset, .unset, .unset, .unset]) rfl ?_
    show Steps p.tables e below (s₁.setTop (mkF m 60 #[.val (.int p0), .val (.int p1), .val (.int p2), .val (.int p3), .val (.int p4), .val (.int va), .val (.int vb), .val (.int vc), .val (.int vd), .unset, .unset, .unset, .unset, .unset, .unset] [])) _
    refine st9 _ ?_
    show Steps p.tables e below (T9.setTop (mkF m 63 #[.val (.int p0), .val (.int p1), .val (.int p2), .val (.int p3), .val (.int p4), .val (.int va), .val (.int vb), .val (.int vc), .val (.int vd), .unset, .unset, .unset, .unset, .unset, .unset] [(.ref b9)])) _
    refine XS.dup X9.here hx rfl (hb hby at_63) rfl rfl ?_
    show Steps p.tables e below (T9.setTop (mkF m 64 #[.val (.int p0), .val (.int p1), .val (.int p2), .val (.int p3), .val (.int p4), .val (.int va), .val (.int vb), .val (.int vc), .val (.int vd), .unset, .unset, .unset, .unset, .unset, .unset] [(.ref b9), (.ref b9)])) _
    refine XS.iload X9.here hx rfl (hb hby at_64) rfl ?_
    show Steps p.tables e below (T9.setTop (mkF m 66 #[.val (.int p0), .val (.int p1), .val (.int p2), .val (.int p3), .val (.int p4), .val (.int va), .val (.int vb), .val (.int vc), .val (.int vd), .unset, .unset, .unset, .unset, .unset, .unset] [(.int va), (.ref b9), (.ref b9)])) _
    refine XS.iload X9.here hx rfl (hb hby at_66) rfl ?_
    show Steps p.tables e below (T9.setTop (mkF m 68 #[.val (.int p0), .val (.int p1), .val (.int p2), .val (.int p3), .val (.int p4), .val (.int va), .val (.int vb), .val (.int vc), .val (.int vd), .unset, .unset, .unset, .unset, .unset, .unset] [(.int vb), (.int va), (.ref b9), (.ref b9)])) _
    refine st10.trans ?_
    show Steps p.tables e below (T10.setTop (mkF m 71 #[.val (.int p0), .val (.int p1), .val (.int p2), .val (.int p3), .val (.int p4), .val (.int va), .val (.int vb), .val (.int vc), .val (.int vd), .unset, .unset, .unset, .unset, .unset, .unset] [(.ref b9)])) _
    refine XS.astore X10.here hx rfl (hb hby at_71) rfl rfl (l' := #[.val (.int p0), .val (.int p1), .val (.int p2), .val (.int p3), .val (.int p4), .val (.int va), .val (.int vb), .val (.int vc), .val (.int vd), .val (.ref b9), .unset, .unset, .unset, .unset, .unset]) rfl ?_
    show Steps p.tables e below (T10.setTop (mkF m 73 #[.val (.int p0), .val (.int p1), .val (.int p2), .val (.int p3), .val (.int p4), .val (.int va), .val (.int vb), .val (.int vc), .val (.int vd), .val (.ref b9), .unset, .unset, .unset, .unset, .unset] [])) _
    refine st11 _ ?_
    show Steps p.tables e below (T11.setTop (mkF m 76 #[.val (.int p0), .val (.int p1), .val (.int p2), .val (.int p3), .val (.int p4), .val (.int va), .val (.int vb), .val (.int vc), .val (.int vd), .val (.ref b9), .unset, .unset, .unset, .unset, .unset] [(.ref b11)])) _
    refine XS.dup X11.here hx rfl (hb hby at_76) rfl rfl ?_
    show Steps p.tables e below (T11.setTop (mkF m 77 #[.val (.int p0), .val (.int p1), .val (.int p2), .val (.int p3), .val (.int p4), .val (.int va), .val (.int vb), .val (.int vc), .val (.int vd), .val (.ref b9), .unset, .unset, .unset, .unset, .unset] [(.ref b11), (.ref b11)])) _
    refine XS.iload X11.here hx rfl (hb hby at_77) rfl ?_
    show Steps p.tables e below (T11.setTop (mkF m 79 #[.val (.int p0), .val (.int p1), .val (.int p2), .val (.int p3), .val (.int p4), .val (.int va), .val (.int vb), .val (.int vc), .val (.int vd), .val (.ref b9), .unset, .unset, .unset, .unset, .unset] [(.int vc), (.ref b11), (.ref b11)])) _
    refine XS.iload X11.here hx rfl (hb hby at_79) rfl ?_
    show Steps p.tables e below (T11.setTop (mkF m 81 #[.val (.int p0), .val (.int p1), .val (.int p2), .val (.int p3), .val (.int p4), .val (.int va), .val (.int vb), .val (.int vc), .val (.int vd), .val (.ref b9), .unset, .unset, .unset, .unset, .unset] [(.int vd), (.int vc), (.ref b11), (.ref b11)])) _
    refine st15.trans ?_
    show Steps p.tables e below (T15.setTop (mkF m 84 #[.val (.int p0), .val (.int p1), .val (.int p2), .val (.int p3), .val (.int p4), .val (.int va), .val (.int vb), .val (.int vc), .val (.int vd), .val (.ref b9), .unset, .unset, .unset, .unset, .unset] [(.ref b11)])) _
    refine XS.astore X15.here hx rfl (hb hby at_84) rfl rfl (l' := #[.val (.int p0), .val (.int p1), .val (.int p2), .val (.int p3), .val (.int p4), .val (.int va), .val (.int vb), .val (.int vc), .val (.int vd), .val (.ref b9), .val (.ref b11), .unset, .unset, .unset, .unset]) rfl ?_
    show Steps p.tables e below (T15.setTop (mkF m 86 #[.val (.int p0), .val (.int p1), .val (.int p2), .val (.int p3), .val (.int p4), .val (.int va), .val (.int vb), .val (.int vc), .val (.int vd), .val (.ref b9), .val (.ref b11), .unset, .unset, .unset, .unset] [])) _
    refine XS.aload X15.here hx rfl (hb hby at_86) rfl rfl ?_
    show Steps p.tables e below (T15.setTop (mkF m 88 #[.val (.int p0), .val (.int p1), .val (.int p2), .val (.int p3), .val (.int p4), .val (.int va), .val (.int vb), .val (.int vc), .val (.int vd), .val (.ref b9), .val (.ref b11), .unset, .unset, .unset, .unset] [(.ref b9)])) _
    refine st19.trans ?_
    show Steps p.tables e below (T19.setTop (mkF m 91 #[.val (.int p0), .val (.int p1), .val (.int p2), .val (.int p3), .val (.int p4), .val (.int va), .val (.int vb), .val (.int vc), .val (.int vd), .val (.ref b9), .val (.ref b11), .unset, .unset, .unset, .unset] [(.int ((va * (31 : Int32)) + vb))])) _
    refine XS.istore X19.here hx rfl (hb hby at_91) rfl (l' := #[.val (.int p0), .val (.int p1), .val (.int p2), .val (.int p3), .val (.int p4), .val (.int va), .val (.int vb), .val (.int vc), .val (.int vd), .val (.ref b9), .val (.ref b11), .val (.int ((va * (31 : Int32)) + vb)), .unset, .unset, .unset]) rfl ?_
    show Steps p.tables e below (T19.setTop (mkF m 93 #[.val (.int p0), .val (.int p1), .val (.int p2), .val (.int p3), .val (.int p4), .val (.int va), .val (.int vb), .val (.int vc), .val (.int vd), .val (.ref b9), .val (.ref b11), .val (.int ((va * (31 : Int32)) + vb)), .unset, .unset, .unset] [])) _
    refine XS.aload X19.here hx rfl (hb hby at_93) rfl rfl ?_
    show Steps p.tables e below (T19.setTop (mkF m 95 #[.val (.int p0), .val (.int p1), .val (.int p2), .val (.int p3), .val (.int p4), .val (.int va), .val (.int vb), .val (.int vc), .val (.int vd), .val (.ref b9), .val (.ref b11), .val (.int ((va * (31 : Int32)) + vb)), .unset, .unset, .unset] [(.ref b9)])) _
    refine st20.trans ?_
    show Steps p.tables e below (T20.setTop (mkF m 98 #[.val (.int p0), .val (.int p1), .val (.int p2), .val (.int p3), .val (.int p4), .val (.int va), .val (.int vb), .val (.int vc), .val (.int vd), .val (.ref b9), .val (.ref b11), .val (.int ((va * (31 : Int32)) + vb)), .unset, .unset, .unset] [(.int ((va * (31 : Int32)) + vb))])) _
    refine XS.istore X20.here hx rfl (hb hby at_98) rfl (l' := #[.val (.int p0), .val (.int p1), .val (.int p2), .val (.int p3), .val (.int p4), .val (.int va), .val (.int vb), .val (.int vc), .val (.int vd), .val (.ref b9), .val (.ref b11), .val (.int ((va * (31 : Int32)) + vb)), .val (.int ((va * (31 : Int32)) + vb)), .unset, .unset]) rfl ?_
    show Steps p.tables e below (T20.setTop (mkF m 100 #[.val (.int p0), .val (.int p1), .val (.int p2), .val (.int p3), .val (.int p4), .val (.int va), .val (.int vb), .val (.int vc), .val (.int vd), .val (.ref b9), .val (.ref b11), .val (.int ((va * (31 : Int32)) + vb)), .val (.int ((va * (31 : Int32)) + vb)), .unset, .unset] [])) _
    refine XS.aload X20.here hx rfl (hb hby at_100) rfl rfl ?_
    show Steps p.tables e below (T20.setTop (mkF m 102 #[.val (.int p0), .val (.int p1), .val (.int p2), .val (.int p3), .val (.int p4), .val (.int va), .val (.int vb), .val (.int vc), .val (.int vd), .val (.ref b9), .val (.ref b11), .val (.int ((va * (31 : Int32)) + vb)), .val (.int ((va * (31 : Int32)) + vb)), .unset, .unset] [(.ref b11)])) _
    refine st21.trans ?_
    show Steps p.tables e below (T21.setTop (mkF m 105 #[.val (.int p0), .val (.int p1), .val (.int p2), .val (.int p3), .val (.int p4), .val (.int va), .val (.int vb), .val (.int vc), .val (.int vd), .val (.ref b9), .val (.ref b11), .val (.int ((va * (31 : Int32)) + vb)), .val (.int ((va * (31 : Int32)) + vb)), .unset, .unset] [(.int ((vc * (31 : Int32)) + vd))])) _
    refine XS.istore X21.here hx rfl (hb hby at_105) rfl (l' := #[.val (.int p0), .val (.int p1), .val (.int p2), .val (.int p3), .val (.int p4), .val (.int va), .val (.int vb), .val (.int vc), .val (.int vd), .val (.ref b9), .val (.ref b11), .val (.int ((va * (31 : Int32)) + vb)), .val (.int ((va * (31 : Int32)) + vb)), .val (.int ((vc * (31 : Int32)) + vd)), .unset]) rfl ?_
    show Steps p.tables e below (T21.setTop (mkF m 107 #[.val (.int p0), .val (.int p1), .val (.int p2), .val (.int p3), .val (.int p4), .val (.int va), .val (.int vb), .val (.int vc), .val (.int vd), .val (.ref b9), .val (.ref b11), .val (.int ((va * (31 : Int32)) + vb)), .val (.int ((va * (31 : Int32)) + vb)), .val (.int ((vc * (31 : Int32)) + vd)), .unset] [])) _
    refine XS.iload X21.here hx rfl (hb hby at_107) rfl ?_
    show Steps p.tables e below (T21.setTop (mkF m 109 #[.val (.int p0), .val (.int p1), .val (.int p2), .val (.int p3), .val (.int p4), .val (.int va), .val (.int vb), .val (.int vc), .val (.int vd), .val (.ref b9), .val (.ref b11), .val (.int ((va * (31 : Int32)) + vb)), .val (.int ((va * (31 : Int32)) + vb)), .val (.int ((vc * (31 : Int32)) + vd)), .unset] [(.int ((va * (31 : Int32)) + vb))])) _
    refine XS.iload X21.here hx rfl (hb hby at_109) rfl ?_
    show Steps p.tables e below (T21.setTop (mkF m 111 #[.val (.int p0), .val (.int p1), .val (.int p2), .val (.int p3), .val (.int p4), .val (.int va), .val (.int vb), .val (.int vc), .val (.int vd), .val (.ref b9), .val (.ref b11), .val (.int ((va * (31 : Int32)) + vb)), .val (.int ((va * (31 : Int32)) + vb)), .val (.int ((vc * (31 : Int32)) + vd)), .unset] [(.int ((va * (31 : Int32)) + vb)), (.int ((va * (31 : Int32)) + vb))])) _
    refine XS.icmpYes X21.here hx rfl (pc0 := 111) (pc' := 116) rfl (hb hby at_111) rfl (teq hc22).1 (by decide) (by decide) ?_
    exact k)
  obtain ⟨sf, rfl, pre24⟩ : ∃ (sf : Int32), (sf = bI (va.toInt = vc.toInt ∧ vb.toInt = vd.toInt)) ∧ ∀ t, Steps p.tables e below (T21.setTop (mkF m 135 #[.val (.int p0), .val (.int p1), .val (.int p2), .val (.int p3), .val (.int p4), .val (.int va), .val (.int vb), .val (.int vc), .val (.int vd), .val (.ref b9), .val (.ref b11), .val (.int ((va * (31 : Int32)) + vb)), .val (.int ((va * (31 : Int32)) + vb)), .val (.int ((vc * (31 : Int32)) + vd)), .unset] [(.int sf)])) t → Steps p.tables e below (s₁.setTop (mkF m 0 #[.val (.int p0), .val (.int p1), .val (.int p2), .val (.int p3), .val (.int p4), .unset, .unset, .unset, .unset, .unset, .unset, .unset, .unset, .unset, .unset] [])) t := by
    have pre26 : ∀ t, Steps p.tables e below (T21.setTop (mkF m 120 #[.val (.int p0), .val (.int p1), .val (.int p2), .val (.int p3), .val (.int p4), .val (.int va), .val (.int vb), .val (.int vc), .val (.int vd), .val (.ref b9), .val (.ref b11), .val (.int ((va * (31 : Int32)) + vb)), .val (.int ((va * (31 : Int32)) + vb)), .val (.int ((vc * (31 : Int32)) + vd)), .unset] [(.int vc), (.int va)])) t → Steps p.tables e below (s₁.setTop (mkF m 0 #[.val (.int p0), .val (.int p1), .val (.int p2), .val (.int p3), .val (.int p4), .unset, .unset, .unset, .unset, .unset, .unset, .unset, .unset, .unset, .unset] [])) t := fun t k => pre23 t (by
      show Steps p.tables e below (T21.setTop (mkF m 116 #[.val (.int p0), .val (.int p1), .val (.int p2), .val (.int p3), .val (.int p4), .val (.int va), .val (.int vb), .val (.int vc), .val (.int vd), .val (.ref b9), .val (.ref b11), .val (.int ((va * (31 : Int32)) + vb)), .val (.int ((va * (31 : Int32)) + vb)), .val (.int ((vc * (31 : Int32)) + vd)), .unset] [])) _
      refine XS.iload X21.here hx rfl (hb hby at_116) rfl ?_
      show Steps p.tables e below (T21.setTop (mkF m 118 #[.val (.int p0), .val (.int p1), .val (.int p2), .val (.int p3), .val (.int p4), .val (.int va), .val (.int vb), .val (.int vc), .val (.int vd), .val (.ref b9), .val (.ref b11), .val (.int ((va * (31 : Int32)) + vb)), .val (.int ((va * (31 : Int32)) + vb)), .val (.int ((vc * (31 : Int32)) + vd)), .unset] [(.int va)])) _
      refine XS.iload X21.here hx rfl (hb hby at_118) rfl ?_
      exact k)
    by_cases hc25 : va = vc
    · skip
      have ohc25 : va.toInt = vc.toInt := own_eq.mp hc25
      have pre28 : ∀ t, Steps p.tables e below (T21.setTop (mkF m 127 #[.val (.int p0), .val (.int p1), .val (.int p2), .val (.int p3), .val (.int p4), .val (.int va), .val (.int vb), .val (.int vc), .val (.int vd), .val (.ref b9), .val (.ref b11), .val (.int ((va * (31 : Int32)) + vb)), .val (.int ((va * (31 : Int32)) + vb)), .val (.int ((vc * (31 : Int32)) + vd)), .unset] [(.int vd), (.int vb)])) t → Steps p.tables e below (s₁.setTop (mkF m 0 #[.val (.int p0), .val (.int p1), .val (.int p2), .val (.int p3), .val (.int p4), .unset, .unset, .unset, .unset, .unset, .unset, .unset, .unset, .unset, .unset] [])) t := fun t k => pre26 t (by
        show Steps p.tables e below (T21.setTop (mkF m 120 #[.val (.int p0), .val (.int p1), .val (.int p2), .val (.int p3), .val (.int p4), .val (.int va), .val (.int vb), .val (.int vc), .val (.int vd), .val (.ref b9), .val (.ref b11), .val (.int ((va * (31 : Int32)) + vb)), .val (.int ((va * (31 : Int32)) + vb)), .val (.int ((vc * (31 : Int32)) + vd)), .unset] [(.int vc), (.int va)])) _
        refine XS.icmpNo X21.here hx rfl (hb hby at_120) rfl (teq hc25).2 ?_
        show Steps p.tables e below (T21.setTop (mkF m 123 #[.val (.int p0), .val (.int p1), .val (.int p2), .val (.int p3), .val (.int p4), .val (.int va), .val (.int vb), .val (.int vc), .val (.int vd), .val (.ref b9), .val (.ref b11), .val (.int ((va * (31 : Int32)) + vb)), .val (.int ((va * (31 : Int32)) + vb)), .val (.int ((vc * (31 : Int32)) + vd)), .unset] [])) _
        refine XS.iload X21.here hx rfl (hb hby at_123) rfl ?_
        show Steps p.tables e below (T21.setTop (mkF m 125 #[.val (.int p0), .val (.int p1), .val (.int p2), .val (.int p3), .val (.int p4), .val (.int va), .val (.int vb), .val (.int vc), .val (.int vd), .val (.ref b9), .val (.ref b11), .val (.int ((va * (31 : Int32)) + vb)), .val (.int ((va * (31 : Int32)) + vb)), .val (.int ((vc * (31 : Int32)) + vd)), .unset] [(.int vb)])) _
        refine XS.iload X21.here hx rfl (hb hby at_125) rfl ?_
        exact k)
      by_cases hc27 : vb = vd
      · skip
        have ohc27 : vb.toInt = vd.toInt := own_eq.mp hc27
        refine ⟨(1 : Int32), ?_, fun t k => pre28 t ?_⟩
        · exact own_c1 (by omega)
        · skip
          show Steps p.tables e below (T21.setTop (mkF m 127 #[.val (.int p0), .val (.int p1), .val (.int p2), .val (.int p3), .val (.int p4), .val (.int va), .val (.int vb), .val (.int vc), .val (.int vd), .val (.ref b9), .val (.ref b11), .val (.int ((va * (31 : Int32)) + vb)), .val (.int ((va * (31 : Int32)) + vb)), .val (.int ((vc * (31 : Int32)) + vd)), .unset] [(.int vd), (.int vb)])) _
          refine XS.icmpNo X21.here hx rfl (hb hby at_127) rfl (teq hc27).2 ?_
          show Steps p.tables e below (T21.setTop (mkF m 130 #[.val (.int p0), .val (.int p1), .val (.int p2), .val (.int p3), .val (.int p4), .val (.int va), .val (.int vb), .val (.int vc), .val (.int vd), .val (.ref b9), .val (.ref b11), .val (.int ((va * (31 : Int32)) + vb)), .val (.int ((va * (31 : Int32)) + vb)), .val (.int ((vc * (31 : Int32)) + vd)), .unset] [])) _
          refine XS.iconst X21.here hx rfl (hb hby at_130) ?_
          show Steps p.tables e below (T21.setTop (mkF m 131 #[.val (.int p0), .val (.int p1), .val (.int p2), .val (.int p3), .val (.int p4), .val (.int va), .val (.int vb), .val (.int vc), .val (.int vd), .val (.ref b9), .val (.ref b11), .val (.int ((va * (31 : Int32)) + vb)), .val (.int ((va * (31 : Int32)) + vb)), .val (.int ((vc * (31 : Int32)) + vd)), .unset] [(.int (1 : Int32))])) _
          refine XS.goto X21.here hx rfl (pc0 := 131) (pc' := 135) rfl (hb hby at_131) (by decide) (by decide) ?_
          exact k
      · skip
        have ohc27 : ¬ (vb.toInt = vd.toInt) := own_neq.mp hc27
        refine ⟨(0 : Int32), ?_, fun t k => pre28 t ?_⟩
        · exact own_c0 (by omega)
        · skip
          show Steps p.tables e below (T21.setTop (mkF m 127 #[.val (.int p0), .val (.int p1), .val (.int p2), .val (.int p3), .val (.int p4), .val (.int va), .val (.int vb), .val (.int vc), .val (.int vd), .val (.ref b9), .val (.ref b11), .val (.int ((va * (31 : Int32)) + vb)), .val (.int ((va * (31 : Int32)) + vb)), .val (.int ((vc * (31 : Int32)) + vd)), .unset] [(.int vd), (.int vb)])) _
          refine XS.icmpYes X21.here hx rfl (pc0 := 127) (pc' := 134) rfl (hb hby at_127) rfl (feq hc27).2 (by decide) (by decide) ?_
          show Steps p.tables e below (T21.setTop (mkF m 134 #[.val (.int p0), .val (.int p1), .val (.int p2), .val (.int p3), .val (.int p4), .val (.int va), .val (.int vb), .val (.int vc), .val (.int vd), .val (.ref b9), .val (.ref b11), .val (.int ((va * (31 : Int32)) + vb)), .val (.int ((va * (31 : Int32)) + vb)), .val (.int ((vc * (31 : Int32)) + vd)), .unset] [])) _
          refine XS.iconst X21.here hx rfl (hb hby at_134) ?_
          exact k
    · skip
      have ohc25 : ¬ (va.toInt = vc.toInt) := own_neq.mp hc25
      refine ⟨(0 : Int32), ?_, fun t k => pre26 t ?_⟩
      · exact own_c0 (by omega)
      · skip
        show Steps p.tables e below (T21.setTop (mkF m 120 #[.val (.int p0), .val (.int p1), .val (.int p2), .val (.int p3), .val (.int p4), .val (.int va), .val (.int vb), .val (.int vc), .val (.int vd), .val (.ref b9), .val (.ref b11), .val (.int ((va * (31 : Int32)) + vb)), .val (.int ((va * (31 : Int32)) + vb)), .val (.int ((vc * (31 : Int32)) + vd)), .unset] [(.int vc), (.int va)])) _
        refine XS.icmpYes X21.here hx rfl (pc0 := 120) (pc' := 134) rfl (hb hby at_120) rfl (feq hc25).2 (by decide) (by decide) ?_
        show Steps p.tables e below (T21.setTop (mkF m 134 #[.val (.int p0), .val (.int p1), .val (.int p2), .val (.int p3), .val (.int p4), .val (.int va), .val (.int vb), .val (.int vc), .val (.int vd), .val (.ref b9), .val (.ref b11), .val (.int ((va * (31 : Int32)) + vb)), .val (.int ((va * (31 : Int32)) + vb)), .val (.int ((vc * (31 : Int32)) + vd)), .unset] [])) _
        refine XS.iconst X21.here hx rfl (hb hby at_134) ?_
        exact k
  have tsf := own_bt (P := va.toInt = vc.toInt ∧ vb.toInt = vd.toInt)
  have pre30 : ∀ t, Steps p.tables e below (T21.setTop (mkF m 139 #[.val (.int p0), .val (.int p1), .val (.int p2), .val (.int p3), .val (.int p4), .val (.int va), .val (.int vb), .val (.int vc), .val (.int vd), .val (.ref b9), .val (.ref b11), .val (.int ((va * (31 : Int32)) + vb)), .val (.int ((va * (31 : Int32)) + vb)), .val (.int ((vc * (31 : Int32)) + vd)), .val (.int (bI (va.toInt = vc.toInt ∧ vb.toInt = vd.toInt)))] [(.int (bI (va.toInt = vc.toInt ∧ vb.toInt = vd.toInt)))])) t → Steps p.tables e below (s₁.setTop (mkF m 0 #[.val (.int p0), .val (.int p1), .val (.int p2), .val (.int p3), .val (.int p4), .unset, .unset, .unset, .unset, .unset, .unset, .unset, .unset, .unset, .unset] [])) t := fun t k => pre24 t (by
    show Steps p.tables e below (T21.setTop (mkF m 135 #[.val (.int p0), .val (.int p1), .val (.int p2), .val (.int p3), .val (.int p4), .val (.int va), .val (.int vb), .val (.int vc), .val (.int vd), .val (.ref b9), .val (.ref b11), .val (.int ((va * (31 : Int32)) + vb)), .val (.int ((va * (31 : Int32)) + vb)), .val (.int ((vc * (31 : Int32)) + vd)), .unset] [(.int (bI (va.toInt = vc.toInt ∧ vb.toInt = vd.toInt)))])) _
    refine XS.istore X21.here hx rfl (hb hby at_135) rfl (l' := #[.val (.int p0), .val (.int p1), .val (.int p2), .val (.int p3), .val (.int p4), .val (.int va), .val (.int vb), .val (.int vc), .val (.int vd), .val (.ref b9), .val (.ref b11), .val (.int ((va * (31 : Int32)) + vb)), .val (.int ((va * (31 : Int32)) + vb)), .val (.int ((vc * (31 : Int32)) + vd)), .val (.int (bI (va.toInt = vc.toInt ∧ vb.toInt = vd.toInt)))]) rfl ?_
    show Steps p.tables e below (T21.setTop (mkF m 137 #[.val (.int p0), .val (.int p1), .val (.int p2), .val (.int p3), .val (.int p4), .val (.int va), .val (.int vb), .val (.int vc), .val (.int vd), .val (.ref b9), .val (.ref b11), .val (.int ((va * (31 : Int32)) + vb)), .val (.int ((va * (31 : Int32)) + vb)), .val (.int ((vc * (31 : Int32)) + vd)), .val (.int (bI (va.toInt = vc.toInt ∧ vb.toInt = vd.toInt)))] [])) _
    refine XS.iload X21.here hx rfl (hb hby at_137) rfl ?_
    exact k)
  by_cases hc29 : (bI (va.toInt = vc.toInt ∧ vb.toInt = vd.toInt)) = (0 : Int32)
  · skip
    have ohc29 : (bI (va.toInt = vc.toInt ∧ vb.toInt = vd.toInt)).toInt = 0 := own_eq.mp hc29
    obtain ⟨cq31, kq31, q31a, q31b, q31c⟩ := isOf hZ e21 c16
    obtain ⟨_, _, ⟨T31, L31, k31, n31⟩, -, X31, ⟨Lc31, hQ31, l31, y31, z31⟩, st31⟩ := X21.virtualBack hx (y := (⟨"com/example/acker/acker/engine/Backoff", "equals", "(Ljava/lang/Object;)Z"⟩ : MethodName)) (z := (⟨"com/example/acker/acker/engine/Backoff", "equals", "(Ljava/lang/Object;)Z"⟩ : MethodName)) hown (mvT hZ (hw _ (List.mem_of_getElem? (i := 21) rfl))) (mvT hZ (hw _ (List.mem_of_getElem? (i := 22) rfl))) (notFace_of_selects (args := #[]) (mvT hZ (hw _ (List.mem_of_getElem? (i := 24) rfl)))) (mvT hZ (hw _ (List.mem_of_getElem? (i := 24) rfl))) (mvT hZ (hw _ (List.mem_of_getElem? (i := 23) rfl))) (by decide) (backOf (W := 0) (rm4 l Z a0 hw [] b9 b11 va vb vc vd T15.heap n0 Z15 c17 c18 Fq15_0 Fq15_1 Eq15) hZ (hw _ (List.mem_of_getElem? (i := 25) rfl)) (hw _ (List.mem_of_getElem? (i := 4) rfl)) (by decide) (by decide)) q31a q31c (g := (mkF m 158 #[.val (.int p0), .val (.int p1), .val (.int p2), .val (.int p3), .val (.int p4), .val (.int va), .val (.int vb), .val (.int vc), .val (.int vd), .val (.ref b9), .val (.ref b11), .val (.int ((va * (31 : Int32)) + vb)), .val (.int ((va * (31 : Int32)) + vb)), .val (.int ((vc * (31 : Int32)) + vd)), .val (.int (bI (va.toInt = vc.toInt ∧ vb.toInt = vd.toInt)))] [(.ref b11), (.ref b9)])) rfl (by rw [hml]; rfl) (Steps.refl _) (argsL := [(.ref b11)]) (rest := []) (lenOf pd_2 rfl) rfl (by show 2 * 0 + _ ≤ _; exact Nat.le_of_eq rfl) (hb hby at_158) (fun _ _ => ⟨rfl, e21, (by decide : 2 + 0 ≤ _), (by decide : 4 + 0 ≤ _)⟩)
    dsimp only [Pt.U, Pt.locs, Pt.cells, Pt.slots] at X31 l31 y31 z31 st31 hQ31
    subst l31 y31 z31
    obtain ⟨rfl, Nq31, e31⟩ := hQ31
    have N31 := Fr.app N21 Nq31
    have t31 := own_bt (P := va.toInt = vc.toInt ∧ vb.toInt = vd.toInt)
    have pre33 : ∀ t, Steps p.tables e below (T31.setTop (mkF m 161 #[.val (.int p0), .val (.int p1), .val (.int p2), .val (.int p3), .val (.int p4), .val (.int va), .val (.int vb), .val (.int vc), .val (.int vd), .val (.ref b9), .val (.ref b11), .val (.int ((va * (31 : Int32)) + vb)), .val (.int ((va * (31 : Int32)) + vb)), .val (.int ((vc * (31 : Int32)) + vd)), .val (.int (bI (va.toInt = vc.toInt ∧ vb.toInt = vd.toInt)))] [(.int (bI (va.toInt = vc.toInt ∧ vb.toInt = vd.toInt)))])) t → Steps p.tables e below (s₁.setTop (mkF m 0 #[.val (.int p0), .val (.int p1), .val (.int p2), .val (.int p3), .val (.int p4), .unset, .unset, .unset, .unset, .unset, .unset, .unset, .unset, .unset, .unset] [])) t := fun t k => pre30 t (by
      show Steps p.tables e below (T21.setTop (mkF m 139 #[.val (.int p0), .val (.int p1), .val (.int p2), .val (.int p3), .val (.int p4), .val (.int va), .val (.int vb), .val (.int vc), .val (.int vd), .val (.ref b9), .val (.ref b11), .val (.int ((va * (31 : Int32)) + vb)), .val (.int ((va * (31 : Int32)) + vb)), .val (.int ((vc * (31 : Int32)) + vd)), .val (.int (bI (va.toInt = vc.toInt ∧ vb.toInt = vd.toInt)))] [(.int (bI (va.toInt = vc.toInt ∧ vb.toInt = vd.toInt)))])) _
      refine XS.ifYes X21.here hx rfl (pc0 := 139) (pc' := 154) rfl (hb hby at_139) rfl ((if0 _ _).trans (teq hc29).1) (by decide) (by decide) ?_
      show Steps p.tables e below (T21.setTop (mkF m 154 #[.val (.int p0), .val (.int p1), .val (.int p2), .val (.int p3), .val (.int p4), .val (.int va), .val (.int vb), .val (.int vc), .val (.int vd), .val (.ref b9), .val (.ref b11), .val (.int ((va * (31 : Int32)) + vb)), .val (.int ((va * (31 : Int32)) + vb)), .val (.int ((vc * (31 : Int32)) + vd)), .val (.int (bI (va.toInt = vc.toInt ∧ vb.toInt = vd.toInt)))] [])) _
      refine XS.aload X21.here hx rfl (hb hby at_154) rfl rfl ?_
      show Steps p.tables e below (T21.setTop (mkF m 156 #[.val (.int p0), .val (.int p1), .val (.int p2), .val (.int p3), .val (.int p4), .val (.int va), .val (.int vb), .val (.int vc), .val (.int vd), .val (.ref b9), .val (.ref b11), .val (.int ((va * (31 : Int32)) + vb)), .val (.int ((va * (31 : Int32)) + vb)), .val (.int ((vc * (31 : Int32)) + vd)), .val (.int (bI (va.toInt = vc.toInt ∧ vb.toInt = vd.toInt)))] [(.ref b9)])) _
      refine XS.aload X21.here hx rfl (hb hby at_156) rfl rfl ?_
      show Steps p.tables e below (T21.setTop (mkF m 158 #[.val (.int p0), .val (.int p1), .val (.int p2), .val (.int p3), .val (.int p4), .val (.int va), .val (.int vb), .val (.int vc), .val (.int vd), .val (.ref b9), .val (.ref b11), .val (.int ((va * (31 : Int32)) + vb)), .val (.int ((va * (31 : Int32)) + vb)), .val (.int ((vc * (31 : Int32)) + vd)), .val (.int (bI (va.toInt = vc.toInt ∧ vb.toInt = vd.toInt)))] [(.ref b11), (.ref b9)])) _
      refine st31.trans ?_
      exact k)
    by_cases hc32 : (bI (va.toInt = vc.toInt ∧ vb.toInt = vd.toInt)) = (0 : Int32)
    · skip
      have ohc32 : (bI (va.toInt = vc.toInt ∧ vb.toInt = vd.toInt)).toInt = 0 := own_eq.mp hc32
      obtain ⟨fs, hr, hrun, hended, hW, hsame⟩ := X31.leave (v := some (.int (1 : Int32))) (fun h => by rw [Bd.returns] at h; cases h)
      refine ⟨_, _, pre0 _ (pre33 _ ?_), hrun, hended, _, _, rfl, ?_, ⟨_, rfl⟩, hW, hsame.mono (by decide) (by decide)⟩
      · skip
        show Steps p.tables e below (T31.setTop (mkF m 161 #[.val (.int p0), .val (.int p1), .val (.int p2), .val (.int p3), .val (.int p4), .val (.int va), .val (.int vb), .val (.int vc), .val (.int vd), .val (.ref b9), .val (.ref b11), .val (.int ((va * (31 : Int32)) + vb)), .val (.int ((va * (31 : Int32)) + vb)), .val (.int ((vc * (31 : Int32)) + vd)), .val (.int (bI (va.toInt = vc.toInt ∧ vb.toInt = vd.toInt)))] [(.int (bI (va.toInt = vc.toInt ∧ vb.toInt = vd.toInt)))])) _
        refine XS.ifYes X31.here hx rfl (pc0 := 161) (pc' := 173) rfl (hb hby at_161) rfl ((if0 _ _).trans (teq hc32).1) (by decide) (by decide) ?_
        show Steps p.tables e below (T31.setTop (mkF m 173 #[.val (.int p0), .val (.int p1), .val (.int p2), .val (.int p3), .val (.int p4), .val (.int va), .val (.int vb), .val (.int vc), .val (.int vd), .val (.ref b9), .val (.ref b11), .val (.int ((va * (31 : Int32)) + vb)), .val (.int ((va * (31 : Int32)) + vb)), .val (.int ((vc * (31 : Int32)) + vd)), .val (.int (bI (va.toInt = vc.toInt ∧ vb.toInt = vd.toInt)))] [])) _
        refine XS.iconst X31.here hx rfl (hb hby at_173) ?_
        show Steps p.tables e below (T31.setTop (mkF m 174 #[.val (.int p0), .val (.int p1), .val (.int p2), .val (.int p3), .val (.int p4), .val (.int va), .val (.int vb), .val (.int vc), .val (.int vd), .val (.ref b9), .val (.ref b11), .val (.int ((va * (31 : Int32)) + vb)), .val (.int ((va * (31 : Int32)) + vb)), .val (.int ((vc * (31 : Int32)) + vd)), .val (.int (bI (va.toInt = vc.toInt ∧ vb.toInt = vd.toInt)))] [(.int (1 : Int32))])) _
        exact retN X31 hx (t := .boolean) Bd.returns (by simp) (hb hby at_174) hr
      · show Q0 Z p0 p1 p2 p3 p4 h0 n0 _ T31.heap _
        rw [e31]
        exact ⟨rfl, N31⟩
    · skip
      have ohc32 : ¬ ((bI (va.toInt = vc.toInt ∧ vb.toInt = vd.toInt)).toInt = 0) := own_neq.mp hc32
      have hc34 : ((va * (31 : Int32)) + vb) = ((vc * (31 : Int32)) + vd) := by have q1 : va = vc := own_eq.mpr (by omega); have q2 : vb = vd := own_eq.mpr (by omega); rw [q1, q2]
      have ohc34 : ((va * (31 : Int32)) + vb).toInt = ((vc * (31 : Int32)) + vd).toInt := own_eq.mp hc34
      obtain ⟨fs, hr, hrun, hended, hW, hsame⟩ := X31.leave (v := some (.int (1 : Int32))) (fun h => by rw [Bd.returns] at h; cases h)
      refine ⟨_, _, pre0 _ (pre33 _ ?_), hrun, hended, _, _, rfl, ?_, ⟨_, rfl⟩, hW, hsame.mono (by decide) (by decide)⟩
      · skip
        show Steps p.tables e below (T31.setTop (mkF m 161 #[.val (.int p0), .val (.int p1), .val (.int p2), .val (.int p3), .val (.int p4), .val (.int va), .val (.int vb), .val (.int vc), .val (.int vd), .val (.ref b9), .val (.ref b11), .val (.int ((va * (31 : Int32)) + vb)), .val (.int ((va * (31 : Int32)) + vb)), .val (.int ((vc * (31 : Int32)) + vd)), .val (.int (bI (va.toInt = vc.toInt ∧ vb.toInt = vd.toInt)))] [(.int (bI (va.toInt = vc.toInt ∧ vb.toInt = vd.toInt)))])) _
        refine XS.ifNo X31.here hx rfl (hb hby at_161) rfl ((if0 _ _).trans (feq hc32).1) ?_
        show Steps p.tables e below (T31.setTop (mkF m 164 #[.val (.int p0), .val (.int p1), .val (.int p2), .val (.int p3), .val (.int p4), .val (.int va), .val (.int vb), .val (.int vc), .val (.int vd), .val (.ref b9), .val (.ref b11), .val (.int ((va * (31 : Int32)) + vb)), .val (.int ((va * (31 : Int32)) + vb)), .val (.int ((vc * (31 : Int32)) + vd)), .val (.int (bI (va.toInt = vc.toInt ∧ vb.toInt = vd.toInt)))] [])) _
        refine XS.iload X31.here hx rfl (hb hby at_164) rfl ?_
        show Steps p.tables e below (T31.setTop (mkF m 166 #[.val (.int p0), .val (.int p1), .val (.int p2), .val (.int p3), .val (.int p4), .val (.int va), .val (.int vb), .val (.int vc), .val (.int vd), .val (.ref b9), .val (.ref b11), .val (.int ((va * (31 : Int32)) + vb)), .val (.int ((va * (31 : Int32)) + vb)), .val (.int ((vc * (31 : Int32)) + vd)), .val (.int (bI (va.toInt = vc.toInt ∧ vb.toInt = vd.toInt)))] [(.int ((va * (31 : Int32)) + vb))])) _
        refine XS.iload X31.here hx rfl (hb hby at_166) rfl ?_
        show Steps p.tables e below (T31.setTop (mkF m 168 #[.val (.int p0), .val (.int p1), .val (.int p2), .val (.int p3), .val (.int p4), .val (.int va), .val (.int vb), .val (.int vc), .val (.int vd), .val (.ref b9), .val (.ref b11), .val (.int ((va * (31 : Int32)) + vb)), .val (.int ((va * (31 : Int32)) + vb)), .val (.int ((vc * (31 : Int32)) + vd)), .val (.int (bI (va.toInt = vc.toInt ∧ vb.toInt = vd.toInt)))] [(.int ((vc * (31 : Int32)) + vd)), (.int ((va * (31 : Int32)) + vb))])) _
        refine XS.icmpYes X31.here hx rfl (pc0 := 168) (pc' := 173) rfl (hb hby at_168) rfl (teq hc34).1 (by decide) (by decide) ?_
        show Steps p.tables e below (T31.setTop (mkF m 173 #[.val (.int p0), .val (.int p1), .val (.int p2), .val (.int p3), .val (.int p4), .val (.int va), .val (.int vb), .val (.int vc), .val (.int vd), .val (.ref b9), .val (.ref b11), .val (.int ((va * (31 : Int32)) + vb)), .val (.int ((va * (31 : Int32)) + vb)), .val (.int ((vc * (31 : Int32)) + vd)), .val (.int (bI (va.toInt = vc.toInt ∧ vb.toInt = vd.toInt)))] [])) _
        refine XS.iconst X31.here hx rfl (hb hby at_173) ?_
        show Steps p.tables e below (T31.setTop (mkF m 174 #[.val (.int p0), .val (.int p1), .val (.int p2), .val (.int p3), .val (.int p4), .val (.int va), .val (.int vb), .val (.int vc), .val (.int vd), .val (.ref b9), .val (.ref b11), .val (.int ((va * (31 : Int32)) + vb)), .val (.int ((va * (31 : Int32)) + vb)), .val (.int ((vc * (31 : Int32)) + vd)), .val (.int (bI (va.toInt = vc.toInt ∧ vb.toInt = vd.toInt)))] [(.int (1 : Int32))])) _
        exact retN X31 hx (t := .boolean) Bd.returns (by simp) (hb hby at_174) hr
      · show Q0 Z p0 p1 p2 p3 p4 h0 n0 _ T31.heap _
        rw [e31]
        exact ⟨rfl, N31⟩
  · skip
    have ohc29 : ¬ ((bI (va.toInt = vc.toInt ∧ vb.toInt = vd.toInt)).toInt = 0) := own_neq.mp hc29
    obtain ⟨cq35, kq35, q35a, q35b, q35c⟩ := isOf hZ e21 c16
    obtain ⟨_, _, ⟨T35, L35, k35, n35⟩, -, X35, ⟨Lc35, hQ35, l35, y35, z35⟩, st35⟩ := X21.virtualBack hx (y := (⟨"com/example/acker/acker/engine/Backoff", "equals", "(Ljava/lang/Object;)Z"⟩ : MethodName)) (z := (⟨"com/example/acker/acker/engine/Backoff", "equals", "(Ljava/lang/Object;)Z"⟩ : MethodName)) hown (mvT hZ (hw _ (List.mem_of_getElem? (i := 21) rfl))) (mvT hZ (hw _ (List.mem_of_getElem? (i := 22) rfl))) (notFace_of_selects (args := #[]) (mvT hZ (hw _ (List.mem_of_getElem? (i := 24) rfl)))) (mvT hZ (hw _ (List.mem_of_getElem? (i := 24) rfl))) (mvT hZ (hw _ (List.mem_of_getElem? (i := 23) rfl))) (by decide) (backOf (W := 0) (rm4 l Z a0 hw [] b9 b11 va vb vc vd T15.heap n0 Z15 c17 c18 Fq15_0 Fq15_1 Eq15) hZ (hw _ (List.mem_of_getElem? (i := 25) rfl)) (hw _ (List.mem_of_getElem? (i := 4) rfl)) (by decide) (by decide)) q35a q35c (g := (mkF m 146 #[.val (.int p0), .val (.int p1), .val (.int p2), .val (.int p3), .val (.int p4), .val (.int va), .val (.int vb), .val (.int vc), .val (.int vd), .val (.ref b9), .val (.ref b11), .val (.int ((va * (31 : Int32)) + vb)), .val (.int ((va * (31 : Int32)) + vb)), .val (.int ((vc * (31 : Int32)) + vd)), .val (.int (bI (va.toInt = vc.toInt ∧ vb.toInt = vd.toInt)))] [(.ref b11), (.ref b9)])) rfl (by rw [hml]; rfl) (Steps.refl _) (argsL := [(.ref b11)]) (rest := []) (lenOf pd_2 rfl) rfl (by show 2 * 0 + _ ≤ _; exact Nat.le_of_eq rfl) (hb hby at_146) (fun _ _ => ⟨rfl, e21, (by decide : 2 + 0 ≤ _), (by decide : 4 + 0 ≤ _)⟩)
    dsimp only [Pt.U, Pt.locs, Pt.cells, Pt.slots] at X35 l35 y35 z35 st35 hQ35
    subst l35 y35 z35
    obtain ⟨rfl, Nq35, e35⟩ := hQ35
    have N35 := Fr.app N21 Nq35
    have t35 := own_bt (P := va.toInt = vc.toInt ∧ vb.toInt = vd.toInt)
    have hc36 : ¬ ((bI (va.toInt = vc.toInt ∧ vb.toInt = vd.toInt)) = (0 : Int32)) := own_neq.mpr (show ¬ ((bI (va.toInt = vc.toInt ∧ vb.toInt = vd.toInt)).toInt = 0) by omega)
    have ohc36 : ¬ ((bI (va.toInt = vc.toInt ∧ vb.toInt = vd.toInt)).toInt = 0) := own_neq.mp hc36
    obtain ⟨cq37, kq37, q37a, q37b, q37c⟩ := isOf hZ e35 c16
    obtain ⟨_, _, ⟨T37, L37, k37, n37⟩, -, X37, ⟨Lc37, hQ37, l37, y37, z37⟩, st37⟩ := X35.virtualBack hx (y := (⟨"com/example/acker/acker/engine/Backoff", "equals", "(Ljava/lang/Object;)Z"⟩ : MethodName)) (z := (⟨"com/example/acker/acker/engine/Backoff", "equals", "(Ljava/lang/Object;)Z"⟩ : MethodName)) hown (mvT hZ (hw _ (List.mem_of_getElem? (i := 21) rfl))) (mvT hZ (hw _ (List.mem_of_getElem? (i := 22) rfl))) (notFace_of_selects (args := #[]) (mvT hZ (hw _ (List.mem_of_getElem? (i := 24) rfl)))) (mvT hZ (hw _ (List.mem_of_getElem? (i := 24) rfl))) (mvT hZ (hw _ (List.mem_of_getElem? (i := 23) rfl))) (by decide) (backOf (W := 0) (rm4 l Z a0 hw [] b9 b11 va vb vc vd T15.heap n0 Z15 c17 c18 Fq15_0 Fq15_1 Eq15) hZ (hw _ (List.mem_of_getElem? (i := 25) rfl)) (hw _ (List.mem_of_getElem? (i := 4) rfl)) (by decide) (by decide)) q37a q37c (g := (mkF m 158 #[.val (.int p0), .val (.int p1), .val (.int p2), .val (.int p3), .val (.int p4), .val (.int va), .val (.int vb), .val (.int vc), .val (.int vd), .val (.ref b9), .val (.ref b11), .val (.int ((va * (31 : Int32)) + vb)), .val (.int ((va * (31 : Int32)) + vb)), .val (.int ((vc * (31 : Int32)) + vd)), .val (.int (bI (va.toInt = vc.toInt ∧ vb.toInt = vd.toInt)))] [(.ref b11), (.ref b9)])) rfl (by rw [hml]; rfl) (Steps.refl _) (argsL := [(.ref b11)]) (rest := []) (lenOf pd_2 rfl) rfl (by show 2 * 0 + _ ≤ _; exact Nat.le_of_eq rfl) (hb hby at_158) (fun _ _ => ⟨rfl, e35, (by decide : 2 + 0 ≤ _), (by decide : 4 + 0 ≤ _)⟩)
    dsimp only [Pt.U, Pt.locs, Pt.cells, Pt.slots] at X37 l37 y37 z37 st37 hQ37
    subst l37 y37 z37
    obtain ⟨rfl, Nq37, e37⟩ := hQ37
    have N37 := Fr.app N35 Nq37
    have t37 := own_bt (P := va.toInt = vc.toInt ∧ vb.toInt = vd.toInt)
    have pre39 : ∀ t, Steps p.tables e below (T37.setTop (mkF m 161 #[.val (.int p0), .val (.int p1), .val (.int p2), .val (.int p3), .val (.int p4), .val (.int va), .val (.int vb), .val (.int vc), .val (.int vd), .val (.ref b9), .val (.ref b11), .val (.int ((va * (31 : Int32)) + vb)), .val (.int ((va * (31 : Int32)) + vb)), .val (.int ((vc * (31 : Int32)) + vd)), .val (.int (bI (va.toInt = vc.toInt ∧ vb.toInt = vd.toInt)))] [(.int (bI (va.toInt = vc.toInt ∧ vb.toInt = vd.toInt)))])) t → Steps p.tables e below (s₁.setTop (mkF m 0 #[.val (.int p0), .val (.int p1), .val (.int p2), .val (.int p3), .val (.int p4), .unset, .unset, .unset, .unset, .unset, .unset, .unset, .unset, .unset, .unset] [])) t := fun t k => pre30 t (by
      show Steps p.tables e below (T21.setTop (mkF m 139 #[.val (.int p0), .val (.int p1), .val (.int p2), .val (.int p3), .val (.int p4), .val (.int va), .val (.int vb), .val (.int vc), .val (.int vd), .val (.ref b9), .val (.ref b11), .val (.int ((va * (31 : Int32)) + vb)), .val (.int ((va * (31 : Int32)) + vb)), .val (.int ((vc * (31 : Int32)) + vd)), .val (.int (bI (va.toInt = vc.toInt ∧ vb.toInt = vd.toInt)))] [(.int (bI (va.toInt = vc.toInt ∧ vb.toInt = vd.toInt)))])) _
      refine XS.ifNo X21.here hx rfl (hb hby at_139) rfl ((if0 _ _).trans (feq hc29).1) ?_
      show Steps p.tables e below (T21.setTop (mkF m 142 #[.val (.int p0), .val (.int p1), .val (.int p2), .val (.int p3), .val (.int p4), .val (.int va), .val (.int vb), .val (.int vc), .val (.int vd), .val (.ref b9), .val (.ref b11), .val (.int ((va * (31 : Int32)) + vb)), .val (.int ((va * (31 : Int32)) + vb)), .val (.int ((vc * (31 : Int32)) + vd)), .val (.int (bI (va.toInt = vc.toInt ∧ vb.toInt = vd.toInt)))] [])) _
      refine XS.aload X21.here hx rfl (hb hby at_142) rfl rfl ?_
      show Steps p.tables e below (T21.setTop (mkF m 144 #[.val (.int p0), .val (.int p1), .val (.int p2), .val (.int p3), .val (.int p4), .val (.int va), .val (.int vb), .val (.int vc), .val (.int vd), .val (.ref b9), .val (.ref b11), .val (.int ((va * (31 : Int32)) + vb)), .val (.int ((va * (31 : Int32)) + vb)), .val (.int ((vc * (31 : Int32)) + vd)), .val (.int (bI (va.toInt = vc.toInt ∧ vb.toInt = vd.toInt)))] [(.ref b9)])) _
      refine XS.aload X21.here hx rfl (hb hby at_144) rfl rfl ?_
      show Steps p.tables e below (T21.setTop (mkF m 146 #[.val (.int p0), .val (.int p1), .val (.int p2), .val (.int p3), .val (.int p4), .val (.int va), .val (.int vb), .val (.int vc), .val (.int vd), .val (.ref b9), .val (.ref b11), .val (.int ((va * (31 : Int32)) + vb)), .val (.int ((va * (31 : Int32)) + vb)), .val (.int ((vc * (31 : Int32)) + vd)), .val (.int (bI (va.toInt = vc.toInt ∧ vb.toInt = vd.toInt)))] [(.ref b11), (.ref b9)])) _
      refine st35.trans ?_
      show Steps p.tables e below (T35.setTop (mkF m 149 #[.val (.int p0), .val (.int p1), .val (.int p2), .val (.int p3), .val (.int p4), .val (.int va), .val (.int vb), .val (.int vc), .val (.int vd), .val (.ref b9), .val (.ref b11), .val (.int ((va * (31 : Int32)) + vb)), .val (.int ((va * (31 : Int32)) + vb)), .val (.int ((vc * (31 : Int32)) + vd)), .val (.int (bI (va.toInt = vc.toInt ∧ vb.toInt = vd.toInt)))] [(.int (bI (va.toInt = vc.toInt ∧ vb.toInt = vd.toInt)))])) _
      refine XS.ifYes X35.here hx rfl (pc0 := 149) (pc' := 154) rfl (hb hby at_149) rfl ((if0 _ _).trans (feq hc36).2) (by decide) (by decide) ?_
      show Steps p.tables e below (T35.setTop (mkF m 154 #[.val (.int p0), .val (.int p1), .val (.int p2), .val (.int p3), .val (.int p4), .val (.int va), .val (.int vb), .val (.int vc), .val (.int vd), .val (.ref b9), .val (.ref b11), .val (.int ((va * (31 : Int32)) + vb)), .val (.int ((va * (31 : Int32)) + vb)), .val (.int ((vc * (31 : Int32)) + vd)), .val (.int (bI (va.toInt = vc.toInt ∧ vb.toInt = vd.toInt)))] [])) _
      refine XS.aload X35.here hx rfl (hb hby at_154) rfl rfl ?_
      show Steps p.tables e below (T35.setTop (mkF m 156 #[.val (.int p0), .val (.int p1), .val (.int p2), .val (.int p3), .val (.int p4), .val (.int va), .val (.int vb), .val (.int vc), .val (.int vd), .val (.ref b9), .val (.ref b11), .val (.int ((va * (31 : Int32)) + vb)), .val (.int ((va * (31 : Int32)) + vb)), .val (.int ((vc * (31 : Int32)) + vd)), .val (.int (bI (va.toInt = vc.toInt ∧ vb.toInt = vd.toInt)))] [(.ref b9)])) _
      refine XS.aload X35.here hx rfl (hb hby at_156) rfl rfl ?_
      show Steps p.tables e below (T35.setTop (mkF m 158 #[.val (.int p0), .val (.int p1), .val (.int p2), .val (.int p3), .val (.int p4), .val (.int va), .val (.int vb), .val (.int vc), .val (.int vd), .val (.ref b9), .val (.ref b11), .val (.int ((va * (31 : Int32)) + vb)), .val (.int ((va * (31 : Int32)) + vb)), .val (.int ((vc * (31 : Int32)) + vd)), .val (.int (bI (va.toInt = vc.toInt ∧ vb.toInt = vd.toInt)))] [(.ref b11), (.ref b9)])) _
      refine st37.trans ?_
      exact k)
    by_cases hc38 : (bI (va.toInt = vc.toInt ∧ vb.toInt = vd.toInt)) = (0 : Int32)
    · skip
      have ohc38 : (bI (va.toInt = vc.toInt ∧ vb.toInt = vd.toInt)).toInt = 0 := own_eq.mp hc38
      obtain ⟨fs, hr, hrun, hended, hW, hsame⟩ := X37.leave (v := some (.int (1 : Int32))) (fun h => by rw [Bd.returns] at h; cases h)
      refine ⟨_, _, pre0 _ (pre39 _ ?_), hrun, hended, _, _, rfl, ?_, ⟨_, rfl⟩, hW, hsame.mono (by decide) (by decide)⟩
      · skip
        show Steps p.tables e below (T37.setTop (mkF m 161 #[.val (.int p0), .val (.int p1), .val (.int p2), .val (.int p3), .val (.int p4), .val (.int va), .val (.int vb), .val (.int vc), .val (.int vd), .val (.ref b9), .val (.ref b11), .val (.int ((va * (31 : Int32)) + vb)), .val (.int ((va * (31 : Int32)) + vb)), .val (.int ((vc * (31 : Int32)) + vd)), .val (.int (bI (va.toInt = vc.toInt ∧ vb.toInt = vd.toInt)))] [(.int (bI (va.toInt = vc.toInt ∧ vb.toInt = vd.toInt)))])) _
        refine XS.ifYes X37.here hx rfl (pc0 := 161) (pc' := 173) rfl (hb hby at_161) rfl ((if0 _ _).trans (teq hc38).1) (by decide) (by decide) ?_
        show Steps p.tables e below (T37.setTop (mkF m 173 #[.val (.int p0), .val (.int p1), .val (.int p2), .val (.int p3), .val (.int p4), .val (.int va), .val (.int vb), .val (.int vc), .val (.int vd), .val (.ref b9), .val (.ref b11), .val (.int ((va * (31 : Int32)) + vb)), .val (.int ((va * (31 : Int32)) + vb)), .val (.int ((vc * (31 : Int32)) + vd)), .val (.int (bI (va.toInt = vc.toInt ∧ vb.toInt = vd.toInt)))] [])) _
        refine XS.iconst X37.here hx rfl (hb hby at_173) ?_
        show Steps p.tables e below (T37.setTop (mkF m 174 #[.val (.int p0), .val (.int p1), .val (.int p2), .val (.int p3), .val (.int p4), .val (.int va), .val (.int vb), .val (.int vc), .val (.int vd), .val (.ref b9), .val (.ref b11), .val (.int ((va * (31 : Int32)) + vb)), .val (.int ((va * (31 : Int32)) + vb)), .val (.int ((vc * (31 : Int32)) + vd)), .val (.int (bI (va.toInt = vc.toInt ∧ vb.toInt = vd.toInt)))] [(.int (1 : Int32))])) _
        exact retN X37 hx (t := .boolean) Bd.returns (by simp) (hb hby at_174) hr
      · show Q0 Z p0 p1 p2 p3 p4 h0 n0 _ T37.heap _
        rw [e37]
        exact ⟨rfl, N37⟩
    · skip
      have ohc38 : ¬ ((bI (va.toInt = vc.toInt ∧ vb.toInt = vd.toInt)).toInt = 0) := own_neq.mp hc38
      have hc40 : ((va * (31 : Int32)) + vb) = ((vc * (31 : Int32)) + vd) := by have q1 : va = vc := own_eq.mpr (by omega); have q2 : vb = vd := own_eq.mpr (by omega); rw [q1, q2]
      have ohc40 : ((va * (31 : Int32)) + vb).toInt = ((vc * (31 : Int32)) + vd).toInt := own_eq.mp hc40
      obtain ⟨fs, hr, hrun, hended, hW, hsame⟩ := X37.leave (v := some (.int (1 : Int32))) (fun h => by rw [Bd.returns] at h; cases h)
      refine ⟨_, _, pre0 _ (pre39 _ ?_), hrun, hended, _, _, rfl, ?_, ⟨_, rfl⟩, hW, hsame.mono (by decide) (by decide)⟩
      · skip
        show Steps p.tables e below (T37.setTop (mkF m 161 #[.val (.int p0), .val (.int p1), .val (.int p2), .val (.int p3), .val (.int p4), .val (.int va), .val (.int vb), .val (.int vc), .val (.int vd), .val (.ref b9), .val (.ref b11), .val (.int ((va * (31 : Int32)) + vb)), .val (.int ((va * (31 : Int32)) + vb)), .val (.int ((vc * (31 : Int32)) + vd)), .val (.int (bI (va.toInt = vc.toInt ∧ vb.toInt = vd.toInt)))] [(.int (bI (va.toInt = vc.toInt ∧ vb.toInt = vd.toInt)))])) _
        refine XS.ifNo X37.here hx rfl (hb hby at_161) rfl ((if0 _ _).trans (feq hc38).1) ?_
        show Steps p.tables e below (T37.setTop (mkF m 164 #[.val (.int p0), .val (.int p1), .val (.int p2), .val (.int p3), .val (.int p4), .val (.int va), .val (.int vb), .val (.int vc), .val (.int vd), .val (.ref b9), .val (.ref b11), .val (.int ((va * (31 : Int32)) + vb)), .val (.int ((va * (31 : Int32)) + vb)), .val (.int ((vc * (31 : Int32)) + vd)), .val (.int (bI (va.toInt = vc.toInt ∧ vb.toInt = vd.toInt)))] [])) _
        refine XS.iload X37.here hx rfl (hb hby at_164) rfl ?_
        show Steps p.tables e below (T37.setTop (mkF m 166 #[.val (.int p0), .val (.int p1), .val (.int p2), .val (.int p3), .val (.int p4), .val (.int va), .val (.int vb), .val (.int vc), .val (.int vd), .val (.ref b9), .val (.ref b11), .val (.int ((va * (31 : Int32)) + vb)), .val (.int ((va * (31 : Int32)) + vb)), .val (.int ((vc * (31 : Int32)) + vd)), .val (.int (bI (va.toInt = vc.toInt ∧ vb.toInt = vd.toInt)))] [(.int ((va * (31 : Int32)) + vb))])) _
        refine XS.iload X37.here hx rfl (hb hby at_166) rfl ?_
        show Steps p.tables e below (T37.setTop (mkF m 168 #[.val (.int p0), .val (.int p1), .val (.int p2), .val (.int p3), .val (.int p4), .val (.int va), .val (.int vb), .val (.int vc), .val (.int vd), .val (.ref b9), .val (.ref b11), .val (.int ((va * (31 : Int32)) + vb)), .val (.int ((va * (31 : Int32)) + vb)), .val (.int ((vc * (31 : Int32)) + vd)), .val (.int (bI (va.toInt = vc.toInt ∧ vb.toInt = vd.toInt)))] [(.int ((vc * (31 : Int32)) + vd)), (.int ((va * (31 : Int32)) + vb))])) _
        refine XS.icmpYes X37.here hx rfl (pc0 := 168) (pc' := 173) rfl (hb hby at_168) rfl (teq hc40).1 (by decide) (by decide) ?_
        show Steps p.tables e below (T37.setTop (mkF m 173 #[.val (.int p0), .val (.int p1), .val (.int p2), .val (.int p3), .val (.int p4), .val (.int va), .val (.int vb), .val (.int vc), .val (.int vd), .val (.ref b9), .val (.ref b11), .val (.int ((va * (31 : Int32)) + vb)), .val (.int ((va * (31 : Int32)) + vb)), .val (.int ((vc * (31 : Int32)) + vd)), .val (.int (bI (va.toInt = vc.toInt ∧ vb.toInt = vd.toInt)))] [])) _
        refine XS.iconst X37.here hx rfl (hb hby at_173) ?_
        show Steps p.tables e below (T37.setTop (mkF m 174 #[.val (.int p0), .val (.int p1), .val (.int p2), .val (.int p3), .val (.int p4), .val (.int va), .val (.int vb), .val (.int vc), .val (.int vd), .val (.ref b9), .val (.ref b11), .val (.int ((va * (31 : Int32)) + vb)), .val (.int ((va * (31 : Int32)) + vb)), .val (.int ((vc * (31 : Int32)) + vd)), .val (.int (bI (va.toInt = vc.toInt ∧ vb.toInt = vd.toInt)))] [(.int (1 : Int32))])) _
        exact retN X37 hx (t := .boolean) Bd.returns (by simp) (hb hby at_174) hr
      · show Q0 Z p0 p1 p2 p3 p4 h0 n0 _ T37.heap _
        rw [e37]
        exact ⟨rfl, N37⟩
set_option maxRecDepth 65536 in
set_option maxHeartbeats 40000000 in
theorem comes_1 {Post : Tables → Env → Array Value → State → Outcome → State → Prop} (hpost : ∀ tb e args s v u, (limb_1_1.after args s (.returned v) u = true ∧ limb_1_2.after args s (.returned v) u = true ∧ True) → FrameEnd s (.returned v) u (Jvm.fieldLocs frame_1_writes args s ++ Jvm.arrayLocs frame_1_arrays args s ++ Jvm.staticLocs frame_1_statics s) 16 128 → Post tb e args s (.returned v) u) :
    ArmFor flags0 classFile x code maxLocals ret World_1 tables_1 room_1 Calls_1 rest_1 Pre_1 Post := by
  intro l hfl _ _ p e ha hc hk s m args below hf hA hF happ hP
  obtain ⟨hcalls, hrest, hpre⟩ := hP
  obtain ⟨-, -, -, hnamed, -, -, -, hat⟩ := (Spec.applies_iff hf).mp happ
  obtain ⟨hg, hn⟩ := and_e (Cond.before_iff.mp (show (Jvm.Cond.and given_1 narrow_1).before args s = true from hpre))
  obtain ⟨g1, g2⟩ := and_e hg
  obtain ⟨g3, g4⟩ := and_e g2
  obtain ⟨g5, g6⟩ := and_e g4
  obtain ⟨g7, g8⟩ := and_e g6
  obtain ⟨g9, g10⟩ := and_e g8
  obtain ⟨w0, w1, w2, w3, w4, rfl⟩ : ∃ w0 w1 w2 w3 w4 : Value, args = #[w0, w1, w2, w3, w4] := by
    have hs : args.size = 5 := by simpa [Cond.value, given_1] using g1
    obtain ⟨L⟩ := args
    match L, hs with
    | [w0, w1, w2, w3, w4], _ => exact ⟨w0, w1, w2, w3, w4, rfl⟩
  have hw := fun d (hd : d ∈ tables_1) => atoms_spec (ws := Jvm.Cond.code x code maxLocals ret :: tables_1) hat d (List.mem_cons_of_mem _ hd)
  have hfit : Fit s := fun {y c} hc i hi => by
    obtain ⟨ha, rfl⟩ := Array.getElem?_eq_some_iff.mp hc
    have q := List.all_eq_true.mp ((Array.all_eq_true_iff_forall_mem.mp hF) _ (Array.getElem_mem ha)) i (List.mem_range.mpr hi)
    simpa [Array.getElem?_eq_getElem hi] using q
  obtain ⟨i0, ei0⟩ := is_v g3
  obtain rfl : w0 = (.int i0) := Option.some.inj ei0
  obtain ⟨i1, ei1⟩ := is_v g5
  obtain rfl : w1 = (.int i1) := Option.some.inj ei1
  obtain ⟨i2, ei2⟩ := is_v g7
  obtain rfl : w2 = (.int i2) := Option.some.inj ei2
  obtain ⟨i3, ei3⟩ := is_v g9
  obtain rfl : w3 = (.int i3) := Option.some.inj ei3
  obtain ⟨i4, ei4⟩ := is_v g10
  obtain rfl : w4 = (.int i4) := Option.some.inj ei4
  obtain ⟨n, o, h1, h2, h3, _, L, rfl, ⟨rfl, N⟩, hq⟩ := rm0 l s _ hw tables_1 i0 i1 i2 i3 i4  s.heap s.heap.size (Nat.le_refl _)  p e ha hc hk s m _ below hf ((Spec.applies_iff_loose hf).mp happ).1 ⟨rfl, State.Warmed39.refl s, rfl⟩ trivial
  refine ⟨n, _, h1, h2, h3, hpost _ _ _ _ _ _ ⟨Cond.after_iff.mpr rfl, Cond.after_iff.mpr (eq_i res_at (Term.int_eval (1)) rfl), trivial⟩ ⟨hq.1, hq.2.1, (hq.2.2.sift fun y hy => Or.inr (N y hy)).mono (by decide) (by decide)⟩⟩
theorem main_1_1 : Claimed_1_1 := comes_1 fun _ _ _ _ _ _ h hF => ⟨h.1, hF⟩
theorem main_1_2 : Claimed_1_2 := comes_1 fun _ _ _ _ _ _ h hF => ⟨h.2.1, hF⟩
end Jvm.Pilot.@@N@@
namespace Jvm.Pilot.@@N@@
open Jvm Jvm.ClassFile Sem Op Lib Jvm.Free Jvm.Stand Jvm.Pilot.@@N@@.Jvm.D
/-! MADE BY PROGRAM (witnessworld.py) out of the Statement's table words and the real class files: 9 classes; the members and pool entries that the words name. The judged class is class 1, her method 1. -/
namespace start1
open Jvm.ClassFile
def u (s : String) : CpInfo := .utf8 (stringToUtf16 s)
/-- a pool by its gaps: so many unusable entries, then the entry; so many at the end -/
def gap : Nat → List CpInfo → List CpInfo
  | 0, r => r
  | n + 1, r => .unusable :: gap n r
def poolList (es : List (Nat × CpInfo)) (last : Nat) : List CpInfo := es.foldr (fun e r => gap e.1 (e.2 :: r)) (gap last [])
def pool (es : List (Nat × CpInfo)) (last : Nat) : Array CpInfo := ⟨poolList es last⟩
def fileOf (pool : Array CpInfo) (this : Nat) (attrs : Array Attribute := #[]) (ms : Array MethodInfo := #[]) (fl : Nat := 33) (sup : Nat := 0) (ifs : Array Nat := #[]) (fds : Array FieldInfo := #[]) : ClassFile where
  minorVersion := 0
  majorVersion := 65
  constantPool := pool
  accessFlags := fl
  thisClass := this
  superClass := sup
  interfaces := ifs
  fields := fds
  methods := ms
  attributes := attrs
def plain (name : String) (sup : Option ClassId) : Class where
  name := name
  kind := .ordinary
  loader := none
  accessFlags := 33
  super := sup
  interfaces := #[]
  cf := none
  fields := #[]
  methods := #[]
  instanceTypes := #[]
  staticTypes := #[]
  resolved := #[]
  callSites := []
  init := .initialized
  statics := none
  mirror := none

def pool0 : Array CpInfo := pool [(5, u "<init>"), (0, u "()V"), (1, .class_ 10), (1, u "java/lang/Object")] 113

def k0c0 : Code := { maxStack := 0, maxLocals := 1, code := object_method_1_code, exceptionTable := #[], attributes := #[] }
def k0m0 : Method := { name := "<init>", desc := "()V", sig := { parameters := [], returnType := none }, accessFlags := 1, code := some k0c0 }
/-- java/lang/Object -/
def k0 : Class := { plain "java/lang/Object" none with
  accessFlags := 33
  interfaces := #[]
  cf := some (fileOf pool0 8 #[] #[{ accessFlags := 1, nameIndex := 5, descriptorIndex := 6, attributes := #[] }] 33 0 #[] #[])
  fields := #[]
  methods := #[k0m0]
  instanceTypes := #[]
  staticTypes := #[]
  resolved := Array.replicate 124 none
  statics := none }

def pool1 : Array CpInfo := pool [(2, .class_ 4), (1, u "java/lang/Object"), (0, u "<init>"), (0, u "()V"), (0, .integer 2147483647), (0, .integer 43201), (0, .class_ 10), (0, u "com/example/acker/acker/engine/Backoff"), (0, .methodref 9 12), (0, .nameAndType 5 13), (0, u "(II)V"), (0, .methodref 9 15), (0, .nameAndType 16 17), (0, u "hashCode"), (0, u "()I"), (0, .methodref 9 19), (0, .nameAndType 20 21), (0, u "equals"), (0, u "(Ljava/lang/Object;)Z"), (0, .class_ 23), (0, u "com/example/acker/acker/engine/BackoffHashCodePinLaw"), (2, u "law"), (0, u "(IIIII)Z")] 3

def k1m0 : Method := { name := "<init>", desc := "()V", sig := { parameters := [], returnType := none }, accessFlags := 1, code := none }
def k1c1 : Code := { maxStack := 4, maxLocals := 15, code := code, exceptionTable := #[], attributes := #[] }
def k1m1 : Method := { name := "law", desc := "(IIIII)Z", sig := { parameters := [.int, .int, .int, .int, .int], returnType := some .boolean }, accessFlags := 9, code := some k1c1 }
/-- com/example/acker/acker/engine/BackoffHashCodePinLaw -/
def k1 : Class := { plain "com/example/acker/acker/engine/BackoffHashCodePinLaw" (some 0) with
  accessFlags := 49
  interfaces := #[]
  cf := some (fileOf pool1 22 #[] #[{ accessFlags := 1, nameIndex := 5, descriptorIndex := 6, attributes := #[] }, { accessFlags := 9, nameIndex := 26, descriptorIndex := 27, attributes := #[] }] 49 2 #[] #[])
  fields := #[]
  methods := #[k1m0, k1m1]
  instanceTypes := #[]
  staticTypes := #[]
  resolved := Array.replicate 31 none
  statics := none }

def pool2 : Array CpInfo := pool [(1, .methodref 2 3), (0, .class_ 4), (0, .nameAndType 5 6), (0, u "java/lang/Object"), (0, u "<init>"), (0, u "()V"), (0, .class_ 8), (0, u "com/example/acker/acker/engine/Backoff"), (0, .integer 43200), (9, .fieldref 7 20), (0, .nameAndType 21 22), (0, u "initialSeconds"), (0, u "I"), (0, .fieldref 7 24), (0, .nameAndType 25 22), (0, u "maxSeconds"), (16, u "(II)V"), (2, u "DEFAULT"), (0, u "Lcom/example/acker/acker/engine/Backoff;"), (0, u "DEFAULT_INITIAL_SECONDS"), (2, u "DEFAULT_MAX_SECONDS"), (1, u "MAX_SECONDS"), (4, u "()I"), (3, u "equals"), (0, u "(Ljava/lang/Object;)Z"), (0, u "hashCode")] 3

def k2c0 : Code := { maxStack := 3, maxLocals := 3, code := prog_2_method_1_code, exceptionTable := #[], attributes := #[] }
def k2m0 : Method := { name := "<init>", desc := "(II)V", sig := { parameters := [.int, .int], returnType := none }, accessFlags := 1, code := some k2c0 }
def k2c1 : Code := { maxStack := 2, maxLocals := 2, code := prog_2_method_5_code, exceptionTable := #[], attributes := #[] }
def k2m1 : Method := { name := "equals", desc := "(Ljava/lang/Object;)Z", sig := { parameters := [(.object "java/lang/Object")], returnType := some .boolean }, accessFlags := 1, code := some k2c1 }
def k2c2 : Code := { maxStack := 2, maxLocals := 1, code := prog_2_method_6_code, exceptionTable := #[], attributes := #[] }
def k2m2 : Method := { name := "hashCode", desc := "()I", sig := { parameters := [], returnType := some .int }, accessFlags := 1, code := some k2c2 }
/-- com/example/acker/acker/engine/Backoff -/
def k2 : Class := { plain "com/example/acker/acker/engine/Backoff" (some 0) with
  accessFlags := 49
  interfaces := #[]
  cf := some (fileOf pool2 7 #[] #[{ accessFlags := 1, nameIndex := 5, descriptorIndex := 42, attributes := #[] }, { accessFlags := 1, nameIndex := 61, descriptorIndex := 62, attributes := #[] }, { accessFlags := 1, nameIndex := 63, descriptorIndex := 57, attributes := #[] }] 49 2 #[] #[{ accessFlags := 25, nameIndex := 47, descriptorIndex := 22, attributes := #[] }, { accessFlags := 25, nameIndex := 50, descriptorIndex := 22, attributes := #[] }, { accessFlags := 25, nameIndex := 52, descriptorIndex := 22, attributes := #[] }, { accessFlags := 25, nameIndex := 45, descriptorIndex := 46, attributes := #[] }, { accessFlags := 18, nameIndex := 21, descriptorIndex := 22, attributes := #[] }, { accessFlags := 18, nameIndex := 25, descriptorIndex := 22, attributes := #[] }])
  fields := #[{ name := "DEFAULT_INITIAL_SECONDS", type := .int, accessFlags := 25, slot := 0, constantValue := 0 }, { name := "DEFAULT_MAX_SECONDS", type := .int, accessFlags := 25, slot := 1, constantValue := 0 }, { name := "MAX_SECONDS", type := .int, accessFlags := 25, slot := 2, constantValue := 0 }, { name := "DEFAULT", type := (.object "com/example/acker/acker/engine/Backoff"), accessFlags := 25, slot := 3, constantValue := 0 }, { name := "initialSeconds", type := .int, accessFlags := 18, slot := 0, constantValue := 0 }, { name := "maxSeconds", type := .int, accessFlags := 18, slot := 1, constantValue := 0 }]
  methods := #[k2m0, k2m1, k2m2]
  instanceTypes := #[.int, .int]
  staticTypes := #[.int, .int, .int, (.object "com/example/acker/acker/engine/Backoff")]
  resolved := Array.replicate 67 none
  statics := none }

def pool3 : Array CpInfo := pool [(1, u "java/lang/Cloneable"), (0, .class_ 1), (0, u "java/lang/Object"), (0, .class_ 3)] 3

/-- java/lang/Cloneable -/
def k3 : Class := { plain "java/lang/Cloneable" (some 0) with
  accessFlags := 1537
  interfaces := #[]
  cf := some (fileOf pool3 2 #[] #[] 1537 4 #[] #[])
  fields := #[]
  methods := #[]
  instanceTypes := #[]
  staticTypes := #[]
  resolved := Array.replicate 8 none
  statics := none }

def pool4 : Array CpInfo := pool [(1, u "java/io/Serializable"), (0, .class_ 1), (0, u "java/lang/Object"), (0, .class_ 3)] 3

/-- java/io/Serializable -/
def k4 : Class := { plain "java/io/Serializable" (some 0) with
  accessFlags := 1537
  interfaces := #[]
  cf := some (fileOf pool4 2 #[] #[] 1537 4 #[] #[])
  fields := #[]
  methods := #[]
  instanceTypes := #[]
  staticTypes := #[]
  resolved := Array.replicate 8 none
  statics := none }

/-- the primitive byte -/
def k5 : Class := { plain "byte" none with kind := .primitive 'B', accessFlags := 0x411 }
/-- [B -/
def k6 : Class := { plain "[B" (some 0) with kind := .array 5 .byte, interfaces := #[3, 4], accessFlags := 1041 }

/-- the primitive int -/
def k7 : Class := { plain "int" none with kind := .primitive 'I', accessFlags := 0x411 }
/-- [I -/
def k8 : Class := { plain "[I" (some 0) with kind := .array 7 .int, interfaces := #[3, 4], accessFlags := 1041 }

def heap : Heap := #[]
def classes : Array Class := #[k0, k1, k2, k3, k4, k5, k6, k7, k8]
def interned : List (Array UInt16 × Addr) := []
def slotsUsed : Nat := 0
def theMethod : MethodId := ⟨1, 1⟩
def args0 : Array Value := #[.int 5, .int 5, .int 5, .int 5, .int 5]
def aboutOver (below : List Frame) : State where
  vm := { classes := classes, interned := interned.toArray }
  heap := heap
  slotsUsed := slotsUsed
  threads := #[{ frames := .invoking theMethod args0 :: below }]
def below0 : List Frame := [.native { method := ⟨0, 0⟩, args := #[] }]
def about1 : State := aboutOver below0
def p0 : Program := .bare "" "" ""
def e0 : Env := launch0.env 0 0 0
theorem w_frames : about1.frames = Frame.invoking theMethod args0 :: below0 := rfl
set_option maxRecDepth 65536 in
theorem w_args : argsFit about1.vm theMethod args0 = true := by decide +kernel
set_option maxRecDepth 65536 in
theorem w_heap : heapFits about1 = true := by decide +kernel
set_option maxRecDepth 65536 in
theorem w_runnable : about1.curStatus? = some .runnable := by decide +kernel
set_option maxRecDepth 65536 in
theorem w_alone : about1.alone = true := by decide +kernel
set_option maxRecDepth 65536 in
theorem w_named : about1.methodNamed? x = some theMethod := by decide +kernel
set_option maxRecDepth 65536 in
theorem w_hears : about1.hears theMethod below0 = true := by decide +kernel
set_option maxRecDepth 65536 in
theorem w_ripe : about1.ripe theMethod args0 below0 = true := by decide +kernel
theorem w_running : about1.status = .running := rfl
set_option maxRecDepth 65536 in
theorem w_room : about1.hasRoom e0.platform room_1 = true :=
  launch0.hasRoom_least _ room_1 (by decide +kernel) (by decide +kernel) (by decide +kernel) (by decide +kernel) (by decide +kernel) (by decide +kernel)
theorem allAtoms_all (ts : List Jvm.Cond) (a : Array Jvm.Value) (st : Jvm.State) : (allAtoms ts).before a st = ts.all (fun c => c.before a st) := by
  induction ts with
  | nil => rfl
  | cons c t ih =>
    show (Jvm.Cond.and c (allAtoms t)).before a st = _
    rw [Jvm.Cond.before_and, ih, List.all_cons]
def words1 : List Jvm.Cond := Jvm.Cond.code x code maxLocals ret :: tables_1
/-- a 'code' word, met by the world's own term for the bytes: nothing is compared byte by byte -/
theorem code_word {y : MethodName} {bytes : ByteArray} {mx : Nat} {rt : Option FieldType} {a : Array Value} {s : State} {m : MethodId} {meth : Method} {c : Code} (h1 : s.methodNamed? y = some m) (h2 : s.vm.method? m = some meth) (h3 : meth.code = some c) (h4 : c.code = bytes)
    (h5 : (c.maxLocals == mx && c.exceptionTable.isEmpty && decide (c.maxStack ≤ mostOperands) && decide (meth.sig.returnType = rt) && !meth.locks && decide (parseMethodDescriptor y.desc = some meth.sig)) = true) : (Jvm.Cond.code y bytes mx rt).before a s = true := by
  simp only [Bool.and_eq_true, beq_iff_eq, Bool.not_eq_true', decide_eq_true_eq] at h5
  obtain ⟨⟨⟨⟨⟨g1, g2⟩, g3⟩, g4⟩, g5⟩, g6⟩ := h5
  simp [Cond.before, Cond.holds, Cond.value, h1, h2, h3, h4, g1, g2, g3, g4, g5, g6]
def isCode : Jvm.Cond → Bool
  | .code _ _ _ _ => true
  | _ => false
theorem all_split {L : List Jvm.Cond} {P : Jvm.Cond → Bool} (h1 : L.all (fun c => isCode c || P c) = true) (h2 : ∀ c ∈ L.filter isCode, P c = true) : L.all P = true := by
  refine List.all_eq_true.mpr fun c hc => ?_
  have h := List.all_eq_true.mp h1 c hc
  rcases Bool.eq_false_or_eq_true (isCode c) with hi | hi
  · exact h2 c (List.mem_filter.mpr ⟨hc, hi⟩)
  · simpa [hi] using h
set_option maxRecDepth 65536 in
theorem w_c0 : (Jvm.Cond.code x code maxLocals ret).before args0 about1 = true := code_word (m := ⟨1, 1⟩) (meth := k1m1) (c := k1c1) (by decide +kernel) rfl rfl rfl (by decide +kernel)
set_option maxRecDepth 65536 in
theorem w_c1 : (Jvm.Cond.code ({ cls := "com/example/acker/acker/engine/Backoff", name := "<init>", desc := "(II)V" } : Jvm.MethodName) prog_2_method_1_code (3 : Nat) (Option.none : Option Jvm.ClassFile.FieldType)).before args0 about1 = true := code_word (m := ⟨2, 0⟩) (meth := k2m0) (c := k2c0) (by decide +kernel) rfl rfl rfl (by decide +kernel)
set_option maxRecDepth 65536 in
theorem w_c2 : (Jvm.Cond.code ({ cls := "java/lang/Object", name := "<init>", desc := "()V" } : Jvm.MethodName) object_method_1_code (1 : Nat) (Option.none : Option Jvm.ClassFile.FieldType)).before args0 about1 = true := code_word (m := ⟨0, 0⟩) (meth := k0m0) (c := k0c0) (by decide +kernel) rfl rfl rfl (by decide +kernel)
set_option maxRecDepth 65536 in
theorem w_c3 : (Jvm.Cond.code ({ cls := "com/example/acker/acker/engine/Backoff", name := "hashCode", desc := "()I" } : Jvm.MethodName) prog_2_method_6_code (1 : Nat) (Option.some Jvm.ClassFile.FieldType.int)).before args0 about1 = true := code_word (m := ⟨2, 2⟩) (meth := k2m2) (c := k2c2) (by decide +kernel) rfl rfl rfl (by decide +kernel)
set_option maxRecDepth 65536 in
theorem w_c4 : (Jvm.Cond.code ({ cls := "com/example/acker/acker/engine/Backoff", name := "equals", desc := "(Ljava/lang/Object;)Z" } : Jvm.MethodName) prog_2_method_5_code (2 : Nat) (Option.some Jvm.ClassFile.FieldType.boolean)).before args0 about1 = true := code_word (m := ⟨2, 1⟩) (meth := k2m1) (c := k2c1) (by decide +kernel) rfl rfl rfl (by decide +kernel)
def codes1 : List Jvm.Cond := [Jvm.Cond.code x code maxLocals ret, Jvm.Cond.code ({ cls := "com/example/acker/acker/engine/Backoff", name := "<init>", desc := "(II)V" } : Jvm.MethodName) prog_2_method_1_code (3 : Nat) (Option.none : Option Jvm.ClassFile.FieldType), Jvm.Cond.code ({ cls := "java/lang/Object", name := "<init>", desc := "()V" } : Jvm.MethodName) object_method_1_code (1 : Nat) (Option.none : Option Jvm.ClassFile.FieldType), Jvm.Cond.code ({ cls := "com/example/acker/acker/engine/Backoff", name := "hashCode", desc := "()I" } : Jvm.MethodName) prog_2_method_6_code (1 : Nat) (Option.some Jvm.ClassFile.FieldType.int), Jvm.Cond.code ({ cls := "com/example/acker/acker/engine/Backoff", name := "equals", desc := "(Ljava/lang/Object;)Z" } : Jvm.MethodName) prog_2_method_5_code (2 : Nat) (Option.some Jvm.ClassFile.FieldType.boolean)]
set_option maxRecDepth 65536 in
theorem codes_eq : words1.filter isCode = codes1 := rfl
theorem w_codes : ∀ c ∈ words1.filter isCode, c.before args0 about1 = true := by
  rw [codes_eq]
  intro c hc
  simp only [codes1, List.mem_cons, List.not_mem_nil, or_false] at hc
  rcases hc with rfl | rfl | rfl | rfl | rfl
  · exact w_c0
  · exact w_c1
  · exact w_c2
  · exact w_c3
  · exact w_c4
set_option maxRecDepth 65536 in
theorem w_t1 : (words1.take 24).all (fun c => isCode c || c.before args0 about1) = true := by decide +kernel
set_option maxRecDepth 65536 in
theorem w_t2 : (words1.drop 24).all (fun c => isCode c || c.before args0 about1) = true := by decide +kernel
theorem w_tables : (allAtoms (Jvm.Cond.code x code maxLocals ret :: tables_1)).before args0 about1 = true := by
  rw [allAtoms_all]
  show words1.all (fun c => c.before args0 about1) = true
  refine all_split ?_ w_codes
  rw [← List.take_append_drop 24 words1, List.all_append, w_t1, w_t2]
  rfl
set_option maxRecDepth 65536 in
theorem w_case : (Jvm.Cond.and given_1 narrow_1).before args0 about1 = true := by decide +kernel
theorem w_applies : (headSpec (Jvm.Cond.code x code maxLocals ret :: tables_1) room_1).applies x e0.platform about1 = true :=
  (Spec.applies_iff w_frames).mpr ⟨w_running, w_runnable, w_alone, w_named, w_hears, w_ripe, w_room, w_tables⟩
theorem atStart : AtStart classFile x code maxLocals ret World_1 tables_1 room_1 Calls_1 rest_1 Pre_1 launch0 p0 e0 about1 theMethod args0 below0 :=
  ⟨lists_1, trivial, launch0.admits_env _ _ _, launch0.least_env, fairChoices_fair.cas, fairChoices_fair.clock, w_frames, w_args, w_heap, w_applies, trivial, trivial, w_case⟩
end start1
theorem witness_1 : WitnessClaimed_1 := ⟨start1.p0, start1.e0, start1.about1, start1.theMethod, start1.args0, start1.below0, start1.atStart⟩
end Jvm.Pilot.@@N@@
