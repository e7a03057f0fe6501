import JvmDerived
import JvmDerived.Pilot.@@N@@Statement
import JvmDerived.Pilot.@@N@@Code
set_option linter.unusedVariables false
set_option linter.unusedSimpArgs false
namespace Jvm.RoadKit
open Sem ClassFile Op Lib Jvm.Stand Jvm.Free Jvm.LawKit
section New
variable {p : Program} {l : Launch} {e : Env} {R : Room} {s : State} {m : MethodId} {args : Array Value} {below : List Frame} {meth : Method} {c : Code} {T : State} {locs : List Loc} {cells slots : Nat}
theorem retI (X : Stand p l e R s m args below meth c T locs cells slots) (hx : p.tables.exec = Jvm.exec) {pc : Nat} {Ls : Array Slot} {z : Int32} {rest : List Value} (hret : meth.sig.returnType = some .int) (hd : decode c.code pc = .ok (.ireturn, 1)) {fs : List Frame}
    (hl : ∀ (f : JFrame) (acts : List Action), f.method = m → f.locked = none → f.entered = [] → (doReturn e (T.setTop f) acts (some (.int z))).1 = T.setFrames fs) : Steps p.tables e below (T.setTop (mkF m pc Ls (.int z :: rest))) (T.setFrames fs) := by
  have hm' : T.vm.method? m = some meth := X.method'
  have hn : narrow .int (.int z) = .int z := rfl
  show Steps p.tables e below (T.setTop { method := m, pc := pc, locals := Ls, stack := _ :: rest, locked := none }) _
  jvm_step X.here [X.here.top, hx, hd, hm', hret, hn]
  first | (intro acts; rw [hl _ acts rfl rfl rfl]) | rw [hl _ _ rfl rfl rfl]
  exact Steps.refl _
end New
end Jvm.RoadKit
namespace Jvm.Pilot.@@N@@
open Jvm Jvm.ClassFile Sem Op Lib Jvm.Free Jvm.Stand Jvm.LawKit Jvm.RoadKit Bundle Jvm.Pilot.@@N@@.Jvm.D
def bI (P : Prop) [Decidable P] : Int32 := if P then 1 else 0
theorem own_b1 {P : Prop} [Decidable P] (h : P) : some (Value.int (1 : Int32)) = some (Value.int (bI P)) := by rw [bI, if_pos h]
theorem own_b0 {P : Prop} [Decidable P] (h : ¬ P) : some (Value.int (0 : Int32)) = some (Value.int (bI P)) := by rw [bI, if_neg h]
theorem own_c1 {P : Prop} [Decidable P] (h : P) : (1 : Int32) = bI P := by rw [bI, if_pos h]
theorem own_c0 {P : Prop} [Decidable P] (h : ¬ P) : (0 : Int32) = bI P := by rw [bI, if_neg h]
theorem own_bI {P : Prop} [Decidable P] : (P ∧ bI P = 1) ∨ (¬ P ∧ bI P = 0) := by by_cases h : P <;> simp [bI, h]
theorem own_bt {P : Prop} [Decidable P] : (P ∧ (bI P).toInt = 1) ∨ (¬ P ∧ (bI P).toInt = 0) := by by_cases h : P <;> simp [bI, h]
theorem own_nar {P : Prop} [Decidable P] : nar .boolean (bI P) = bI P := by by_cases h : P <;> simp only [bI, h, if_true, if_false] <;> decide
theorem own_lt {a b : Int32} : a < b ↔ a.toInt < b.toInt := Int32.lt_iff_toInt_lt
theorem own_nlt {a b : Int32} : ¬ (a < b) ↔ b.toInt ≤ a.toInt := by rw [own_lt]; omega
theorem own_eq {a b : Int32} : a = b ↔ a.toInt = b.toInt := Int32.toInt_inj.symm
theorem own_neq {a b : Int32} : ¬ (a = b) ↔ ¬ (a.toInt = b.toInt) := by rw [own_eq]
theorem own_ltL {a b : Int64} : a < b ↔ a.toInt < b.toInt := Int64.lt_iff_toInt_lt
theorem own_eqL {a b : Int64} : a = b ↔ a.toInt = b.toInt := Int64.toInt_inj.symm
theorem own_sk {Z : State} {h h' : Heap} {C n d K : String} {v : Value} {b : Addr} (F : Sta Z h C n d v) (Kp : Keep h h' [b]) (E : Exa Z h b K) : Sta Z h' C n d v := by
  obtain ⟨cf, i, k, f, st, cell, h1, h2, h3, h4, h5, h6, h7⟩ := F
  refine ⟨cf, i, k, f, st, cell, h1, h2, h3, h4, Kp.2.1 st cell h5 (fun q => ?_), h6, h7⟩
  obtain ⟨cl, kk, e1, e2, e3, e4, e5⟩ := E
  have q' := List.mem_singleton.mp q
  subst q'
  rw [h5] at e1
  cases e1
  rw [h6] at e4
  cases e4
theorem own_eqI {t : Term} {k : Int32} {args : Array Value} {Z : State} (h : (Jvm.Cond.eq t (Term.int k)).value args Z none Z [] = some true) : t.eval args Z none [] Z = some (.int k) := by
  obtain ⟨x, y, hx, hy, K1, K2⟩ := cmp_v (Or.inl h)
  have hy' : y = .int k := by simpa [Term.eval] using hy.symm
  subst hy'
  obtain ⟨z, rfl⟩ := K2
  have q : z = k := by simpa [Jvm.Cond.value, hx, Term.eval] using h
  rw [hx, q]
theorem own_fldI {t : Term} {C n d : String} {k : Int32} {a : Addr} {args : Array Value} {Z : State} (ev : t.eval args Z none [] Z = some (.ref a)) (h : (Jvm.Cond.eq (Term.field t C n d) (Term.int k)).value args Z none Z [] = some true) : Z.fieldOf? a C n d = some (.int k) := by
  rw [← fld_at ev]; exact own_eqI h
theorem own_ford {C n d : String} {k k' : Int32} {a b : Addr} {Z : State} (h1 : Z.fieldOf? a C n d = some (.int k)) (h2 : Z.fieldOf? b C n d = some (.int k')) (hk : k ≠ k') : a ≠ b := fun q => by
  rw [q, h2] at h1
  exact hk (Value.int.inj (Option.some.inj h1)).symm
theorem own_s0 {Z : State} {h h' : Heap} {C n d : String} {v : Value} (F : Sta Z h C n d v) (Kp : Keep h h' []) : Sta Z h' C n d v := by
  obtain ⟨cf, i, k, f, st, cell, h1, h2, h3, h4, h5, h6, h7⟩ := F
  exact ⟨cf, i, k, f, st, cell, h1, h2, h3, h4, Kp.2.1 st cell h5 (by simp), h6, h7⟩
theorem own_a0 {Z : State} {h h' : Heap} {a : Addr} {c : Cell} {ty : FieldType} (A : Arr Z h a c ty) (Kp : Keep h h' []) : Arr Z h' a c ty := ⟨Kp.2.1 a c A.1 (by simp), A.2⟩
theorem own_f0 {Z : State} {h h' : Heap} {C n d : String} {a : Addr} {v : Value} (F : Fld Z h a C n d v) (Kp : Keep h h' []) : Fld Z h' a C n d v := F.keep Kp (by simp)
theorem own_no2 {Z : State} {a0 : Array Value} {C S O K : String} {n : Nat} (w1 : (Jvm.Cond.superclass C S).before a0 Z = true) (w2 : (Jvm.Cond.superclass S O).before a0 Z = true) (w3 : (Jvm.Cond.noSuperclass O).before a0 Z = true) (wk : (Jvm.Cond.instantiable K n).before a0 Z = true)
    (n1 : C ≠ K) (n2 : S ≠ K) (n3 : O ≠ K) : ∃ c t, Z.vm.findClass C = some c ∧ Z.vm.findClass K = some t ∧ Z.vm.assignable c t = false := by
  obtain ⟨t, kt, ht, hkt, ho, hi, -, -⟩ := Cond.instantiable_spec wk
  obtain ⟨cO, kO, hO, hkO, hs, -, -⟩ := Cond.noSuperclass_spec w3
  have neO := ids_ne hO ht n3
  have r0 : NS Z O K := ⟨cO, t, hO, ht, fun fuel => by cases fuel with
    | zero => rfl
    | succ f => simp [Vm.isSubclassAux, neO, hkO, hs]⟩
  obtain ⟨c, t', h0, g0, n3'⟩ := NS.step w1 (NS.step w2 r0 n2) n1
  cases ht.symm.trans g0
  obtain ⟨p, k, kp, h1, h2, h3, h4, h5, -, h7⟩ := Cond.superclass_spec h0 w1
  have ne := ids_ne h0 ht n1
  have hi' : kt.isInterface = false := by simp only [Bool.or_eq_false_iff] at hi; exact hi.1
  refine ⟨c, t, h0, ht, ?_⟩
  show Z.vm.assignableAux (255 + 1) c t = false
  simp [Vm.assignableAux, ne, h2, hkt, h5, ho, hi', Vm.isSubclass, n3']
theorem own_box {Z : State} {args : Array Value} {t : Term} {K : String} {X : Jvm.Cond} {a : Addr} {c : Cell} (et : ∀ idx, t.eval args Z none idx Z = some (.ref a)) (A : Arr Z Z.heap a c (.object K))
    (h : (Jvm.Cond.all t (.and (.exactly (.elem t (.index 0)) K) X)).value args Z none Z [] = some true) (j : Int32) (hj : ¬ (j < 0 ∨ c.slots.size ≤ j.toNatClampNeg)) : ∃ b : Addr, c.slots[j.toNatClampNeg]? = some (.ref b) ∧ Exa Z Z.heap b K := by
  have nn : ¬ j < 0 := fun x => hj (Or.inl x)
  have u := (and_e (Cond.all_elim (et []) (A.fin (Vm.Alike.refl _)) h j.toNatClampNeg (Nat.lt_of_not_le fun x => hj (Or.inr x)))).1
  obtain ⟨box, eb⟩ := exa_v u
  exact ⟨box, (elem_f (et _) (idx_at nn) (A.fin (Vm.Alike.refl _)) nn).symm.trans eb, exa_at eb u⟩
theorem own_len {Z : State} {args : Array Value} {t : Term} {a : Addr} {c : Cell} {ty : FieldType} {z : Int32} (ev : t.eval args Z none [] Z = some (.ref a)) (A : Arr Z Z.heap a c ty) (h : (Term.length t).eval args Z none [] Z = some (.int z)) : c.slots.size < 2 ^ 31 ∧ c.slots.size.toInt32 = z := by
  have ha := A.fin (Vm.Alike.refl _)
  simpa [Term.eval, ev, ha] using h
theorem own_size {c : Cell} {z : Int32} {n : Nat} (h : c.slots.size < 2 ^ 31 ∧ c.slots.size.toInt32 = z) (hz : z.toInt = n) : c.slots.size = n := by
  have q := len_toInt h.1
  rw [h.2] at q
  omega
theorem own_eqR {t u : Term} {b : Addr} {args : Array Value} {Z : State} (hu : u.eval args Z none [] Z = some (.ref b)) (h : (Jvm.Cond.eq t u).value args Z none Z [] = some true) : t.eval args Z none [] Z = some (.ref b) := by
  obtain ⟨x, y, hx, hy, K1, K2⟩ := cmp_v (Or.inl h)
  cases hu.symm.trans hy
  have hr : x.isRef = true := K2.2
  have e := eq_R hx hu hr rfl
  rw [h] at e
  rw [hx, of_decide_eq_true (Option.some.inj e).symm]
theorem own_rew {s t : State} {o : Outcome} {L : List Loc} {k n k' n' : Nat} (h : ReturnedEndW s o t L k n) (hk : k ≤ k') (hn : n ≤ n') : ReturnedEndW s o t L k' n' := ⟨h.1, h.2.1, h.2.2.1, h.2.2.2.mono hk hn⟩
theorem own_m31 (x : Int32) : (x &&& (2147483647 : Int32)).toInt = x.toInt % 2147483648 := c_mask x (2147483647 : Int32) 31 (by decide) (by decide)
theorem own_mrem (x y : Int32) (d : Int) (hy : y.toInt = d) : ((x &&& (2147483647 : Int32)) % y).toInt = (x.toInt % 2147483648) % d := by
  have h := own_m31 x
  rw [(c_irem _ y d hy).1 (by omega), h]
theorem own_foldF : ∀ n : Fin 128, (97 ≤ (Int32.ofNat n.1 ||| (32 : Int32)).toInt ∧ (Int32.ofNat n.1 ||| (32 : Int32)).toInt ≤ 122) ↔ ((97 ≤ (n.1 : Int) ∧ (n.1 : Int) ≤ 122) ∨ (65 ≤ (n.1 : Int) ∧ (n.1 : Int) ≤ 90)) := by decide +kernel
theorem own_fold (u : Int32) (h0 : 0 ≤ u.toInt) : (97 ≤ (u ||| (32 : Int32)).toInt ∧ (u ||| (32 : Int32)).toInt ≤ 122) ↔ ((97 ≤ u.toInt ∧ u.toInt ≤ 122) ∨ (65 ≤ u.toInt ∧ u.toInt ≤ 90)) := by
  by_cases h : u.toInt < 128
  · have e : u = Int32.ofNat u.toInt.toNat := by
      apply Int32.toInt_inj.mp
      rw [Int32.toInt_ofNat_of_lt (by omega)]; omega
    have q := own_foldF ⟨u.toInt.toNat, by omega⟩
    rw [← e] at q
    have e2 : ((u.toInt.toNat : Nat) : Int) = u.toInt := by omega
    rw [e2] at q
    exact q
  · have q := (c_or0 u (32 : Int32) h0 (by decide)).1
    omega
theorem ef_2 (m : MethodId) (x0 : Int32) : entryFrame m #[(.int x0)] 1 = mkF m 0 #[.val (.int x0)] [] := by first | (simp [entryFrame, mkF, argsToLocals, Value.category]; done) | rfl
theorem pn_com_example_orql_orql_Syntax : plainName "com/example/orql/orql/Syntax" = true := by first | (simp [plainName, overriddenIn]; done) | decide +kernel
theorem d2_0 : decode prog_38_method_7_code 0 = .ok (.iload_n 0, 1) := by decide +kernel
theorem d2_1 : decode prog_38_method_7_code 1 = .ok (.bipush 97, 2) := by decide +kernel
theorem d2_3 : decode prog_38_method_7_code 3 = .ok (.if_icmp .lt 13, 3) := by decide +kernel
theorem d2_16 : decode prog_38_method_7_code 16 = .ok (.iconst 0, 1) := by decide +kernel
theorem d2_17 : decode prog_38_method_7_code 17 = .ok (.ireturn, 1) := by decide +kernel
theorem d2_6 : decode prog_38_method_7_code 6 = .ok (.iload_n 0, 1) := by decide +kernel
theorem d2_7 : decode prog_38_method_7_code 7 = .ok (.bipush 122, 2) := by decide +kernel
theorem d2_9 : decode prog_38_method_7_code 9 = .ok (.if_icmp .gt 7, 3) := by decide +kernel
theorem d2_12 : decode prog_38_method_7_code 12 = .ok (.iconst 1, 1) := by decide +kernel
theorem d2_13 : decode prog_38_method_7_code 13 = .ok (.goto 4, 3) := by decide +kernel
theorem ef_3 (m : MethodId) (x0 : Int32) : entryFrame m #[(.int x0)] 1 = mkF m 0 #[.val (.int x0)] [] := by first | (simp [entryFrame, mkF, argsToLocals, Value.category]; done) | rfl
theorem d3_0 : decode prog_38_method_8_code 0 = .ok (.iload_n 0, 1) := by decide +kernel
theorem d3_1 : decode prog_38_method_8_code 1 = .ok (.bipush 65, 2) := by decide +kernel
theorem d3_3 : decode prog_38_method_8_code 3 = .ok (.if_icmp .lt 13, 3) := by decide +kernel
theorem d3_16 : decode prog_38_method_8_code 16 = .ok (.iconst 0, 1) := by decide +kernel
theorem d3_17 : decode prog_38_method_8_code 17 = .ok (.ireturn, 1) := by decide +kernel
theorem d3_6 : decode prog_38_method_8_code 6 = .ok (.iload_n 0, 1) := by decide +kernel
theorem d3_7 : decode prog_38_method_8_code 7 = .ok (.bipush 90, 2) := by decide +kernel
theorem d3_9 : decode prog_38_method_8_code 9 = .ok (.if_icmp .gt 7, 3) := by decide +kernel
theorem d3_12 : decode prog_38_method_8_code 12 = .ok (.iconst 1, 1) := by decide +kernel
theorem d3_13 : decode prog_38_method_8_code 13 = .ok (.goto 4, 3) := by decide +kernel
theorem ef_4 (m : MethodId) (x0 : Int32) : entryFrame m #[(.int x0)] 1 = mkF m 0 #[.val (.int x0)] [] := by first | (simp [entryFrame, mkF, argsToLocals, Value.category]; done) | rfl
theorem d4_0 : decode prog_38_method_9_code 0 = .ok (.iload_n 0, 1) := by decide +kernel
theorem d4_1 : decode prog_38_method_9_code 1 = .ok (.bipush 48, 2) := by decide +kernel
theorem d4_3 : decode prog_38_method_9_code 3 = .ok (.if_icmp .lt 13, 3) := by decide +kernel
theorem d4_16 : decode prog_38_method_9_code 16 = .ok (.iconst 0, 1) := by decide +kernel
theorem d4_17 : decode prog_38_method_9_code 17 = .ok (.ireturn, 1) := by decide +kernel
theorem d4_6 : decode prog_38_method_9_code 6 = .ok (.iload_n 0, 1) := by decide +kernel
theorem d4_7 : decode prog_38_method_9_code 7 = .ok (.bipush 57, 2) := by decide +kernel
theorem d4_9 : decode prog_38_method_9_code 9 = .ok (.if_icmp .gt 7, 3) := by decide +kernel
theorem d4_12 : decode prog_38_method_9_code 12 = .ok (.iconst 1, 1) := by decide +kernel
theorem d4_13 : decode prog_38_method_9_code 13 = .ok (.goto 4, 3) := by decide +kernel
theorem ef_1 (m : MethodId) (x0 : Int32) : entryFrame m #[(.int x0)] 1 = mkF m 0 #[.val (.int x0)] [] := by first | (simp [entryFrame, mkF, argsToLocals, Value.category]; done) | rfl
theorem d1_0 : decode prog_38_method_2_code 0 = .ok (.iload_n 0, 1) := by decide +kernel
theorem d1_1 : decode prog_38_method_2_code 1 = .ok (.invokestatic 7, 3) := by decide +kernel
theorem pd_0 : parseMethodDescriptor "(C)Z" = some ⟨[.char], some .boolean⟩ := by decide +kernel
theorem d1_4 : decode prog_38_method_2_code 4 = .ok (.ifCond .ne 23, 3) := by decide +kernel
theorem d1_7 : decode prog_38_method_2_code 7 = .ok (.iload_n 0, 1) := by decide +kernel
theorem d1_8 : decode prog_38_method_2_code 8 = .ok (.invokestatic 13, 3) := by decide +kernel
theorem d1_11 : decode prog_38_method_2_code 11 = .ok (.ifCond .ne 16, 3) := by decide +kernel
theorem d1_14 : decode prog_38_method_2_code 14 = .ok (.iload_n 0, 1) := by decide +kernel
theorem d1_15 : decode prog_38_method_2_code 15 = .ok (.invokestatic 16, 3) := by decide +kernel
theorem d1_18 : decode prog_38_method_2_code 18 = .ok (.ifCond .ne 9, 3) := by decide +kernel
theorem d1_21 : decode prog_38_method_2_code 21 = .ok (.iload_n 0, 1) := by decide +kernel
theorem d1_22 : decode prog_38_method_2_code 22 = .ok (.bipush 95, 2) := by decide +kernel
theorem d1_24 : decode prog_38_method_2_code 24 = .ok (.if_icmp .ne 7, 3) := by decide +kernel
theorem d1_27 : decode prog_38_method_2_code 27 = .ok (.iconst 1, 1) := by decide +kernel
theorem d1_28 : decode prog_38_method_2_code 28 = .ok (.goto 4, 3) := by decide +kernel
theorem d1_32 : decode prog_38_method_2_code 32 = .ok (.ireturn, 1) := by decide +kernel
theorem d1_31 : decode prog_38_method_2_code 31 = .ok (.iconst 0, 1) := by decide +kernel
theorem ef_0 (m : MethodId) (x0 : Int32) : entryFrame m #[(.int x0)] maxLocals = mkF m 0 #[.val (.int x0), .unset, .unset, .unset, .unset, .unset, .unset, .unset] [] := by first | (simp [entryFrame, mkF, argsToLocals, Value.category, maxLocals]; done) | rfl
theorem pn_com_example_orql_orql_SyntaxIsWordCharPinLaw : plainName "com/example/orql/orql/SyntaxIsWordCharPinLaw" = true := by first | (simp [plainName, overriddenIn]; done) | decide +kernel
def Q2 (Z : State) (p0 : Int32) (h0 : Heap) (n0 : Nat) (v : Option Value) (h : Heap) (L : List Loc) : Prop := v = some (.int (bI (97 ≤ p0.toInt ∧ p0.toInt ≤ 122))) ∧ Fr n0 L ∧ h = h0
set_option maxRecDepth 65536 in
set_option maxHeartbeats 40000000 in
theorem rm2 (l : Launch) (Z : State) (a0 : Array Value) (hw : ∀ d ∈ tables_1, d.before a0 Z = true) (ws : List Jvm.Cond) (p0 : Int32) (h0 : Heap) (n0 : Nat) (Z0 : n0 ≤ h0.size) :
    MetFree l (⟨"com/example/orql/orql/Syntax", "isLowerCase", "(C)Z"⟩ : MethodName) (head1 (Jvm.Cond.code (⟨"com/example/orql/orql/Syntax", "isLowerCase", "(C)Z"⟩ : MethodName) prog_38_method_7_code 1 (some .boolean) :: ws) ({ frames := 0, cells := 0, slots := 0, locals := 0 } : Room)) (fun a U => a = #[(.int p0)] ∧ Z.Warmed39 U.vm ∧ U.heap = h0) (fun _ _ _ _ _ => True) (fun _ U o U' => ∃ v L, o = .returned v ∧ Q2 Z p0 h0 n0 v U'.heap L ∧ FrameEnd U o U' L ({ frames := 0, cells := 0, slots := 0, locals := 0 } : Room).cells ({ frames := 0, cells := 0, slots := 0, locals := 0 } : Room).slots) := by
  refine MetFree.of_bodySF (plainFor_of_name pn_com_example_orql_orql_Syntax) hisR ?_
  intro p e s m args below meth c s₁ Bd hml0 hP hK
  obtain ⟨rfl, hZ, hh⟩ := hP
  have hx := Bd.exec
  have hby := Bd.bytes
  have hml : c.maxLocals = 1 := hml0
  have hown : s.vm.findClass "com/example/orql/orql/Syntax" = some m.cls := findClass_of_methodNamed Bd.named
  have hnm := (name_of_methodNamed Bd.named Bd.method).1
  have X0 : Stand p l e ({ frames := 0, cells := 0, slots := 0, locals := 0 } : Room) s m #[(.int p0)] below meth c s₁ [] 0 0 := Stand.of_body Bd
  have e0 : s₁.heap = h0 := by rw [← hh, Bd.state]; rfl
  have N0 := Fr.nil n0
  have pre0 : ∀ t, Steps p.tables e below (s₁.setTop (mkF m 0 #[.val (.int p0)] [])) t → Steps p.tables e below (s₁.setTop (entryFrame m #[(.int p0)] 1)) t := fun t k => castTop (ef_2 m p0) k
  have preS : ∀ t, Steps p.tables e below (s₁.setTop (mkF m 0 #[.val (.int p0)] [])) t → Steps p.tables e below (s₁.setTop (mkF m 0 #[.val (.int p0)] [])) t := fun t k => k
  have pre2 : ∀ t, Steps p.tables e below (s₁.setTop (mkF m 3 #[.val (.int p0)] [(.int (97 : Int32)), (.int p0)])) t → Steps p.tables e below (s₁.setTop (mkF m 0 #[.val (.int p0)] [])) t := fun t k => preS t (by
    show Steps p.tables e below (s₁.setTop (mkF m 0 #[.val (.int p0)] [])) _
    refine XS.iloadN X0.here hx rfl (hb hby d2_0) rfl ?_
    show Steps p.tables e below (s₁.setTop (mkF m 1 #[.val (.int p0)] [(.int p0)])) _
    refine XS.bipush X0.here hx rfl (hb hby d2_1) ?_
    exact k)
  by_cases hc1 : p0 < (97 : Int32)
  · skip
    have ohc1 : p0.toInt < 97 := own_lt.mp hc1
    obtain ⟨fs, hr, hrun, hended, hW, hsame⟩ := X0.leave (v := some (.int (0 : Int32))) (fun h => by rw [Bd.returns] at h; cases h)
    refine ⟨_, _, pre0 _ (pre2 _ ?_), hrun, hended, _, _, rfl, ?_, ⟨_, rfl⟩, hW, hsame.mono (by decide) (by decide)⟩
    · skip
      show Steps p.tables e below (s₁.setTop (mkF m 3 #[.val (.int p0)] [(.int (97 : Int32)), (.int p0)])) _
      refine XS.icmpYes X0.here hx rfl (pc0 := 3) (pc' := 16) rfl (hb hby d2_3) rfl (tlt hc1).1 (by decide) (by decide) ?_
      show Steps p.tables e below (s₁.setTop (mkF m 16 #[.val (.int p0)] [])) _
      refine XS.iconst X0.here hx rfl (hb hby d2_16) ?_
      show Steps p.tables e below (s₁.setTop (mkF m 17 #[.val (.int p0)] [(.int (0 : Int32))])) _
      exact retN X0 hx (t := .boolean) Bd.returns (by simp) (hb hby d2_17) hr
    · show Q2 Z p0 h0 n0 _ s₁.heap _
      rw [e0]
      exact ⟨own_b0 (by omega), N0, rfl⟩
  · skip
    have ohc1 : 97 ≤ p0.toInt := own_nlt.mp hc1
    have pre4 : ∀ t, Steps p.tables e below (s₁.setTop (mkF m 9 #[.val (.int p0)] [(.int (122 : Int32)), (.int p0)])) t → Steps p.tables e below (s₁.setTop (mkF m 0 #[.val (.int p0)] [])) t := fun t k => pre2 t (by
      show Steps p.tables e below (s₁.setTop (mkF m 3 #[.val (.int p0)] [(.int (97 : Int32)), (.int p0)])) _
      refine XS.icmpNo X0.here hx rfl (hb hby d2_3) rfl (flt hc1).1 ?_
      show Steps p.tables e below (s₁.setTop (mkF m 6 #[.val (.int p0)] [])) _
      refine XS.iloadN X0.here hx rfl (hb hby d2_6) rfl ?_
      show Steps p.tables e below (s₁.setTop (mkF m 7 #[.val (.int p0)] [(.int p0)])) _
      refine XS.bipush X0.here hx rfl (hb hby d2_7) ?_
      exact k)
    by_cases hc3 : (122 : Int32) < p0
    · skip
      have ohc3 : 122 < p0.toInt := own_lt.mp hc3
      obtain ⟨fs, hr, hrun, hended, hW, hsame⟩ := X0.leave (v := some (.int (0 : Int32))) (fun h => by rw [Bd.returns] at h; cases h)
      refine ⟨_, _, pre0 _ (pre4 _ ?_), hrun, hended, _, _, rfl, ?_, ⟨_, rfl⟩, hW, hsame.mono (by decide) (by decide)⟩
      · skip
        show Steps p.tables e below (s₁.setTop (mkF m 9 #[.val (.int p0)] [(.int (122 : Int32)), (.int p0)])) _
        refine XS.icmpYes X0.here hx rfl (pc0 := 9) (pc' := 16) rfl (hb hby d2_9) rfl (tlt hc3).2.2.1 (by decide) (by decide) ?_
        show Steps p.tables e below (s₁.setTop (mkF m 16 #[.val (.int p0)] [])) _
        refine XS.iconst X0.here hx rfl (hb hby d2_16) ?_
        show Steps p.tables e below (s₁.setTop (mkF m 17 #[.val (.int p0)] [(.int (0 : Int32))])) _
        exact retN X0 hx (t := .boolean) Bd.returns (by simp) (hb hby d2_17) hr
      · show Q2 Z p0 h0 n0 _ s₁.heap _
        rw [e0]
        exact ⟨own_b0 (by omega), N0, rfl⟩
    · skip
      have ohc3 : p0.toInt ≤ 122 := own_nlt.mp hc3
      obtain ⟨fs, hr, hrun, hended, hW, hsame⟩ := X0.leave (v := some (.int (1 : Int32))) (fun h => by rw [Bd.returns] at h; cases h)
      refine ⟨_, _, pre0 _ (pre4 _ ?_), hrun, hended, _, _, rfl, ?_, ⟨_, rfl⟩, hW, hsame.mono (by decide) (by decide)⟩
      · skip
        show Steps p.tables e below (s₁.setTop (mkF m 9 #[.val (.int p0)] [(.int (122 : Int32)), (.int p0)])) _
        refine XS.icmpNo X0.here hx rfl (hb hby d2_9) rfl (flt hc3).2.2.1 ?_
        show Steps p.tables e below (s₁.setTop (mkF m 12 #[.val (.int p0)] [])) _
        refine XS.iconst X0.here hx rfl (hb hby d2_12) ?_
        show Steps p.tables e below (s₁.setTop (mkF m 13 #[.val (.int p0)] [(.int (1 : Int32))])) _
        refine XS.goto X0.here hx rfl (pc0 := 13) (pc' := 17) rfl (hb hby d2_13) (by decide) (by decide) ?_
        show Steps p.tables e below (s₁.setTop (mkF m 17 #[.val (.int p0)] [(.int (1 : Int32))])) _
        exact retN X0 hx (t := .boolean) Bd.returns (by simp) (hb hby d2_17) hr
      · show Q2 Z p0 h0 n0 _ s₁.heap _
        rw [e0]
        exact ⟨own_b1 (by omega), N0, rfl⟩
def Q3 (Z : State) (p0 : Int32) (h0 : Heap) (n0 : Nat) (v : Option Value) (h : Heap) (L : List Loc) : Prop := v = some (.int (bI (65 ≤ p0.toInt ∧ p0.toInt ≤ 90))) ∧ Fr n0 L ∧ h = h0
set_option maxRecDepth 65536 in
set_option maxHeartbeats 40000000 in
theorem rm3 (l : Launch) (Z : State) (a0 : Array Value) (hw : ∀ d ∈ tables_1, d.before a0 Z = true) (ws : List Jvm.Cond) (p0 : Int32) (h0 : Heap) (n0 : Nat) (Z0 : n0 ≤ h0.size) :
    MetFree l (⟨"com/example/orql/orql/Syntax", "isUpperCase", "(C)Z"⟩ : MethodName) (head1 (Jvm.Cond.code (⟨"com/example/orql/orql/Syntax", "isUpperCase", "(C)Z"⟩ : MethodName) prog_38_method_8_code 1 (some .boolean) :: ws) ({ frames := 0, cells := 0, slots := 0, locals := 0 } : Room)) (fun a U => a = #[(.int p0)] ∧ Z.Warmed39 U.vm ∧ U.heap = h0) (fun _ _ _ _ _ => True) (fun _ U o U' => ∃ v L, o = .returned v ∧ Q3 Z p0 h0 n0 v U'.heap L ∧ FrameEnd U o U' L ({ frames := 0, cells := 0, slots := 0, locals := 0 } : Room).cells ({ frames := 0, cells := 0, slots := 0, locals := 0 } : Room).slots) := by
  refine MetFree.of_bodySF (plainFor_of_name pn_com_example_orql_orql_Syntax) hisR ?_
  intro p e s m args below meth c s₁ Bd hml0 hP hK
  obtain ⟨rfl, hZ, hh⟩ := hP
  have hx := Bd.exec
  have hby := Bd.bytes
  have hml : c.maxLocals = 1 := hml0
  have hown : s.vm.findClass "com/example/orql/orql/Syntax" = some m.cls := findClass_of_methodNamed Bd.named
  have hnm := (name_of_methodNamed Bd.named Bd.method).1
  have X0 : Stand p l e ({ frames := 0, cells := 0, slots := 0, locals := 0 } : Room) s m #[(.int p0)] below meth c s₁ [] 0 0 := Stand.of_body Bd
  have e0 : s₁.heap = h0 := by rw [← hh, Bd.state]; rfl
  have N0 := Fr.nil n0
  have pre0 : ∀ t, Steps p.tables e below (s₁.setTop (mkF m 0 #[.val (.int p0)] [])) t → Steps p.tables e below (s₁.setTop (entryFrame m #[(.int p0)] 1)) t := fun t k => castTop (ef_3 m p0) k
  have preS : ∀ t, Steps p.tables e below (s₁.setTop (mkF m 0 #[.val (.int p0)] [])) t → Steps p.tables e below (s₁.setTop (mkF m 0 #[.val (.int p0)] [])) t := fun t k => k
  have pre2 : ∀ t, Steps p.tables e below (s₁.setTop (mkF m 3 #[.val (.int p0)] [(.int (65 : Int32)), (.int p0)])) t → Steps p.tables e below (s₁.setTop (mkF m 0 #[.val (.int p0)] [])) t := fun t k => preS t (by
    show Steps p.tables e below (s₁.setTop (mkF m 0 #[.val (.int p0)] [])) _
    refine XS.iloadN X0.here hx rfl (hb hby d3_0) rfl ?_
    show Steps p.tables e below (s₁.setTop (mkF m 1 #[.val (.int p0)] [(.int p0)])) _
    refine XS.bipush X0.here hx rfl (hb hby d3_1) ?_
    exact k)
  by_cases hc1 : p0 < (65 : Int32)
  · skip
    have ohc1 : p0.toInt < 65 := own_lt.mp hc1
    obtain ⟨fs, hr, hrun, hended, hW, hsame⟩ := X0.leave (v := some (.int (0 : Int32))) (fun h => by rw [Bd.returns] at h; cases h)
    refine ⟨_, _, pre0 _ (pre2 _ ?_), hrun, hended, _, _, rfl, ?_, ⟨_, rfl⟩, hW, hsame.mono (by decide) (by decide)⟩
    · skip
      show Steps p.tables e below (s₁.setTop (mkF m 3 #[.val (.int p0)] [(.int (65 : Int32)), (.int p0)])) _
      refine XS.icmpYes X0.here hx rfl (pc0 := 3) (pc' := 16) rfl (hb hby d3_3) rfl (tlt hc1).1 (by decide) (by decide) ?_
      show Steps p.tables e below (s₁.setTop (mkF m 16 #[.val (.int p0)] [])) _
      refine XS.iconst X0.here hx rfl (hb hby d3_16) ?_
      show Steps p.tables e below (s₁.setTop (mkF m 17 #[.val (.int p0)] [(.int (0 : Int32))])) _
      exact retN X0 hx (t := .boolean) Bd.returns (by simp) (hb hby d3_17) hr
    · show Q3 Z p0 h0 n0 _ s₁.heap _
      rw [e0]
      exact ⟨own_b0 (by omega), N0, rfl⟩
  · skip
    have ohc1 : 65 ≤ p0.toInt := own_nlt.mp hc1
    have pre4 : ∀ t, Steps p.tables e below (s₁.setTop (mkF m 9 #[.val (.int p0)] [(.int (90 : Int32)), (.int p0)])) t → Steps p.tables e below (s₁.setTop (mkF m 0 #[.val (.int p0)] [])) t := fun t k => pre2 t (by
      show Steps p.tables e below (s₁.setTop (mkF m 3 #[.val (.int p0)] [(.int (65 : Int32)), (.int p0)])) _
      refine XS.icmpNo X0.here hx rfl (hb hby d3_3) rfl (flt hc1).1 ?_
      show Steps p.tables e below (s₁.setTop (mkF m 6 #[.val (.int p0)] [])) _
      refine XS.iloadN X0.here hx rfl (hb hby d3_6) rfl ?_
      show Steps p.tables e below (s₁.setTop (mkF m 7 #[.val (.int p0)] [(.int p0)])) _
      refine XS.bipush X0.here hx rfl (hb hby d3_7) ?_
      exact k)
    by_cases hc3 : (90 : Int32) < p0
    · skip
      have ohc3 : 90 < p0.toInt := own_lt.mp hc3
      obtain ⟨fs, hr, hrun, hended, hW, hsame⟩ := X0.leave (v := some (.int (0 : Int32))) (fun h => by rw [Bd.returns] at h; cases h)
      refine ⟨_, _, pre0 _ (pre4 _ ?_), hrun, hended, _, _, rfl, ?_, ⟨_, rfl⟩, hW, hsame.mono (by decide) (by decide)⟩
      · skip
        show Steps p.tables e below (s₁.setTop (mkF m 9 #[.val (.int p0)] [(.int (90 : Int32)), (.int p0)])) _
        refine XS.icmpYes X0.here hx rfl (pc0 := 9) (pc' := 16) rfl (hb hby d3_9) rfl (tlt hc3).2.2.1 (by decide) (by decide) ?_
        show Steps p.tables e below (s₁.setTop (mkF m 16 #[.val (.int p0)] [])) _
        refine XS.iconst X0.here hx rfl (hb hby d3_16) ?_
        show Steps p.tables e below (s₁.setTop (mkF m 17 #[.val (.int p0)] [(.int (0 : Int32))])) _
        exact retN X0 hx (t := .boolean) Bd.returns (by simp) (hb hby d3_17) hr
      · show Q3 Z p0 h0 n0 _ s₁.heap _
        rw [e0]
        exact ⟨own_b0 (by omega), N0, rfl⟩
    · skip
      have ohc3 : p0.toInt ≤ 90 := own_nlt.mp hc3
      obtain ⟨fs, hr, hrun, hended, hW, hsame⟩ := X0.leave (v := some (.int (1 : Int32))) (fun h => by rw [Bd.returns] at h; cases h)
      refine ⟨_, _, pre0 _ (pre4 _ ?_), hrun, hended, _, _, rfl, ?_, ⟨_, rfl⟩, hW, hsame.mono (by decide) (by decide)⟩
      · skip
        show Steps p.tables e below (s₁.setTop (mkF m 9 #[.val (.int p0)] [(.int (90 : Int32)), (.int p0)])) _
        refine XS.icmpNo X0.here hx rfl (hb hby d3_9) rfl (flt hc3).2.2.1 ?_
        show Steps p.tables e below (s₁.setTop (mkF m 12 #[.val (.int p0)] [])) _
        refine XS.iconst X0.here hx rfl (hb hby d3_12) ?_
        show Steps p.tables e below (s₁.setTop (mkF m 13 #[.val (.int p0)] [(.int (1 : Int32))])) _
        refine XS.goto X0.here hx rfl (pc0 := 13) (pc' := 17) rfl (hb hby d3_13) (by decide) (by decide) ?_
        show Steps p.tables e below (s₁.setTop (mkF m 17 #[.val (.int p0)] [(.int (1 : Int32))])) _
        exact retN X0 hx (t := .boolean) Bd.returns (by simp) (hb hby d3_17) hr
      · show Q3 Z p0 h0 n0 _ s₁.heap _
        rw [e0]
        exact ⟨own_b1 (by omega), N0, rfl⟩
def Q4 (Z : State) (p0 : Int32) (h0 : Heap) (n0 : Nat) (v : Option Value) (h : Heap) (L : List Loc) : Prop := v = some (.int (bI (48 ≤ p0.toInt ∧ p0.toInt ≤ 57))) ∧ Fr n0 L ∧ h = h0
set_option maxRecDepth 65536 in
set_option maxHeartbeats 40000000 in
theorem rm4 (l : Launch) (Z : State) (a0 : Array Value) (hw : ∀ d ∈ tables_1, d.before a0 Z = true) (ws : List Jvm.Cond) (p0 : Int32) (h0 : Heap) (n0 : Nat) (Z0 : n0 ≤ h0.size) :
    MetFree l (⟨"com/example/orql/orql/Syntax", "isDigit", "(C)Z"⟩ : MethodName) (head1 (Jvm.Cond.code (⟨"com/example/orql/orql/Syntax", "isDigit", "(C)Z"⟩ : MethodName) prog_38_method_9_code 1 (some .boolean) :: ws) ({ frames := 0, cells := 0, slots := 0, locals := 0 } : Room)) (fun a U => a = #[(.int p0)] ∧ Z.Warmed39 U.vm ∧ U.heap = h0) (fun _ _ _ _ _ => True) (fun _ U o U' => ∃ v L, o = .returned v ∧ Q4 Z p0 h0 n0 v U'.heap L ∧ FrameEnd U o U' L ({ frames := 0, cells := 0, slots := 0, locals := 0 } : Room).cells ({ frames := 0, cells := 0, slots := 0, locals := 0 } : Room).slots) := by
  refine MetFree.of_bodySF (plainFor_of_name pn_com_example_orql_orql_Syntax) hisR ?_
  intro p e s m args below meth c s₁ Bd hml0 hP hK
  obtain ⟨rfl, hZ, hh⟩ := hP
  have hx := Bd.exec
  have hby := Bd.bytes
  have hml : c.maxLocals = 1 := hml0
  have hown : s.vm.findClass "com/example/orql/orql/Syntax" = some m.cls := findClass_of_methodNamed Bd.named
  have hnm := (name_of_methodNamed Bd.named Bd.method).1
  have X0 : Stand p l e ({ frames := 0, cells := 0, slots := 0, locals := 0 } : Room) s m #[(.int p0)] below meth c s₁ [] 0 0 := Stand.of_body Bd
  have e0 : s₁.heap = h0 := by rw [← hh, Bd.state]; rfl
  have N0 := Fr.nil n0
  have pre0 : ∀ t, Steps p.tables e below (s₁.setTop (mkF m 0 #[.val (.int p0)] [])) t → Steps p.tables e below (s₁.setTop (entryFrame m #[(.int p0)] 1)) t := fun t k => castTop (ef_4 m p0) k
  have preS : ∀ t, Steps p.tables e below (s₁.setTop (mkF m 0 #[.val (.int p0)] [])) t → Steps p.tables e below (s₁.setTop (mkF m 0 #[.val (.int p0)] [])) t := fun t k => k
  have pre2 : ∀ t, Steps p.tables e below (s₁.setTop (mkF m 3 #[.val (.int p0)] [(.int (48 : Int32)), (.int p0)])) t → Steps p.tables e below (s₁.setTop (mkF m 0 #[.val (.int p0)] [])) t := fun t k => preS t (by
    show Steps p.tables e below (s₁.setTop (mkF m 0 #[.val (.int p0)] [])) _
    refine XS.iloadN X0.here hx rfl (hb hby d4_0) rfl ?_
    show Steps p.tables e below (s₁.setTop (mkF m 1 #[.val (.int p0)] [(.int p0)])) _
    refine XS.bipush X0.here hx rfl (hb hby d4_1) ?_
    exact k)
  by_cases hc1 : p0 < (48 : Int32)
  · skip
    have ohc1 : p0.toInt < 48 := own_lt.mp hc1
    obtain ⟨fs, hr, hrun, hended, hW, hsame⟩ := X0.leave (v := some (.int (0 : Int32))) (fun h => by rw [Bd.returns] at h; cases h)
    refine ⟨_, _, pre0 _ (pre2 _ ?_), hrun, hended, _, _, rfl, ?_, ⟨_, rfl⟩, hW, hsame.mono (by decide) (by decide)⟩
    · skip
      show Steps p.tables e below (s₁.setTop (mkF m 3 #[.val (.int p0)] [(.int (48 : Int32)), (.int p0)])) _
      refine XS.icmpYes X0.here hx rfl (pc0 := 3) (pc' := 16) rfl (hb hby d4_3) rfl (tlt hc1).1 (by decide) (by decide) ?_
      show Steps p.tables e below (s₁.setTop (mkF m 16 #[.val (.int p0)] [])) _
      refine XS.iconst X0.here hx rfl (hb hby d4_16) ?_
      show Steps p.tables e below (s₁.setTop (mkF m 17 #[.val (.int p0)] [(.int (0 : Int32))])) _
      exact retN X0 hx (t := .boolean) Bd.returns (by simp) (hb hby d4_17) hr
    · show Q4 Z p0 h0 n0 _ s₁.heap _
      rw [e0]
      exact ⟨own_b0 (by omega), N0, rfl⟩
  · skip
    have ohc1 : 48 ≤ p0.toInt := own_nlt.mp hc1
    have pre4 : ∀ t, Steps p.tables e below (s₁.setTop (mkF m 9 #[.val (.int p0)] [(.int (57 : Int32)), (.int p0)])) t → Steps p.tables e below (s₁.setTop (mkF m 0 #[.val (.int p0)] [])) t := fun t k => pre2 t (by
      show Steps p.tables e below (s₁.setTop (mkF m 3 #[.val (.int p0)] [(.int (48 : Int32)), (.int p0)])) _
      refine XS.icmpNo X0.here hx rfl (hb hby d4_3) rfl (flt hc1).1 ?_
      show Steps p.tables e below (s₁.setTop (mkF m 6 #[.val (.int p0)] [])) _
      refine XS.iloadN X0.here hx rfl (hb hby d4_6) rfl ?_
      show Steps p.tables e below (s₁.setTop (mkF m 7 #[.val (.int p0)] [(.int p0)])) _
      refine XS.bipush X0.here hx rfl (hb hby d4_7) ?_
      exact k)
    by_cases hc3 : (57 : Int32) < p0
    · skip
      have ohc3 : 57 < p0.toInt := own_lt.mp hc3
      obtain ⟨fs, hr, hrun, hended, hW, hsame⟩ := X0.leave (v := some (.int (0 : Int32))) (fun h => by rw [Bd.returns] at h; cases h)
      refine ⟨_, _, pre0 _ (pre4 _ ?_), hrun, hended, _, _, rfl, ?_, ⟨_, rfl⟩, hW, hsame.mono (by decide) (by decide)⟩
      · skip
        show Steps p.tables e below (s₁.setTop (mkF m 9 #[.val (.int p0)] [(.int (57 : Int32)), (.int p0)])) _
        refine XS.icmpYes X0.here hx rfl (pc0 := 9) (pc' := 16) rfl (hb hby d4_9) rfl (tlt hc3).2.2.1 (by decide) (by decide) ?_
        show Steps p.tables e below (s₁.setTop (mkF m 16 #[.val (.int p0)] [])) _
        refine XS.iconst X0.here hx rfl (hb hby d4_16) ?_
        show Steps p.tables e below (s₁.setTop (mkF m 17 #[.val (.int p0)] [(.int (0 : Int32))])) _
        exact retN X0 hx (t := .boolean) Bd.returns (by simp) (hb hby d4_17) hr
      · show Q4 Z p0 h0 n0 _ s₁.heap _
        rw [e0]
        exact ⟨own_b0 (by omega), N0, rfl⟩
    · skip
      have ohc3 : p0.toInt ≤ 57 := own_nlt.mp hc3
      obtain ⟨fs, hr, hrun, hended, hW, hsame⟩ := X0.leave (v := some (.int (1 : Int32))) (fun h => by rw [Bd.returns] at h; cases h)
      refine ⟨_, _, pre0 _ (pre4 _ ?_), hrun, hended, _, _, rfl, ?_, ⟨_, rfl⟩, hW, hsame.mono (by decide) (by decide)⟩
      · skip
        show Steps p.tables e below (s₁.setTop (mkF m 9 #[.val (.int p0)] [(.int (57 : Int32)), (.int p0)])) _
        refine XS.icmpNo X0.here hx rfl (hb hby d4_9) rfl (flt hc3).2.2.1 ?_
        show Steps p.tables e below (s₁.setTop (mkF m 12 #[.val (.int p0)] [])) _
        refine XS.iconst X0.here hx rfl (hb hby d4_12) ?_
        show Steps p.tables e below (s₁.setTop (mkF m 13 #[.val (.int p0)] [(.int (1 : Int32))])) _
        refine XS.goto X0.here hx rfl (pc0 := 13) (pc' := 17) rfl (hb hby d4_13) (by decide) (by decide) ?_
        show Steps p.tables e below (s₁.setTop (mkF m 17 #[.val (.int p0)] [(.int (1 : Int32))])) _
        exact retN X0 hx (t := .boolean) Bd.returns (by simp) (hb hby d4_17) hr
      · show Q4 Z p0 h0 n0 _ s₁.heap _
        rw [e0]
        exact ⟨own_b1 (by omega), N0, rfl⟩
def Q1 (Z : State) (p0 : Int32) (h0 : Heap) (n0 : Nat) (v : Option Value) (h : Heap) (L : List Loc) : Prop := v = some (.int (bI ((97 ≤ p0.toInt ∧ p0.toInt ≤ 122) ∨ (65 ≤ p0.toInt ∧ p0.toInt ≤ 90) ∨ (48 ≤ p0.toInt ∧ p0.toInt ≤ 57) ∨ p0.toInt = 95))) ∧ Fr n0 L ∧ h = h0
set_option maxRecDepth 65536 in
set_option maxHeartbeats 40000000 in
theorem rm1 (l : Launch) (Z : State) (a0 : Array Value) (hw : ∀ d ∈ tables_1, d.before a0 Z = true) (ws : List Jvm.Cond) (p0 : Int32) (h0 : Heap) (n0 : Nat) (Z0 : n0 ≤ h0.size) :
    MetFree l (⟨"com/example/orql/orql/Syntax", "isWordChar", "(C)Z"⟩ : MethodName) (head1 (Jvm.Cond.code (⟨"com/example/orql/orql/Syntax", "isWordChar", "(C)Z"⟩ : MethodName) prog_38_method_2_code 1 (some .boolean) :: ws) ({ frames := 1, cells := 0, slots := 0, locals := 12 } : Room)) (fun a U => a = #[(.int p0)] ∧ Z.Warmed39 U.vm ∧ U.heap = h0) (fun _ _ _ _ _ => True) (fun _ U o U' => ∃ v L, o = .returned v ∧ Q1 Z p0 h0 n0 v U'.heap L ∧ FrameEnd U o U' L ({ frames := 1, cells := 0, slots := 0, locals := 12 } : Room).cells ({ frames := 1, cells := 0, slots := 0, locals := 12 } : Room).slots) := by
  refine MetFree.of_bodySF (plainFor_of_name pn_com_example_orql_orql_Syntax) hisR ?_
  intro p e s m args below meth c s₁ Bd hml0 hP hK
  obtain ⟨rfl, hZ, hh⟩ := hP
  have hx := Bd.exec
  have hby := Bd.bytes
  have hml : c.maxLocals = 1 := hml0
  have hown : s.vm.findClass "com/example/orql/orql/Syntax" = some m.cls := findClass_of_methodNamed Bd.named
  have hnm := (name_of_methodNamed Bd.named Bd.method).1
  have X0 : Stand p l e ({ frames := 1, cells := 0, slots := 0, locals := 12 } : Room) s m #[(.int p0)] below meth c s₁ [] 0 0 := Stand.of_body Bd
  have e0 : s₁.heap = h0 := by rw [← hh, Bd.state]; rfl
  have N0 := Fr.nil n0
  have pre0 : ∀ t, Steps p.tables e below (s₁.setTop (mkF m 0 #[.val (.int p0)] [])) t → Steps p.tables e below (s₁.setTop (entryFrame m #[(.int p0)] 1)) t := fun t k => castTop (ef_1 m p0) k
  have preS : ∀ t, Steps p.tables e below (s₁.setTop (mkF m 0 #[.val (.int p0)] [])) t → Steps p.tables e below (s₁.setTop (mkF m 0 #[.val (.int p0)] [])) t := fun t k => k
  obtain ⟨_, _, ⟨T1, L1, k1, n1⟩, -, X1, ⟨Lc1, hQ1, l1, y1, z1⟩, st1⟩ := Jvm.LawKit.callS X0 hx (y := (⟨"com/example/orql/orql/Syntax", "isLowerCase", "(C)Z"⟩ : MethodName)) hown (mvT hZ (hw _ (List.mem_of_getElem? (i := 5) rfl))) (mvT hZ (hw _ (List.mem_of_getElem? (i := 6) rfl))) (mvT hZ (hw _ (List.mem_of_getElem? (i := 3) rfl))) (mvT hZ (hw _ (List.mem_of_getElem? (i := 7) rfl))) (by decide) (backOf (W := 0) (rm2 l Z a0 hw [] p0  h0 n0 Z0 ) hZ (hw _ (List.mem_of_getElem? (i := 7) rfl)) (hw _ (List.mem_of_getElem? (i := 3) rfl)) (by decide) (by decide)) (g := (mkF m 1 #[.val (.int p0)] [(.int p0)])) rfl (by rw [hml]; rfl) (argsL := [(.int p0)]) (rest := []) (lenOf pd_0 rfl) rfl (by show 2 * 0 + _ ≤ _; exact Nat.le_of_eq rfl) (hb hby d1_1) (fun _ _ => ⟨rfl, e0, (by decide : 0 + 0 ≤ _), (by decide : 0 + 0 ≤ _)⟩)
  dsimp only [Pt.U, Pt.locs, Pt.cells, Pt.slots] at X1 l1 y1 z1 st1 hQ1
  subst l1 y1 z1
  obtain ⟨rfl, Nq1, e1⟩ := hQ1
  have N1 := Fr.app N0 Nq1
  have t1 := own_bt (P := 97 ≤ p0.toInt ∧ p0.toInt ≤ 122)
  have pre3 : ∀ t, Steps p.tables e below (T1.setTop (mkF m 4 #[.val (.int p0)] [(.int (bI (97 ≤ p0.toInt ∧ p0.toInt ≤ 122)))])) t → Steps p.tables e below (s₁.setTop (mkF m 0 #[.val (.int p0)] [])) t := fun t k => preS t (by
    show Steps p.tables e below (s₁.setTop (mkF m 0 #[.val (.int p0)] [])) _
    refine XS.iloadN X0.here hx rfl (hb hby d1_0) rfl ?_
    show Steps p.tables e below (s₁.setTop (mkF m 1 #[.val (.int p0)] [(.int p0)])) _
    refine st1 _ ?_
    exact k)
  by_cases hc2 : (bI (97 ≤ p0.toInt ∧ p0.toInt ≤ 122)) = (0 : Int32)
  · skip
    have ohc2 : (bI (97 ≤ p0.toInt ∧ p0.toInt ≤ 122)).toInt = 0 := own_eq.mp hc2
    obtain ⟨_, _, ⟨T4, L4, k4, n4⟩, -, X4, ⟨Lc4, hQ4, l4, y4, z4⟩, st4⟩ := Jvm.LawKit.callS X1 hx (y := (⟨"com/example/orql/orql/Syntax", "isUpperCase", "(C)Z"⟩ : MethodName)) hown (mvT hZ (hw _ (List.mem_of_getElem? (i := 8) rfl))) (mvT hZ (hw _ (List.mem_of_getElem? (i := 9) rfl))) (mvT hZ (hw _ (List.mem_of_getElem? (i := 3) rfl))) (mvT hZ (hw _ (List.mem_of_getElem? (i := 10) rfl))) (by decide) (backOf (W := 0) (rm3 l Z a0 hw [] p0  h0 n0 Z0 ) hZ (hw _ (List.mem_of_getElem? (i := 10) rfl)) (hw _ (List.mem_of_getElem? (i := 3) rfl)) (by decide) (by decide)) (g := (mkF m 8 #[.val (.int p0)] [(.int p0)])) rfl (by rw [hml]; rfl) (argsL := [(.int p0)]) (rest := []) (lenOf pd_0 rfl) rfl (by show 2 * 0 + _ ≤ _; exact Nat.le_of_eq rfl) (hb hby d1_8) (fun _ _ => ⟨rfl, e1, (by decide : 0 + 0 ≤ _), (by decide : 0 + 0 ≤ _)⟩)
    dsimp only [Pt.U, Pt.locs, Pt.cells, Pt.slots] at X4 l4 y4 z4 st4 hQ4
    subst l4 y4 z4
    obtain ⟨rfl, Nq4, e4⟩ := hQ4
    have N4 := Fr.app N1 Nq4
    have t4 := own_bt (P := 65 ≤ p0.toInt ∧ p0.toInt ≤ 90)
    have pre6 : ∀ t, Steps p.tables e below (T4.setTop (mkF m 11 #[.val (.int p0)] [(.int (bI (65 ≤ p0.toInt ∧ p0.toInt ≤ 90)))])) t → Steps p.tables e below (s₁.setTop (mkF m 0 #[.val (.int p0)] [])) t := fun t k => pre3 t (by
      show Steps p.tables e below (T1.setTop (mkF m 4 #[.val (.int p0)] [(.int (bI (97 ≤ p0.toInt ∧ p0.toInt ≤ 122)))])) _
      refine XS.ifNo X1.here hx rfl (hb hby d1_4) rfl ((if0 _ _).trans (teq hc2).2) ?_
      show Steps p.tables e below (T1.setTop (mkF m 7 #[.val (.int p0)] [])) _
      refine XS.iloadN X1.here hx rfl (hb hby d1_7) rfl ?_
      show Steps p.tables e below (T1.setTop (mkF m 8 #[.val (.int p0)] [(.int p0)])) _
      refine st4 _ ?_
      exact k)
    by_cases hc5 : (bI (65 ≤ p0.toInt ∧ p0.toInt ≤ 90)) = (0 : Int32)
    · skip
      have ohc5 : (bI (65 ≤ p0.toInt ∧ p0.toInt ≤ 90)).toInt = 0 := own_eq.mp hc5
      obtain ⟨_, _, ⟨T7, L7, k7, n7⟩, -, X7, ⟨Lc7, hQ7, l7, y7, z7⟩, st7⟩ := Jvm.LawKit.callS X4 hx (y := (⟨"com/example/orql/orql/Syntax", "isDigit", "(C)Z"⟩ : MethodName)) hown (mvT hZ (hw _ (List.mem_of_getElem? (i := 11) rfl))) (mvT hZ (hw _ (List.mem_of_getElem? (i := 12) rfl))) (mvT hZ (hw _ (List.mem_of_getElem? (i := 3) rfl))) (mvT hZ (hw _ (List.mem_of_getElem? (i := 13) rfl))) (by decide) (backOf (W := 0) (rm4 l Z a0 hw [] p0  h0 n0 Z0 ) hZ (hw _ (List.mem_of_getElem? (i := 13) rfl)) (hw _ (List.mem_of_getElem? (i := 3) rfl)) (by decide) (by decide)) (g := (mkF m 15 #[.val (.int p0)] [(.int p0)])) rfl (by rw [hml]; rfl) (argsL := [(.int p0)]) (rest := []) (lenOf pd_0 rfl) rfl (by show 2 * 0 + _ ≤ _; exact Nat.le_of_eq rfl) (hb hby d1_15) (fun _ _ => ⟨rfl, e4, (by decide : 0 + 0 ≤ _), (by decide : 0 + 0 ≤ _)⟩)
      dsimp only [Pt.U, Pt.locs, Pt.cells, Pt.slots] at X7 l7 y7 z7 st7 hQ7
      subst l7 y7 z7
      obtain ⟨rfl, Nq7, e7⟩ := hQ7
      have N7 := Fr.app N4 Nq7
      have t7 := own_bt (P := 48 ≤ p0.toInt ∧ p0.toInt ≤ 57)
      have pre9 : ∀ t, Steps p.tables e below (T7.setTop (mkF m 18 #[.val (.int p0)] [(.int (bI (48 ≤ p0.toInt ∧ p0.toInt ≤ 57)))])) t → Steps p.tables e below (s₁.setTop (mkF m 0 #[.val (.int p0)] [])) t := fun t k => pre6 t (by
        show Steps p.tables e below (T4.setTop (mkF m 11 #[.val (.int p0)] [(.int (bI (65 ≤ p0.toInt ∧ p0.toInt ≤ 90)))])) _
        refine XS.ifNo X4.here hx rfl (hb hby d1_11) rfl ((if0 _ _).trans (teq hc5).2) ?_
        show Steps p.tables e below (T4.setTop (mkF m 14 #[.val (.int p0)] [])) _
        refine XS.iloadN X4.here hx rfl (hb hby d1_14) rfl ?_
        show Steps p.tables e below (T4.setTop (mkF m 15 #[.val (.int p0)] [(.int p0)])) _
        refine st7 _ ?_
        exact k)
      by_cases hc8 : (bI (48 ≤ p0.toInt ∧ p0.toInt ≤ 57)) = (0 : Int32)
      · skip
        have ohc8 : (bI (48 ≤ p0.toInt ∧ p0.toInt ≤ 57)).toInt = 0 := own_eq.mp hc8
        have pre11 : ∀ t, Steps p.tables e below (T7.setTop (mkF m 24 #[.val (.int p0)] [(.int (95 : Int32)), (.int p0)])) t → Steps p.tables e below (s₁.setTop (mkF m 0 #[.val (.int p0)] [])) t := fun t k => pre9 t (by
          show Steps p.tables e below (T7.setTop (mkF m 18 #[.val (.int p0)] [(.int (bI (48 ≤ p0.toInt ∧ p0.toInt ≤ 57)))])) _
          refine XS.ifNo X7.here hx rfl (hb hby d1_18) rfl ((if0 _ _).trans (teq hc8).2) ?_
          show Steps p.tables e below (T7.setTop (mkF m 21 #[.val (.int p0)] [])) _
          refine XS.iloadN X7.here hx rfl (hb hby d1_21) rfl ?_
          show Steps p.tables e below (T7.setTop (mkF m 22 #[.val (.int p0)] [(.int p0)])) _
          refine XS.bipush X7.here hx rfl (hb hby d1_22) ?_
          exact k)
        by_cases hc10 : p0 = (95 : Int32)
        · skip
          have ohc10 : p0.toInt = 95 := own_eq.mp hc10
          obtain ⟨fs, hr, hrun, hended, hW, hsame⟩ := X7.leave (v := some (.int (1 : Int32))) (fun h => by rw [Bd.returns] at h; cases h)
          refine ⟨_, _, pre0 _ (pre11 _ ?_), hrun, hended, _, _, rfl, ?_, ⟨_, rfl⟩, hW, hsame.mono (by decide) (by decide)⟩
          · skip
            show Steps p.tables e below (T7.setTop (mkF m 24 #[.val (.int p0)] [(.int (95 : Int32)), (.int p0)])) _
            refine XS.icmpNo X7.here hx rfl (hb hby d1_24) rfl (teq hc10).2 ?_
            show Steps p.tables e below (T7.setTop (mkF m 27 #[.val (.int p0)] [])) _
            refine XS.iconst X7.here hx rfl (hb hby d1_27) ?_
            show Steps p.tables e below (T7.setTop (mkF m 28 #[.val (.int p0)] [(.int (1 : Int32))])) _
            refine XS.goto X7.here hx rfl (pc0 := 28) (pc' := 32) rfl (hb hby d1_28) (by decide) (by decide) ?_
            show Steps p.tables e below (T7.setTop (mkF m 32 #[.val (.int p0)] [(.int (1 : Int32))])) _
            exact retN X7 hx (t := .boolean) Bd.returns (by simp) (hb hby d1_32) hr
          · show Q1 Z p0 h0 n0 _ T7.heap _
            rw [e7]
            exact ⟨own_b1 (by omega), N7, rfl⟩
        · skip
          have ohc10 : ¬ (p0.toInt = 95) := own_neq.mp hc10
          obtain ⟨fs, hr, hrun, hended, hW, hsame⟩ := X7.leave (v := some (.int (0 : Int32))) (fun h => by rw [Bd.returns] at h; cases h)
          refine ⟨_, _, pre0 _ (pre11 _ ?_), hrun, hended, _, _, rfl, ?_, ⟨_, rfl⟩, hW, hsame.mono (by decide) (by decide)⟩
          · skip
            show Steps p.tables e below (T7.setTop (mkF m 24 #[.val (.int p0)] [(.int (95 : Int32)), (.int p0)])) _
            refine XS.icmpYes X7.here hx rfl (pc0 := 24) (pc' := 31) rfl (hb hby d1_24) rfl (feq hc10).2 (by decide) (by decide) ?_
            show Steps p.tables e below (T7.setTop (mkF m 31 #[.val (.int p0)] [])) _
            refine XS.iconst X7.here hx rfl (hb hby d1_31) ?_
            show Steps p.tables e below (T7.setTop (mkF m 32 #[.val (.int p0)] [(.int (0 : Int32))])) _
            exact retN X7 hx (t := .boolean) Bd.returns (by simp) (hb hby d1_32) hr
          · show Q1 Z p0 h0 n0 _ T7.heap _
            rw [e7]
            exact ⟨own_b0 (by omega), N7, rfl⟩
      · skip
        have ohc8 : ¬ ((bI (48 ≤ p0.toInt ∧ p0.toInt ≤ 57)).toInt = 0) := own_neq.mp hc8
        obtain ⟨fs, hr, hrun, hended, hW, hsame⟩ := X7.leave (v := some (.int (1 : Int32))) (fun h => by rw [Bd.returns] at h; cases h)
        refine ⟨_, _, pre0 _ (pre9 _ ?_), hrun, hended, _, _, rfl, ?_, ⟨_, rfl⟩, hW, hsame.mono (by decide) (by decide)⟩
        · skip
          show Steps p.tables e below (T7.setTop (mkF m 18 #[.val (.int p0)] [(.int (bI (48 ≤ p0.toInt ∧ p0.toInt ≤ 57)))])) _
          refine XS.ifYes X7.here hx rfl (pc0 := 18) (pc' := 27) rfl (hb hby d1_18) rfl ((if0 _ _).trans (feq hc8).2) (by decide) (by decide) ?_
          show Steps p.tables e below (T7.setTop (mkF m 27 #[.val (.int p0)] [])) _
          refine XS.iconst X7.here hx rfl (hb hby d1_27) ?_
          show Steps p.tables e below (T7.setTop (mkF m 28 #[.val (.int p0)] [(.int (1 : Int32))])) _
          refine XS.goto X7.here hx rfl (pc0 := 28) (pc' := 32) rfl (hb hby d1_28) (by decide) (by decide) ?_
          show Steps p.tables e below (T7.setTop (mkF m 32 #[.val (.int p0)] [(.int (1 : Int32))])) _
          exact retN X7 hx (t := .boolean) Bd.returns (by simp) (hb hby d1_32) hr
        · show Q1 Z p0 h0 n0 _ T7.heap _
          rw [e7]
          exact ⟨own_b1 (by omega), N7, rfl⟩
    · skip
      have ohc5 : ¬ ((bI (65 ≤ p0.toInt ∧ p0.toInt ≤ 90)).toInt = 0) := own_neq.mp hc5
      obtain ⟨fs, hr, hrun, hended, hW, hsame⟩ := X4.leave (v := some (.int (1 : Int32))) (fun h => by rw [Bd.returns] at h; cases h)
      refine ⟨_, _, pre0 _ (pre6 _ ?_), hrun, hended, _, _, rfl, ?_, ⟨_, rfl⟩, hW, hsame.mono (by decide) (by decide)⟩
      · skip
        show Steps p.tables e below (T4.setTop (mkF m 11 #[.val (.int p0)] [(.int (bI (65 ≤ p0.toInt ∧ p0.toInt ≤ 90)))])) _
        refine XS.ifYes X4.here hx rfl (pc0 := 11) (pc' := 27) rfl (hb hby d1_11) rfl ((if0 _ _).trans (feq hc5).2) (by decide) (by decide) ?_
        show Steps p.tables e below (T4.setTop (mkF m 27 #[.val (.int p0)] [])) _
        refine XS.iconst X4.here hx rfl (hb hby d1_27) ?_
        show Steps p.tables e below (T4.setTop (mkF m 28 #[.val (.int p0)] [(.int (1 : Int32))])) _
        refine XS.goto X4.here hx rfl (pc0 := 28) (pc' := 32) rfl (hb hby d1_28) (by decide) (by decide) ?_
        show Steps p.tables e below (T4.setTop (mkF m 32 #[.val (.int p0)] [(.int (1 : Int32))])) _
        exact retN X4 hx (t := .boolean) Bd.returns (by simp) (hb hby d1_32) hr
      · show Q1 Z p0 h0 n0 _ T4.heap _
        rw [e4]
        exact ⟨own_b1 (by omega), N4, rfl⟩
  · skip
    have ohc2 : ¬ ((bI (97 ≤ p0.toInt ∧ p0.toInt ≤ 122)).toInt = 0) := own_neq.mp hc2
    obtain ⟨fs, hr, hrun, hended, hW, hsame⟩ := X1.leave (v := some (.int (1 : Int32))) (fun h => by rw [Bd.returns] at h; cases h)
    refine ⟨_, _, pre0 _ (pre3 _ ?_), hrun, hended, _, _, rfl, ?_, ⟨_, rfl⟩, hW, hsame.mono (by decide) (by decide)⟩
    · skip
      show Steps p.tables e below (T1.setTop (mkF m 4 #[.val (.int p0)] [(.int (bI (97 ≤ p0.toInt ∧ p0.toInt ≤ 122)))])) _
      refine XS.ifYes X1.here hx rfl (pc0 := 4) (pc' := 27) rfl (hb hby d1_4) rfl ((if0 _ _).trans (feq hc2).2) (by decide) (by decide) ?_
      show Steps p.tables e below (T1.setTop (mkF m 27 #[.val (.int p0)] [])) _
      refine XS.iconst X1.here hx rfl (hb hby d1_27) ?_
      show Steps p.tables e below (T1.setTop (mkF m 28 #[.val (.int p0)] [(.int (1 : Int32))])) _
      refine XS.goto X1.here hx rfl (pc0 := 28) (pc' := 32) rfl (hb hby d1_28) (by decide) (by decide) ?_
      show Steps p.tables e below (T1.setTop (mkF m 32 #[.val (.int p0)] [(.int (1 : Int32))])) _
      exact retN X1 hx (t := .boolean) Bd.returns (by simp) (hb hby d1_32) hr
    · show Q1 Z p0 h0 n0 _ T1.heap _
      rw [e1]
      exact ⟨own_b1 (by omega), N1, rfl⟩
def Q0 (Z : State) (p0 : Int32) (h0 : Heap) (n0 : Nat) (v : Option Value) (h : Heap) (L : List Loc) : Prop := v = some (.int 1) ∧ Fr n0 L
set_option maxRecDepth 65536 in
set_option maxHeartbeats 40000000 in
theorem rm0 (l : Launch) (Z : State) (a0 : Array Value) (hw : ∀ d ∈ tables_1, d.before a0 Z = true) (ws : List Jvm.Cond) (p0 : Int32) (h0 : Heap) (n0 : Nat) (Z0 : n0 ≤ h0.size) :
    MetFree l x (head1 (Jvm.Cond.code x code maxLocals ret :: ws) room_1) (fun a U => a = #[(.int p0)] ∧ Z.Warmed39 U.vm ∧ U.heap = h0) (fun _ _ _ _ _ => True) (fun _ U o U' => ∃ v L, o = .returned v ∧ Q0 Z p0 h0 n0 v U'.heap L ∧ FrameEnd U o U' L room_1.cells room_1.slots) := by
  refine MetFree.of_bodySF (plainFor_of_name pn_com_example_orql_orql_SyntaxIsWordCharPinLaw) hisR ?_
  intro p e s m args below meth c s₁ Bd hml0 hP hK
  obtain ⟨rfl, hZ, hh⟩ := hP
  have hx := Bd.exec
  have hby := Bd.bytes
  have hml : c.maxLocals = 8 := hml0
  have hown : s.vm.findClass "com/example/orql/orql/SyntaxIsWordCharPinLaw" = some m.cls := findClass_of_methodNamed Bd.named
  have hnm := (name_of_methodNamed Bd.named Bd.method).1
  have X0 : Stand p l e room_1 s m #[(.int p0)] below meth c s₁ [] 0 0 := Stand.of_body Bd
  have e0 : s₁.heap = h0 := by rw [← hh, Bd.state]; rfl
  have N0 := Fr.nil n0
  have pre0 : ∀ t, Steps p.tables e below (s₁.setTop (mkF m 0 #[.val (.int p0), .unset, .unset, .unset, .unset, .unset, .unset, .unset] [])) t → Steps p.tables e below (s₁.setTop (entryFrame m #[(.int p0)] maxLocals)) t := fun t k => castTop (ef_0 m p0) k
  have preS : ∀ t, Steps p.tables e below (s₁.setTop (mkF m 0 #[.val (.int p0), .unset, .unset, .unset, .unset, .unset, .unset, .unset] [])) t → Steps p.tables e below (s₁.setTop (mkF m 0 #[.val (.int p0), .unset, .unset, .unset, .unset, .unset, .unset, .unset] [])) t := fun t k => k
  have pre1 : ∀ t, Steps p.tables e below (s₁.setTop (mkF m 6 #[.val (.int p0), .val (.int ((p0 &&& (65535 : Int32)).toUInt32.toUInt16.toUInt32.toInt32)), .unset, .unset, .unset, .unset, .unset, .unset] [])) t → Steps p.tables e below (s₁.setTop (mkF m 0 #[.val (.int p0), .unset, .unset, .unset, .unset, .unset, .unset, .unset] [])) t := fun t k => preS t (by
    show Steps p.tables e below (s₁.setTop (mkF m 0 #[.val (.int p0), .unset, .unset, .unset, .unset, .unset, .unset, .unset] [])) _
    refine XS.iloadN X0.here hx rfl (hb hby at_0) rfl ?_
    show Steps p.tables e below (s₁.setTop (mkF m 1 #[.val (.int p0), .unset, .unset, .unset, .unset, .unset, .unset, .unset] [(.int p0)])) _
    refine X0.ldcInt hx hown (mvT hZ (hw _ (List.mem_of_getElem? (i := 0) rfl))) (g := (mkF m 1 #[.val (.int p0), .unset, .unset, .unset, .unset, .unset, .unset, .unset] [(.int p0)])) rfl (hb hby at_1) _ ?_
    show Steps p.tables e below (s₁.setTop (mkF m 3 #[.val (.int p0), .unset, .unset, .unset, .unset, .unset, .unset, .unset] [(.int (65535 : Int32)), (.int p0)])) _
    refine XS.iand X0.here hx rfl (hb hby at_3) rfl ?_
    show Steps p.tables e below (s₁.setTop (mkF m 4 #[.val (.int p0), .unset, .unset, .unset, .unset, .unset, .unset, .unset] [(.int (p0 &&& (65535 : Int32)))])) _
    refine XS.i2c X0.here hx rfl (hb hby at_4) rfl ?_
    show Steps p.tables e below (s₁.setTop (mkF m 5 #[.val (.int p0), .unset, .unset, .unset, .unset, .unset, .unset, .unset] [(.int ((p0 &&& (65535 : Int32)).toUInt32.toUInt16.toUInt32.toInt32))])) _
    refine XS.istoreN X0.here hx rfl (hb hby at_5) rfl (l' := #[.val (.int p0), .val (.int ((p0 &&& (65535 : Int32)).toUInt32.toUInt16.toUInt32.toInt32)), .unset, .unset, .unset, .unset, .unset, .unset]) rfl ?_
    exact k)
  obtain ⟨u, h_u⟩ : ∃ z, z = ((p0 &&& (65535 : Int32)).toUInt32.toUInt16.toUInt32.toInt32) := ⟨_, rfl⟩
  rw [← h_u] at pre1
  have hu := c_i2c (p0 &&& (65535 : Int32))
  rw [← h_u] at hu
  have hf := own_fold u hu.2.1
  have pre2 : ∀ t, Steps p.tables e below (s₁.setTop (mkF m 13 #[.val (.int p0), .val (.int u), .val (.int u), .val (.int (u ||| (32 : Int32))), .unset, .unset, .unset, .unset] [])) t → Steps p.tables e below (s₁.setTop (mkF m 0 #[.val (.int p0), .unset, .unset, .unset, .unset, .unset, .unset, .unset] [])) t := fun t k => pre1 t (by
    show Steps p.tables e below (s₁.setTop (mkF m 6 #[.val (.int p0), .val (.int u), .unset, .unset, .unset, .unset, .unset, .unset] [])) _
    refine XS.iloadN X0.here hx rfl (hb hby at_6) rfl ?_
    show Steps p.tables e below (s₁.setTop (mkF m 7 #[.val (.int p0), .val (.int u), .unset, .unset, .unset, .unset, .unset, .unset] [(.int u)])) _
    refine XS.istoreN X0.here hx rfl (hb hby at_7) rfl (l' := #[.val (.int p0), .val (.int u), .val (.int u), .unset, .unset, .unset, .unset, .unset]) rfl ?_
    show Steps p.tables e below (s₁.setTop (mkF m 8 #[.val (.int p0), .val (.int u), .val (.int u), .unset, .unset, .unset, .unset, .unset] [])) _
    refine XS.iloadN X0.here hx rfl (hb hby at_8) rfl ?_
    show Steps p.tables e below (s₁.setTop (mkF m 9 #[.val (.int p0), .val (.int u), .val (.int u), .unset, .unset, .unset, .unset, .unset] [(.int u)])) _
    refine XS.bipush X0.here hx rfl (hb hby at_9) ?_
    show Steps p.tables e below (s₁.setTop (mkF m 11 #[.val (.int p0), .val (.int u), .val (.int u), .unset, .unset, .unset, .unset, .unset] [(.int (32 : Int32)), (.int u)])) _
    refine XS.ior X0.here hx rfl (hb hby at_11) rfl ?_
    show Steps p.tables e below (s₁.setTop (mkF m 12 #[.val (.int p0), .val (.int u), .val (.int u), .unset, .unset, .unset, .unset, .unset] [(.int (u ||| (32 : Int32)))])) _
    refine XS.istoreN X0.here hx rfl (hb hby at_12) rfl (l' := #[.val (.int p0), .val (.int u), .val (.int u), .val (.int (u ||| (32 : Int32))), .unset, .unset, .unset, .unset]) rfl ?_
    exact k)
  obtain ⟨f, h_f⟩ : ∃ z, z = (u ||| (32 : Int32)) := ⟨_, rfl⟩
  rw [← h_f] at pre2 hf
  obtain ⟨vl, rfl, pre3⟩ : ∃ (vl : Int32), (vl = bI (97 ≤ f.toInt ∧ f.toInt ≤ 122)) ∧ ∀ t, Steps p.tables e below (s₁.setTop (mkF m 30 #[.val (.int p0), .val (.int u), .val (.int u), .val (.int f), .unset, .unset, .unset, .unset] [(.int vl)])) t → Steps p.tables e below (s₁.setTop (mkF m 0 #[.val (.int p0), .unset, .unset, .unset, .unset, .unset, .unset, .unset] [])) t := by
    have pre5 : ∀ t, Steps p.tables e below (s₁.setTop (mkF m 16 #[.val (.int p0), .val (.int u), .val (.int u), .val (.int f), .unset, .unset, .unset, .unset] [(.int (97 : Int32)), (.int f)])) t → Steps p.tables e below (s₁.setTop (mkF m 0 #[.val (.int p0), .unset, .unset, .unset, .unset, .unset, .unset, .unset] [])) t := fun t k => pre2 t (by
      show Steps p.tables e below (s₁.setTop (mkF m 13 #[.val (.int p0), .val (.int u), .val (.int u), .val (.int f), .unset, .unset, .unset, .unset] [])) _
      refine XS.iloadN X0.here hx rfl (hb hby at_13) rfl ?_
      show Steps p.tables e below (s₁.setTop (mkF m 14 #[.val (.int p0), .val (.int u), .val (.int u), .val (.int f), .unset, .unset, .unset, .unset] [(.int f)])) _
      refine XS.bipush X0.here hx rfl (hb hby at_14) ?_
      exact k)
    by_cases hc4 : f < (97 : Int32)
    · skip
      have ohc4 : f.toInt < 97 := own_lt.mp hc4
      refine ⟨(0 : Int32), ?_, fun t k => pre5 t ?_⟩
      · exact own_c0 (by omega)
      · skip
        show Steps p.tables e below (s₁.setTop (mkF m 16 #[.val (.int p0), .val (.int u), .val (.int u), .val (.int f), .unset, .unset, .unset, .unset] [(.int (97 : Int32)), (.int f)])) _
        refine XS.icmpYes X0.here hx rfl (pc0 := 16) (pc' := 29) rfl (hb hby at_16) rfl (tlt hc4).1 (by decide) (by decide) ?_
        show Steps p.tables e below (s₁.setTop (mkF m 29 #[.val (.int p0), .val (.int u), .val (.int u), .val (.int f), .unset, .unset, .unset, .unset] [])) _
        refine XS.iconst X0.here hx rfl (hb hby at_29) ?_
        exact k
    · skip
      have ohc4 : 97 ≤ f.toInt := own_nlt.mp hc4
      have pre7 : ∀ t, Steps p.tables e below (s₁.setTop (mkF m 22 #[.val (.int p0), .val (.int u), .val (.int u), .val (.int f), .unset, .unset, .unset, .unset] [(.int (122 : Int32)), (.int f)])) t → Steps p.tables e below (s₁.setTop (mkF m 0 #[.val (.int p0), .unset, .unset, .unset, .unset, .unset, .unset, .unset] [])) t := fun t k => pre5 t (by
        show Steps p.tables e below (s₁.setTop (mkF m 16 #[.val (.int p0), .val (.int u), .val (.int u), .val (.int f), .unset, .unset, .unset, .unset] [(.int (97 : Int32)), (.int f)])) _
        refine XS.icmpNo X0.here hx rfl (hb hby at_16) rfl (flt hc4).1 ?_
        show Steps p.tables e below (s₁.setTop (mkF m 19 #[.val (.int p0), .val (.int u), .val (.int u), .val (.int f), .unset, .unset, .unset, .unset] [])) _
        refine XS.iloadN X0.here hx rfl (hb hby at_19) rfl ?_
        show Steps p.tables e below (s₁.setTop (mkF m 20 #[.val (.int p0), .val (.int u), .val (.int u), .val (.int f), .unset, .unset, .unset, .unset] [(.int f)])) _
        refine XS.bipush X0.here hx rfl (hb hby at_20) ?_
        exact k)
      by_cases hc6 : (122 : Int32) < f
      · skip
        have ohc6 : 122 < f.toInt := own_lt.mp hc6
        refine ⟨(0 : Int32), ?_, fun t k => pre7 t ?_⟩
        · exact own_c0 (by omega)
        · skip
          show Steps p.tables e below (s₁.setTop (mkF m 22 #[.val (.int p0), .val (.int u), .val (.int u), .val (.int f), .unset, .unset, .unset, .unset] [(.int (122 : Int32)), (.int f)])) _
          refine XS.icmpYes X0.here hx rfl (pc0 := 22) (pc' := 29) rfl (hb hby at_22) rfl (tlt hc6).2.2.1 (by decide) (by decide) ?_
          show Steps p.tables e below (s₁.setTop (mkF m 29 #[.val (.int p0), .val (.int u), .val (.int u), .val (.int f), .unset, .unset, .unset, .unset] [])) _
          refine XS.iconst X0.here hx rfl (hb hby at_29) ?_
          exact k
      · skip
        have ohc6 : f.toInt ≤ 122 := own_nlt.mp hc6
        refine ⟨(1 : Int32), ?_, fun t k => pre7 t ?_⟩
        · exact own_c1 (by omega)
        · skip
          show Steps p.tables e below (s₁.setTop (mkF m 22 #[.val (.int p0), .val (.int u), .val (.int u), .val (.int f), .unset, .unset, .unset, .unset] [(.int (122 : Int32)), (.int f)])) _
          refine XS.icmpNo X0.here hx rfl (hb hby at_22) rfl (flt hc6).2.2.1 ?_
          show Steps p.tables e below (s₁.setTop (mkF m 25 #[.val (.int p0), .val (.int u), .val (.int u), .val (.int f), .unset, .unset, .unset, .unset] [])) _
          refine XS.iconst X0.here hx rfl (hb hby at_25) ?_
          show Steps p.tables e below (s₁.setTop (mkF m 26 #[.val (.int p0), .val (.int u), .val (.int u), .val (.int f), .unset, .unset, .unset, .unset] [(.int (1 : Int32))])) _
          refine XS.goto X0.here hx rfl (pc0 := 26) (pc' := 30) rfl (hb hby at_26) (by decide) (by decide) ?_
          exact k
  have tvl := own_bt (P := 97 ≤ f.toInt ∧ f.toInt ≤ 122)
  have pre8 : ∀ t, Steps p.tables e below (s₁.setTop (mkF m 32 #[.val (.int p0), .val (.int u), .val (.int u), .val (.int f), .val (.int (bI (97 ≤ f.toInt ∧ f.toInt ≤ 122))), .unset, .unset, .unset] [])) t → Steps p.tables e below (s₁.setTop (mkF m 0 #[.val (.int p0), .unset, .unset, .unset, .unset, .unset, .unset, .unset] [])) t := fun t k => pre3 t (by
    show Steps p.tables e below (s₁.setTop (mkF m 30 #[.val (.int p0), .val (.int u), .val (.int u), .val (.int f), .unset, .unset, .unset, .unset] [(.int (bI (97 ≤ f.toInt ∧ f.toInt ≤ 122)))])) _
    refine XS.istore X0.here hx rfl (hb hby at_30) rfl (l' := #[.val (.int p0), .val (.int u), .val (.int u), .val (.int f), .val (.int (bI (97 ≤ f.toInt ∧ f.toInt ≤ 122))), .unset, .unset, .unset]) rfl ?_
    exact k)
  obtain ⟨vd, rfl, pre9⟩ : ∃ (vd : Int32), (vd = bI (48 ≤ u.toInt ∧ u.toInt ≤ 57)) ∧ ∀ t, Steps p.tables e below (s₁.setTop (mkF m 49 #[.val (.int p0), .val (.int u), .val (.int u), .val (.int f), .val (.int (bI (97 ≤ f.toInt ∧ f.toInt ≤ 122))), .unset, .unset, .unset] [(.int vd)])) t → Steps p.tables e below (s₁.setTop (mkF m 0 #[.val (.int p0), .unset, .unset, .unset, .unset, .unset, .unset, .unset] [])) t := by
    have pre11 : ∀ t, Steps p.tables e below (s₁.setTop (mkF m 35 #[.val (.int p0), .val (.int u), .val (.int u), .val (.int f), .val (.int (bI (97 ≤ f.toInt ∧ f.toInt ≤ 122))), .unset, .unset, .unset] [(.int (48 : Int32)), (.int u)])) t → Steps p.tables e below (s₁.setTop (mkF m 0 #[.val (.int p0), .unset, .unset, .unset, .unset, .unset, .unset, .unset] [])) t := fun t k => pre8 t (by
      show Steps p.tables e below (s₁.setTop (mkF m 32 #[.val (.int p0), .val (.int u), .val (.int u), .val (.int f), .val (.int (bI (97 ≤ f.toInt ∧ f.toInt ≤ 122))), .unset, .unset, .unset] [])) _
      refine XS.iloadN X0.here hx rfl (hb hby at_32) rfl ?_
      show Steps p.tables e below (s₁.setTop (mkF m 33 #[.val (.int p0), .val (.int u), .val (.int u), .val (.int f), .val (.int (bI (97 ≤ f.toInt ∧ f.toInt ≤ 122))), .unset, .unset, .unset] [(.int u)])) _
      refine XS.bipush X0.here hx rfl (hb hby at_33) ?_
      exact k)
    by_cases hc10 : u < (48 : Int32)
    · skip
      have ohc10 : u.toInt < 48 := own_lt.mp hc10
      refine ⟨(0 : Int32), ?_, fun t k => pre11 t ?_⟩
      · exact own_c0 (by omega)
      · skip
        show Steps p.tables e below (s₁.setTop (mkF m 35 #[.val (.int p0), .val (.int u), .val (.int u), .val (.int f), .val (.int (bI (97 ≤ f.toInt ∧ f.toInt ≤ 122))), .unset, .unset, .unset] [(.int (48 : Int32)), (.int u)])) _
        refine XS.icmpYes X0.here hx rfl (pc0 := 35) (pc' := 48) rfl (hb hby at_35) rfl (tlt hc10).1 (by decide) (by decide) ?_
        show Steps p.tables e below (s₁.setTop (mkF m 48 #[.val (.int p0), .val (.int u), .val (.int u), .val (.int f), .val (.int (bI (97 ≤ f.toInt ∧ f.toInt ≤ 122))), .unset, .unset, .unset] [])) _
        refine XS.iconst X0.here hx rfl (hb hby at_48) ?_
        exact k
    · skip
      have ohc10 : 48 ≤ u.toInt := own_nlt.mp hc10
      have pre13 : ∀ t, Steps p.tables e below (s₁.setTop (mkF m 41 #[.val (.int p0), .val (.int u), .val (.int u), .val (.int f), .val (.int (bI (97 ≤ f.toInt ∧ f.toInt ≤ 122))), .unset, .unset, .unset] [(.int (57 : Int32)), (.int u)])) t → Steps p.tables e below (s₁.setTop (mkF m 0 #[.val (.int p0), .unset, .unset, .unset, .unset, .unset, .unset, .unset] [])) t := fun t k => pre11 t (by
        show Steps p.tables e below (s₁.setTop (mkF m 35 #[.val (.int p0), .val (.int u), .val (.int u), .val (.int f), .val (.int (bI (97 ≤ f.toInt ∧ f.toInt ≤ 122))), .unset, .unset, .unset] [(.int (48 : Int32)), (.int u)])) _
        refine XS.icmpNo X0.here hx rfl (hb hby at_35) rfl (flt hc10).1 ?_
        show Steps p.tables e below (s₁.setTop (mkF m 38 #[.val (.int p0), .val (.int u), .val (.int u), .val (.int f), .val (.int (bI (97 ≤ f.toInt ∧ f.toInt ≤ 122))), .unset, .unset, .unset] [])) _
        refine XS.iloadN X0.here hx rfl (hb hby at_38) rfl ?_
        show Steps p.tables e below (s₁.setTop (mkF m 39 #[.val (.int p0), .val (.int u), .val (.int u), .val (.int f), .val (.int (bI (97 ≤ f.toInt ∧ f.toInt ≤ 122))), .unset, .unset, .unset] [(.int u)])) _
        refine XS.bipush X0.here hx rfl (hb hby at_39) ?_
        exact k)
      by_cases hc12 : (57 : Int32) < u
      · skip
        have ohc12 : 57 < u.toInt := own_lt.mp hc12
        refine ⟨(0 : Int32), ?_, fun t k => pre13 t ?_⟩
        · exact own_c0 (by omega)
        · skip
          show Steps p.tables e below (s₁.setTop (mkF m 41 #[.val (.int p0), .val (.int u), .val (.int u), .val (.int f), .val (.int (bI (97 ≤ f.toInt ∧ f.toInt ≤ 122))), .unset, .unset, .unset] [(.int (57 : Int32)), (.int u)])) _
          refine XS.icmpYes X0.here hx rfl (pc0 := 41) (pc' := 48) rfl (hb hby at_41) rfl (tlt hc12).2.2.1 (by decide) (by decide) ?_
          show Steps p.tables e below (s₁.setTop (mkF m 48 #[.val (.int p0), .val (.int u), .val (.int u), .val (.int f), .val (.int (bI (97 ≤ f.toInt ∧ f.toInt ≤ 122))), .unset, .unset, .unset] [])) _
          refine XS.iconst X0.here hx rfl (hb hby at_48) ?_
          exact k
      · skip
        have ohc12 : u.toInt ≤ 57 := own_nlt.mp hc12
        refine ⟨(1 : Int32), ?_, fun t k => pre13 t ?_⟩
        · exact own_c1 (by omega)
        · skip
          show Steps p.tables e below (s₁.setTop (mkF m 41 #[.val (.int p0), .val (.int u), .val (.int u), .val (.int f), .val (.int (bI (97 ≤ f.toInt ∧ f.toInt ≤ 122))), .unset, .unset, .unset] [(.int (57 : Int32)), (.int u)])) _
          refine XS.icmpNo X0.here hx rfl (hb hby at_41) rfl (flt hc12).2.2.1 ?_
          show Steps p.tables e below (s₁.setTop (mkF m 44 #[.val (.int p0), .val (.int u), .val (.int u), .val (.int f), .val (.int (bI (97 ≤ f.toInt ∧ f.toInt ≤ 122))), .unset, .unset, .unset] [])) _
          refine XS.iconst X0.here hx rfl (hb hby at_44) ?_
          show Steps p.tables e below (s₁.setTop (mkF m 45 #[.val (.int p0), .val (.int u), .val (.int u), .val (.int f), .val (.int (bI (97 ≤ f.toInt ∧ f.toInt ≤ 122))), .unset, .unset, .unset] [(.int (1 : Int32))])) _
          refine XS.goto X0.here hx rfl (pc0 := 45) (pc' := 49) rfl (hb hby at_45) (by decide) (by decide) ?_
          exact k
  have tvd := own_bt (P := 48 ≤ u.toInt ∧ u.toInt ≤ 57)
  have pre14 : ∀ t, Steps p.tables e below (s₁.setTop (mkF m 51 #[.val (.int p0), .val (.int u), .val (.int u), .val (.int f), .val (.int (bI (97 ≤ f.toInt ∧ f.toInt ≤ 122))), .val (.int (bI (48 ≤ u.toInt ∧ u.toInt ≤ 57))), .unset, .unset] [])) t → Steps p.tables e below (s₁.setTop (mkF m 0 #[.val (.int p0), .unset, .unset, .unset, .unset, .unset, .unset, .unset] [])) t := fun t k => pre9 t (by
    show Steps p.tables e below (s₁.setTop (mkF m 49 #[.val (.int p0), .val (.int u), .val (.int u), .val (.int f), .val (.int (bI (97 ≤ f.toInt ∧ f.toInt ≤ 122))), .unset, .unset, .unset] [(.int (bI (48 ≤ u.toInt ∧ u.toInt ≤ 57)))])) _
    refine XS.istore X0.here hx rfl (hb hby at_49) rfl (l' := #[.val (.int p0), .val (.int u), .val (.int u), .val (.int f), .val (.int (bI (97 ≤ f.toInt ∧ f.toInt ≤ 122))), .val (.int (bI (48 ≤ u.toInt ∧ u.toInt ≤ 57))), .unset, .unset]) rfl ?_
    exact k)
  obtain ⟨vu, rfl, pre15⟩ : ∃ (vu : Int32), (vu = bI (u.toInt = 95)) ∧ ∀ t, Steps p.tables e below (s₁.setTop (mkF m 62 #[.val (.int p0), .val (.int u), .val (.int u), .val (.int f), .val (.int (bI (97 ≤ f.toInt ∧ f.toInt ≤ 122))), .val (.int (bI (48 ≤ u.toInt ∧ u.toInt ≤ 57))), .unset, .unset] [(.int vu)])) t → Steps p.tables e below (s₁.setTop (mkF m 0 #[.val (.int p0), .unset, .unset, .unset, .unset, .unset, .unset, .unset] [])) t := by
    have pre17 : ∀ t, Steps p.tables e below (s₁.setTop (mkF m 54 #[.val (.int p0), .val (.int u), .val (.int u), .val (.int f), .val (.int (bI (97 ≤ f.toInt ∧ f.toInt ≤ 122))), .val (.int (bI (48 ≤ u.toInt ∧ u.toInt ≤ 57))), .unset, .unset] [(.int (95 : Int32)), (.int u)])) t → Steps p.tables e below (s₁.setTop (mkF m 0 #[.val (.int p0), .unset, .unset, .unset, .unset, .unset, .unset, .unset] [])) t := fun t k => pre14 t (by
      show Steps p.tables e below (s₁.setTop (mkF m 51 #[.val (.int p0), .val (.int u), .val (.int u), .val (.int f), .val (.int (bI (97 ≤ f.toInt ∧ f.toInt ≤ 122))), .val (.int (bI (48 ≤ u.toInt ∧ u.toInt ≤ 57))), .unset, .unset] [])) _
      refine XS.iloadN X0.here hx rfl (hb hby at_51) rfl ?_
      show Steps p.tables e below (s₁.setTop (mkF m 52 #[.val (.int p0), .val (.int u), .val (.int u), .val (.int f), .val (.int (bI (97 ≤ f.toInt ∧ f.toInt ≤ 122))), .val (.int (bI (48 ≤ u.toInt ∧ u.toInt ≤ 57))), .unset, .unset] [(.int u)])) _
      refine XS.bipush X0.here hx rfl (hb hby at_52) ?_
      exact k)
    by_cases hc16 : u = (95 : Int32)
    · skip
      have ohc16 : u.toInt = 95 := own_eq.mp hc16
      refine ⟨(1 : Int32), ?_, fun t k => pre17 t ?_⟩
      · exact own_c1 (by omega)
      · skip
        show Steps p.tables e below (s₁.setTop (mkF m 54 #[.val (.int p0), .val (.int u), .val (.int u), .val (.int f), .val (.int (bI (97 ≤ f.toInt ∧ f.toInt ≤ 122))), .val (.int (bI (48 ≤ u.toInt ∧ u.toInt ≤ 57))), .unset, .unset] [(.int (95 : Int32)), (.int u)])) _
        refine XS.icmpNo X0.here hx rfl (hb hby at_54) rfl (teq hc16).2 ?_
        show Steps p.tables e below (s₁.setTop (mkF m 57 #[.val (.int p0), .val (.int u), .val (.int u), .val (.int f), .val (.int (bI (97 ≤ f.toInt ∧ f.toInt ≤ 122))), .val (.int (bI (48 ≤ u.toInt ∧ u.toInt ≤ 57))), .unset, .unset] [])) _
        refine XS.iconst X0.here hx rfl (hb hby at_57) ?_
        show Steps p.tables e below (s₁.setTop (mkF m 58 #[.val (.int p0), .val (.int u), .val (.int u), .val (.int f), .val (.int (bI (97 ≤ f.toInt ∧ f.toInt ≤ 122))), .val (.int (bI (48 ≤ u.toInt ∧ u.toInt ≤ 57))), .unset, .unset] [(.int (1 : Int32))])) _
        refine XS.goto X0.here hx rfl (pc0 := 58) (pc' := 62) rfl (hb hby at_58) (by decide) (by decide) ?_
        exact k
    · skip
      have ohc16 : ¬ (u.toInt = 95) := own_neq.mp hc16
      refine ⟨(0 : Int32), ?_, fun t k => pre17 t ?_⟩
      · exact own_c0 (by omega)
      · skip
        show Steps p.tables e below (s₁.setTop (mkF m 54 #[.val (.int p0), .val (.int u), .val (.int u), .val (.int f), .val (.int (bI (97 ≤ f.toInt ∧ f.toInt ≤ 122))), .val (.int (bI (48 ≤ u.toInt ∧ u.toInt ≤ 57))), .unset, .unset] [(.int (95 : Int32)), (.int u)])) _
        refine XS.icmpYes X0.here hx rfl (pc0 := 54) (pc' := 61) rfl (hb hby at_54) rfl (feq hc16).2 (by decide) (by decide) ?_
        show Steps p.tables e below (s₁.setTop (mkF m 61 #[.val (.int p0), .val (.int u), .val (.int u), .val (.int f), .val (.int (bI (97 ≤ f.toInt ∧ f.toInt ≤ 122))), .val (.int (bI (48 ≤ u.toInt ∧ u.toInt ≤ 57))), .unset, .unset] [])) _
        refine XS.iconst X0.here hx rfl (hb hby at_61) ?_
        exact k
  have tvu := own_bt (P := u.toInt = 95)
  have pre18 : ∀ t, Steps p.tables e below (s₁.setTop (mkF m 64 #[.val (.int p0), .val (.int u), .val (.int u), .val (.int f), .val (.int (bI (97 ≤ f.toInt ∧ f.toInt ≤ 122))), .val (.int (bI (48 ≤ u.toInt ∧ u.toInt ≤ 57))), .val (.int (bI (u.toInt = 95))), .unset] [])) t → Steps p.tables e below (s₁.setTop (mkF m 0 #[.val (.int p0), .unset, .unset, .unset, .unset, .unset, .unset, .unset] [])) t := fun t k => pre15 t (by
    show Steps p.tables e below (s₁.setTop (mkF m 62 #[.val (.int p0), .val (.int u), .val (.int u), .val (.int f), .val (.int (bI (97 ≤ f.toInt ∧ f.toInt ≤ 122))), .val (.int (bI (48 ≤ u.toInt ∧ u.toInt ≤ 57))), .unset, .unset] [(.int (bI (u.toInt = 95)))])) _
    refine XS.istore X0.here hx rfl (hb hby at_62) rfl (l' := #[.val (.int p0), .val (.int u), .val (.int u), .val (.int f), .val (.int (bI (97 ≤ f.toInt ∧ f.toInt ≤ 122))), .val (.int (bI (48 ≤ u.toInt ∧ u.toInt ≤ 57))), .val (.int (bI (u.toInt = 95))), .unset]) rfl ?_
    exact k)
  obtain ⟨vx, rfl, pre19⟩ : ∃ (vx : Int32), (vx = bI ((97 ≤ f.toInt ∧ f.toInt ≤ 122) ∨ (48 ≤ u.toInt ∧ u.toInt ≤ 57) ∨ u.toInt = 95)) ∧ ∀ t, Steps p.tables e below (s₁.setTop (mkF m 84 #[.val (.int p0), .val (.int u), .val (.int u), .val (.int f), .val (.int (bI (97 ≤ f.toInt ∧ f.toInt ≤ 122))), .val (.int (bI (48 ≤ u.toInt ∧ u.toInt ≤ 57))), .val (.int (bI (u.toInt = 95))), .unset] [(.int vx)])) t → Steps p.tables e below (s₁.setTop (mkF m 0 #[.val (.int p0), .unset, .unset, .unset, .unset, .unset, .unset, .unset] [])) t := by
    have pre21 : ∀ t, Steps p.tables e below (s₁.setTop (mkF m 66 #[.val (.int p0), .val (.int u), .val (.int u), .val (.int f), .val (.int (bI (97 ≤ f.toInt ∧ f.toInt ≤ 122))), .val (.int (bI (48 ≤ u.toInt ∧ u.toInt ≤ 57))), .val (.int (bI (u.toInt = 95))), .unset] [(.int (bI (97 ≤ f.toInt ∧ f.toInt ≤ 122)))])) t → Steps p.tables e below (s₁.setTop (mkF m 0 #[.val (.int p0), .unset, .unset, .unset, .unset, .unset, .unset, .unset] [])) t := fun t k => pre18 t (by
      show Steps p.tables e below (s₁.setTop (mkF m 64 #[.val (.int p0), .val (.int u), .val (.int u), .val (.int f), .val (.int (bI (97 ≤ f.toInt ∧ f.toInt ≤ 122))), .val (.int (bI (48 ≤ u.toInt ∧ u.toInt ≤ 57))), .val (.int (bI (u.toInt = 95))), .unset] [])) _
      refine XS.iload X0.here hx rfl (hb hby at_64) rfl ?_
      exact k)
    by_cases hc20 : (bI (97 ≤ f.toInt ∧ f.toInt ≤ 122)) = (0 : Int32)
    · skip
      have ohc20 : (bI (97 ≤ f.toInt ∧ f.toInt ≤ 122)).toInt = 0 := own_eq.mp hc20
      have pre23 : ∀ t, Steps p.tables e below (s₁.setTop (mkF m 71 #[.val (.int p0), .val (.int u), .val (.int u), .val (.int f), .val (.int (bI (97 ≤ f.toInt ∧ f.toInt ≤ 122))), .val (.int (bI (48 ≤ u.toInt ∧ u.toInt ≤ 57))), .val (.int (bI (u.toInt = 95))), .unset] [(.int (bI (48 ≤ u.toInt ∧ u.toInt ≤ 57)))])) t → Steps p.tables e below (s₁.setTop (mkF m 0 #[.val (.int p0), .unset, .unset, .unset, .unset, .unset, .unset, .unset] [])) t := fun t k => pre21 t (by
        show Steps p.tables e below (s₁.setTop (mkF m 66 #[.val (.int p0), .val (.int u), .val (.int u), .val (.int f), .val (.int (bI (97 ≤ f.toInt ∧ f.toInt ≤ 122))), .val (.int (bI (48 ≤ u.toInt ∧ u.toInt ≤ 57))), .val (.int (bI (u.toInt = 95))), .unset] [(.int (bI (97 ≤ f.toInt ∧ f.toInt ≤ 122)))])) _
        refine XS.ifNo X0.here hx rfl (hb hby at_66) rfl ((if0 _ _).trans (teq hc20).2) ?_
        show Steps p.tables e below (s₁.setTop (mkF m 69 #[.val (.int p0), .val (.int u), .val (.int u), .val (.int f), .val (.int (bI (97 ≤ f.toInt ∧ f.toInt ≤ 122))), .val (.int (bI (48 ≤ u.toInt ∧ u.toInt ≤ 57))), .val (.int (bI (u.toInt = 95))), .unset] [])) _
        refine XS.iload X0.here hx rfl (hb hby at_69) rfl ?_
        exact k)
      by_cases hc22 : (bI (48 ≤ u.toInt ∧ u.toInt ≤ 57)) = (0 : Int32)
      · skip
        have ohc22 : (bI (48 ≤ u.toInt ∧ u.toInt ≤ 57)).toInt = 0 := own_eq.mp hc22
        have pre25 : ∀ t, Steps p.tables e below (s₁.setTop (mkF m 76 #[.val (.int p0), .val (.int u), .val (.int u), .val (.int f), .val (.int (bI (97 ≤ f.toInt ∧ f.toInt ≤ 122))), .val (.int (bI (48 ≤ u.toInt ∧ u.toInt ≤ 57))), .val (.int (bI (u.toInt = 95))), .unset] [(.int (bI (u.toInt = 95)))])) t → Steps p.tables e below (s₁.setTop (mkF m 0 #[.val (.int p0), .unset, .unset, .unset, .unset, .unset, .unset, .unset] [])) t := fun t k => pre23 t (by
          show Steps p.tables e below (s₁.setTop (mkF m 71 #[.val (.int p0), .val (.int u), .val (.int u), .val (.int f), .val (.int (bI (97 ≤ f.toInt ∧ f.toInt ≤ 122))), .val (.int (bI (48 ≤ u.toInt ∧ u.toInt ≤ 57))), .val (.int (bI (u.toInt = 95))), .unset] [(.int (bI (48 ≤ u.toInt ∧ u.toInt ≤ 57)))])) _
          refine XS.ifNo X0.here hx rfl (hb hby at_71) rfl ((if0 _ _).trans (teq hc22).2) ?_
          show Steps p.tables e below (s₁.setTop (mkF m 74 #[.val (.int p0), .val (.int u), .val (.int u), .val (.int f), .val (.int (bI (97 ≤ f.toInt ∧ f.toInt ≤ 122))), .val (.int (bI (48 ≤ u.toInt ∧ u.toInt ≤ 57))), .val (.int (bI (u.toInt = 95))), .unset] [])) _
          refine XS.iload X0.here hx rfl (hb hby at_74) rfl ?_
          exact k)
        by_cases hc24 : (bI (u.toInt = 95)) = (0 : Int32)
        · skip
          have ohc24 : (bI (u.toInt = 95)).toInt = 0 := own_eq.mp hc24
          refine ⟨(0 : Int32), ?_, fun t k => pre25 t ?_⟩
          · exact own_c0 (by omega)
          · skip
            show Steps p.tables e below (s₁.setTop (mkF m 76 #[.val (.int p0), .val (.int u), .val (.int u), .val (.int f), .val (.int (bI (97 ≤ f.toInt ∧ f.toInt ≤ 122))), .val (.int (bI (48 ≤ u.toInt ∧ u.toInt ≤ 57))), .val (.int (bI (u.toInt = 95))), .unset] [(.int (bI (u.toInt = 95)))])) _
            refine XS.ifYes X0.here hx rfl (pc0 := 76) (pc' := 83) rfl (hb hby at_76) rfl ((if0 _ _).trans (teq hc24).1) (by decide) (by decide) ?_
            show Steps p.tables e below (s₁.setTop (mkF m 83 #[.val (.int p0), .val (.int u), .val (.int u), .val (.int f), .val (.int (bI (97 ≤ f.toInt ∧ f.toInt ≤ 122))), .val (.int (bI (48 ≤ u.toInt ∧ u.toInt ≤ 57))), .val (.int (bI (u.toInt = 95))), .unset] [])) _
            refine XS.iconst X0.here hx rfl (hb hby at_83) ?_
            exact k
        · skip
          have ohc24 : ¬ ((bI (u.toInt = 95)).toInt = 0) := own_neq.mp hc24
          refine ⟨(1 : Int32), ?_, fun t k => pre25 t ?_⟩
          · exact own_c1 (by omega)
          · skip
            show Steps p.tables e below (s₁.setTop (mkF m 76 #[.val (.int p0), .val (.int u), .val (.int u), .val (.int f), .val (.int (bI (97 ≤ f.toInt ∧ f.toInt ≤ 122))), .val (.int (bI (48 ≤ u.toInt ∧ u.toInt ≤ 57))), .val (.int (bI (u.toInt = 95))), .unset] [(.int (bI (u.toInt = 95)))])) _
            refine XS.ifNo X0.here hx rfl (hb hby at_76) rfl ((if0 _ _).trans (feq hc24).1) ?_
            show Steps p.tables e below (s₁.setTop (mkF m 79 #[.val (.int p0), .val (.int u), .val (.int u), .val (.int f), .val (.int (bI (97 ≤ f.toInt ∧ f.toInt ≤ 122))), .val (.int (bI (48 ≤ u.toInt ∧ u.toInt ≤ 57))), .val (.int (bI (u.toInt = 95))), .unset] [])) _
            refine XS.iconst X0.here hx rfl (hb hby at_79) ?_
            show Steps p.tables e below (s₁.setTop (mkF m 80 #[.val (.int p0), .val (.int u), .val (.int u), .val (.int f), .val (.int (bI (97 ≤ f.toInt ∧ f.toInt ≤ 122))), .val (.int (bI (48 ≤ u.toInt ∧ u.toInt ≤ 57))), .val (.int (bI (u.toInt = 95))), .unset] [(.int (1 : Int32))])) _
            refine XS.goto X0.here hx rfl (pc0 := 80) (pc' := 84) rfl (hb hby at_80) (by decide) (by decide) ?_
            exact k
      · skip
        have ohc22 : ¬ ((bI (48 ≤ u.toInt ∧ u.toInt ≤ 57)).toInt = 0) := own_neq.mp hc22
        refine ⟨(1 : Int32), ?_, fun t k => pre23 t ?_⟩
        · exact own_c1 (by omega)
        · skip
          show Steps p.tables e below (s₁.setTop (mkF m 71 #[.val (.int p0), .val (.int u), .val (.int u), .val (.int f), .val (.int (bI (97 ≤ f.toInt ∧ f.toInt ≤ 122))), .val (.int (bI (48 ≤ u.toInt ∧ u.toInt ≤ 57))), .val (.int (bI (u.toInt = 95))), .unset] [(.int (bI (48 ≤ u.toInt ∧ u.toInt ≤ 57)))])) _
          refine XS.ifYes X0.here hx rfl (pc0 := 71) (pc' := 79) rfl (hb hby at_71) rfl ((if0 _ _).trans (feq hc22).2) (by decide) (by decide) ?_
          show Steps p.tables e below (s₁.setTop (mkF m 79 #[.val (.int p0), .val (.int u), .val (.int u), .val (.int f), .val (.int (bI (97 ≤ f.toInt ∧ f.toInt ≤ 122))), .val (.int (bI (48 ≤ u.toInt ∧ u.toInt ≤ 57))), .val (.int (bI (u.toInt = 95))), .unset] [])) _
          refine XS.iconst X0.here hx rfl (hb hby at_79) ?_
          show Steps p.tables e below (s₁.setTop (mkF m 80 #[.val (.int p0), .val (.int u), .val (.int u), .val (.int f), .val (.int (bI (97 ≤ f.toInt ∧ f.toInt ≤ 122))), .val (.int (bI (48 ≤ u.toInt ∧ u.toInt ≤ 57))), .val (.int (bI (u.toInt = 95))), .unset] [(.int (1 : Int32))])) _
          refine XS.goto X0.here hx rfl (pc0 := 80) (pc' := 84) rfl (hb hby at_80) (by decide) (by decide) ?_
          exact k
    · skip
      have ohc20 : ¬ ((bI (97 ≤ f.toInt ∧ f.toInt ≤ 122)).toInt = 0) := own_neq.mp hc20
      refine ⟨(1 : Int32), ?_, fun t k => pre21 t ?_⟩
      · exact own_c1 (by omega)
      · skip
        show Steps p.tables e below (s₁.setTop (mkF m 66 #[.val (.int p0), .val (.int u), .val (.int u), .val (.int f), .val (.int (bI (97 ≤ f.toInt ∧ f.toInt ≤ 122))), .val (.int (bI (48 ≤ u.toInt ∧ u.toInt ≤ 57))), .val (.int (bI (u.toInt = 95))), .unset] [(.int (bI (97 ≤ f.toInt ∧ f.toInt ≤ 122)))])) _
        refine XS.ifYes X0.here hx rfl (pc0 := 66) (pc' := 79) rfl (hb hby at_66) rfl ((if0 _ _).trans (feq hc20).2) (by decide) (by decide) ?_
        show Steps p.tables e below (s₁.setTop (mkF m 79 #[.val (.int p0), .val (.int u), .val (.int u), .val (.int f), .val (.int (bI (97 ≤ f.toInt ∧ f.toInt ≤ 122))), .val (.int (bI (48 ≤ u.toInt ∧ u.toInt ≤ 57))), .val (.int (bI (u.toInt = 95))), .unset] [])) _
        refine XS.iconst X0.here hx rfl (hb hby at_79) ?_
        show Steps p.tables e below (s₁.setTop (mkF m 80 #[.val (.int p0), .val (.int u), .val (.int u), .val (.int f), .val (.int (bI (97 ≤ f.toInt ∧ f.toInt ≤ 122))), .val (.int (bI (48 ≤ u.toInt ∧ u.toInt ≤ 57))), .val (.int (bI (u.toInt = 95))), .unset] [(.int (1 : Int32))])) _
        refine XS.goto X0.here hx rfl (pc0 := 80) (pc' := 84) rfl (hb hby at_80) (by decide) (by decide) ?_
        exact k
  have tvx := own_bt (P := (97 ≤ f.toInt ∧ f.toInt ≤ 122) ∨ (48 ≤ u.toInt ∧ u.toInt ≤ 57) ∨ u.toInt = 95)
  obtain ⟨_, _, ⟨T26, L26, k26, n26⟩, -, X26, ⟨Lc26, hQ26, l26, y26, z26⟩, st26⟩ := Jvm.LawKit.callS X0 hx (y := (⟨"com/example/orql/orql/Syntax", "isWordChar", "(C)Z"⟩ : MethodName)) hown (mvT hZ (hw _ (List.mem_of_getElem? (i := 1) rfl))) (mvT hZ (hw _ (List.mem_of_getElem? (i := 2) rfl))) (mvT hZ (hw _ (List.mem_of_getElem? (i := 3) rfl))) (mvT hZ (hw _ (List.mem_of_getElem? (i := 4) rfl))) (by decide) (backOf (W := 0) (rm1 l Z a0 hw [] u  h0 n0 Z0 ) hZ (hw _ (List.mem_of_getElem? (i := 4) rfl)) (hw _ (List.mem_of_getElem? (i := 3) rfl)) (by decide) (by decide)) (g := (mkF m 87 #[.val (.int p0), .val (.int u), .val (.int u), .val (.int f), .val (.int (bI (97 ≤ f.toInt ∧ f.toInt ≤ 122))), .val (.int (bI (48 ≤ u.toInt ∧ u.toInt ≤ 57))), .val (.int (bI (u.toInt = 95))), .val (.int (bI ((97 ≤ f.toInt ∧ f.toInt ≤ 122) ∨ (48 ≤ u.toInt ∧ u.toInt ≤ 57) ∨ u.toInt = 95)))] [(.int u)])) rfl (by rw [hml]; rfl) (argsL := [(.int u)]) (rest := []) (lenOf pd_0 rfl) rfl (by show 2 * 0 + _ ≤ _; exact Nat.le_of_eq rfl) (hb hby at_87) (fun _ _ => ⟨rfl, e0, (by decide : 0 + 0 ≤ _), (by decide : 0 + 0 ≤ _)⟩)
  dsimp only [Pt.U, Pt.locs, Pt.cells, Pt.slots] at X26 l26 y26 z26 st26 hQ26
  subst l26 y26 z26
  obtain ⟨rfl, Nq26, e26⟩ := hQ26
  have N26 := Fr.app N0 Nq26
  have t26 := own_bt (P := (97 ≤ u.toInt ∧ u.toInt ≤ 122) ∨ (65 ≤ u.toInt ∧ u.toInt ≤ 90) ∨ (48 ≤ u.toInt ∧ u.toInt ≤ 57) ∨ u.toInt = 95)
  have hc27 : (bI ((97 ≤ u.toInt ∧ u.toInt ≤ 122) ∨ (65 ≤ u.toInt ∧ u.toInt ≤ 90) ∨ (48 ≤ u.toInt ∧ u.toInt ≤ 57) ∨ u.toInt = 95)) = (bI ((97 ≤ f.toInt ∧ f.toInt ≤ 122) ∨ (48 ≤ u.toInt ∧ u.toInt ≤ 57) ∨ u.toInt = 95)) := own_eq.mpr (by omega)
  have ohc27 : (bI ((97 ≤ u.toInt ∧ u.toInt ≤ 122) ∨ (65 ≤ u.toInt ∧ u.toInt ≤ 90) ∨ (48 ≤ u.toInt ∧ u.toInt ≤ 57) ∨ u.toInt = 95)).toInt = (bI ((97 ≤ f.toInt ∧ f.toInt ≤ 122) ∨ (48 ≤ u.toInt ∧ u.toInt ≤ 57) ∨ u.toInt = 95)).toInt := own_eq.mp hc27
  obtain ⟨fs, hr, hrun, hended, hW, hsame⟩ := X26.leave (v := some (.int (1 : Int32))) (fun h => by rw [Bd.returns] at h; cases h)
  refine ⟨_, _, pre0 _ (pre19 _ ?_), hrun, hended, _, _, rfl, ?_, ⟨_, rfl⟩, hW, hsame.mono (by decide) (by decide)⟩
  · skip
    show Steps p.tables e below (s₁.setTop (mkF m 84 #[.val (.int p0), .val (.int u), .val (.int u), .val (.int f), .val (.int (bI (97 ≤ f.toInt ∧ f.toInt ≤ 122))), .val (.int (bI (48 ≤ u.toInt ∧ u.toInt ≤ 57))), .val (.int (bI (u.toInt = 95))), .unset] [(.int (bI ((97 ≤ f.toInt ∧ f.toInt ≤ 122) ∨ (48 ≤ u.toInt ∧ u.toInt ≤ 57) ∨ u.toInt = 95)))])) _
    refine XS.istore X0.here hx rfl (hb hby at_84) rfl (l' := #[.val (.int p0), .val (.int u), .val (.int u), .val (.int f), .val (.int (bI (97 ≤ f.toInt ∧ f.toInt ≤ 122))), .val (.int (bI (48 ≤ u.toInt ∧ u.toInt ≤ 57))), .val (.int (bI (u.toInt = 95))), .val (.int (bI ((97 ≤ f.toInt ∧ f.toInt ≤ 122) ∨ (48 ≤ u.toInt ∧ u.toInt ≤ 57) ∨ u.toInt = 95)))]) rfl ?_
    show Steps p.tables e below (s₁.setTop (mkF m 86 #[.val (.int p0), .val (.int u), .val (.int u), .val (.int f), .val (.int (bI (97 ≤ f.toInt ∧ f.toInt ≤ 122))), .val (.int (bI (48 ≤ u.toInt ∧ u.toInt ≤ 57))), .val (.int (bI (u.toInt = 95))), .val (.int (bI ((97 ≤ f.toInt ∧ f.toInt ≤ 122) ∨ (48 ≤ u.toInt ∧ u.toInt ≤ 57) ∨ u.toInt = 95)))] [])) _
    refine XS.iloadN X0.here hx rfl (hb hby at_86) rfl ?_
    show Steps p.tables e below (s₁.setTop (mkF m 87 #[.val (.int p0), .val (.int u), .val (.int u), .val (.int f), .val (.int (bI (97 ≤ f.toInt ∧ f.toInt ≤ 122))), .val (.int (bI (48 ≤ u.toInt ∧ u.toInt ≤ 57))), .val (.int (bI (u.toInt = 95))), .val (.int (bI ((97 ≤ f.toInt ∧ f.toInt ≤ 122) ∨ (48 ≤ u.toInt ∧ u.toInt ≤ 57) ∨ u.toInt = 95)))] [(.int u)])) _
    refine st26 _ ?_
    show Steps p.tables e below (T26.setTop (mkF m 90 #[.val (.int p0), .val (.int u), .val (.int u), .val (.int f), .val (.int (bI (97 ≤ f.toInt ∧ f.toInt ≤ 122))), .val (.int (bI (48 ≤ u.toInt ∧ u.toInt ≤ 57))), .val (.int (bI (u.toInt = 95))), .val (.int (bI ((97 ≤ f.toInt ∧ f.toInt ≤ 122) ∨ (48 ≤ u.toInt ∧ u.toInt ≤ 57) ∨ u.toInt = 95)))] [(.int (bI ((97 ≤ u.toInt ∧ u.toInt ≤ 122) ∨ (65 ≤ u.toInt ∧ u.toInt ≤ 90) ∨ (48 ≤ u.toInt ∧ u.toInt ≤ 57) ∨ u.toInt = 95)))])) _
    refine XS.iload X26.here hx rfl (hb hby at_90) rfl ?_
    show Steps p.tables e below (T26.setTop (mkF m 92 #[.val (.int p0), .val (.int u), .val (.int u), .val (.int f), .val (.int (bI (97 ≤ f.toInt ∧ f.toInt ≤ 122))), .val (.int (bI (48 ≤ u.toInt ∧ u.toInt ≤ 57))), .val (.int (bI (u.toInt = 95))), .val (.int (bI ((97 ≤ f.toInt ∧ f.toInt ≤ 122) ∨ (48 ≤ u.toInt ∧ u.toInt ≤ 57) ∨ u.toInt = 95)))] [(.int (bI ((97 ≤ f.toInt ∧ f.toInt ≤ 122) ∨ (48 ≤ u.toInt ∧ u.toInt ≤ 57) ∨ u.toInt = 95))), (.int (bI ((97 ≤ u.toInt ∧ u.toInt ≤ 122) ∨ (65 ≤ u.toInt ∧ u.toInt ≤ 90) ∨ (48 ≤ u.toInt ∧ u.toInt ≤ 57) ∨ u.toInt = 95)))])) _
    refine XS.icmpNo X26.here hx rfl (hb hby at_92) rfl (teq hc27).2 ?_
    show Steps p.tables e below (T26.setTop (mkF m 95 #[.val (.int p0), .val (.int u), .val (.int u), .val (.int f), .val (.int (bI (97 ≤ f.toInt ∧ f.toInt ≤ 122))), .val (.int (bI (48 ≤ u.toInt ∧ u.toInt ≤ 57))), .val (.int (bI (u.toInt = 95))), .val (.int (bI ((97 ≤ f.toInt ∧ f.toInt ≤ 122) ∨ (48 ≤ u.toInt ∧ u.toInt ≤ 57) ∨ u.toInt = 95)))] [])) _
    refine XS.iconst X26.here hx rfl (hb hby at_95) ?_
    show Steps p.tables e below (T26.setTop (mkF m 96 #[.val (.int p0), .val (.int u), .val (.int u), .val (.int f), .val (.int (bI (97 ≤ f.toInt ∧ f.toInt ≤ 122))), .val (.int (bI (48 ≤ u.toInt ∧ u.toInt ≤ 57))), .val (.int (bI (u.toInt = 95))), .val (.int (bI ((97 ≤ f.toInt ∧ f.toInt ≤ 122) ∨ (48 ≤ u.toInt ∧ u.toInt ≤ 57) ∨ u.toInt = 95)))] [(.int (1 : Int32))])) _
    refine XS.goto X26.here hx rfl (pc0 := 96) (pc' := 100) rfl (hb hby at_96) (by decide) (by decide) ?_
    show Steps p.tables e below (T26.setTop (mkF m 100 #[.val (.int p0), .val (.int u), .val (.int u), .val (.int f), .val (.int (bI (97 ≤ f.toInt ∧ f.toInt ≤ 122))), .val (.int (bI (48 ≤ u.toInt ∧ u.toInt ≤ 57))), .val (.int (bI (u.toInt = 95))), .val (.int (bI ((97 ≤ f.toInt ∧ f.toInt ≤ 122) ∨ (48 ≤ u.toInt ∧ u.toInt ≤ 57) ∨ u.toInt = 95)))] [(.int (1 : Int32))])) _
    exact retN X26 hx (t := .boolean) Bd.returns (by simp) (hb hby at_100) hr
  · show Q0 Z p0 h0 n0 _ T26.heap _
    rw [e26]
    exact ⟨rfl, N26⟩
set_option maxRecDepth 65536 in
set_option maxHeartbeats 40000000 in
theorem comes_1 {Post : Tables → Env → Array Value → State → Outcome → State → Prop} (hpost : ∀ tb e args s v u, (limb_1_1.after args s (.returned v) u = true ∧ limb_1_2.after args s (.returned v) u = true ∧ True) → FrameEnd s (.returned v) u (Jvm.fieldLocs frame_1_writes args s ++ Jvm.arrayLocs frame_1_arrays args s ++ Jvm.staticLocs frame_1_statics s) 0 0 → Post tb e args s (.returned v) u) :
    ArmFor flags0 classFile x code maxLocals ret World_1 tables_1 room_1 Calls_1 rest_1 Pre_1 Post := by
  intro l hfl _ _ p e ha hc hk s m args below hf hA hF happ hP
  obtain ⟨hcalls, hrest, hpre⟩ := hP
  obtain ⟨-, -, -, hnamed, -, -, -, hat⟩ := (Spec.applies_iff hf).mp happ
  obtain ⟨hg, hn⟩ := and_e (Cond.before_iff.mp (show (Jvm.Cond.and given_1 narrow_1).before args s = true from hpre))
  obtain ⟨g1, g2⟩ := and_e hg
  obtain ⟨w0, rfl⟩ : ∃ w0 : Value, args = #[w0] := by
    have hs : args.size = 1 := by simpa [Cond.value, given_1] using g1
    obtain ⟨L⟩ := args
    match L, hs with
    | [w0], _ => exact ⟨w0, rfl⟩
  have hw := fun d (hd : d ∈ tables_1) => atoms_spec (ws := Jvm.Cond.code x code maxLocals ret :: tables_1) hat d (List.mem_cons_of_mem _ hd)
  have hfit : Fit s := fun {y c} hc i hi => by
    obtain ⟨ha, rfl⟩ := Array.getElem?_eq_some_iff.mp hc
    have q := List.all_eq_true.mp ((Array.all_eq_true_iff_forall_mem.mp hF) _ (Array.getElem_mem ha)) i (List.mem_range.mpr hi)
    simpa [Array.getElem?_eq_getElem hi] using q
  obtain ⟨i0, ei0⟩ := is_v g2
  obtain rfl : w0 = (.int i0) := Option.some.inj ei0
  obtain ⟨n, o, h1, h2, h3, _, L, rfl, ⟨rfl, N⟩, hq⟩ := rm0 l s _ hw tables_1 i0  s.heap s.heap.size (Nat.le_refl _)  p e ha hc hk s m _ below hf ((Spec.applies_iff_loose hf).mp happ).1 ⟨rfl, State.Warmed39.refl s, rfl⟩ trivial
  refine ⟨n, _, h1, h2, h3, hpost _ _ _ _ _ _ ⟨Cond.after_iff.mpr rfl, Cond.after_iff.mpr (eq_i res_at (Term.int_eval (1)) rfl), trivial⟩ ⟨hq.1, hq.2.1, (hq.2.2.sift fun y hy => Or.inr (N y hy)).mono (by decide) (by decide)⟩⟩
theorem main_1_1 : Claimed_1_1 := comes_1 fun _ _ _ _ _ _ h hF => ⟨h.1, hF⟩
theorem main_1_2 : Claimed_1_2 := comes_1 fun _ _ _ _ _ _ h hF => ⟨h.2.1, hF⟩
end Jvm.Pilot.@@N@@
namespace Jvm.Pilot.@@N@@
open Jvm Jvm.ClassFile Sem Op Lib Jvm.Free Jvm.Stand Jvm.Pilot.@@N@@.Jvm.D
/-! MADE BY PROGRAM (witnessworld.py) out of the Statement's table words and the real class files: 9 classes; the members and pool entries that the words name. The judged class is class 1, her method 1. -/
namespace start1
open Jvm.ClassFile
def u (s : String) : CpInfo := .utf8 (stringToUtf16 s)
/-- a pool by its gaps: so many unusable entries, then the entry; so many at the end -/
def gap : Nat → List CpInfo → List CpInfo
  | 0, r => r
  | n + 1, r => .unusable :: gap n r
def poolList (es : List (Nat × CpInfo)) (last : Nat) : List CpInfo := es.foldr (fun e r => gap e.1 (e.2 :: r)) (gap last [])
def pool (es : List (Nat × CpInfo)) (last : Nat) : Array CpInfo := ⟨poolList es last⟩
def fileOf (pool : Array CpInfo) (this : Nat) (attrs : Array Attribute := #[]) (ms : Array MethodInfo := #[]) (fl : Nat := 33) (sup : Nat := 0) (ifs : Array Nat := #[]) (fds : Array FieldInfo := #[]) : ClassFile where
  minorVersion := 0
  majorVersion := 65
  constantPool := pool
  accessFlags := fl
  thisClass := this
  superClass := sup
  interfaces := ifs
  fields := fds
  methods := ms
  attributes := attrs
def plain (name : String) (sup : Option ClassId) : Class where
  name := name
  kind := .ordinary
  loader := none
  accessFlags := 33
  super := sup
  interfaces := #[]
  cf := none
  fields := #[]
  methods := #[]
  instanceTypes := #[]
  staticTypes := #[]
  resolved := #[]
  callSites := []
  init := .initialized
  statics := none
  mirror := none

def pool0 : Array CpInfo := pool [(5, u "<init>"), (0, u "()V"), (1, .class_ 10), (1, u "java/lang/Object")] 113

def k0m0 : Method := { name := "<init>", desc := "()V", sig := { parameters := [], returnType := none }, accessFlags := 1, code := none }
/-- java/lang/Object -/
def k0 : Class := { plain "java/lang/Object" none with
  accessFlags := 33
  interfaces := #[]
  cf := some (fileOf pool0 8 #[] #[{ accessFlags := 1, nameIndex := 5, descriptorIndex := 6, attributes := #[] }] 33 0 #[] #[])
  fields := #[]
  methods := #[k0m0]
  instanceTypes := #[]
  staticTypes := #[]
  resolved := Array.replicate 124 none
  statics := none }

def pool1 : Array CpInfo := pool [(2, .class_ 4), (1, u "java/lang/Object"), (0, u "<init>"), (0, u "()V"), (0, .integer 65535), (0, .methodref 9 10), (0, .class_ 11), (0, .nameAndType 12 13), (0, u "com/example/orql/orql/Syntax"), (0, u "isWordChar"), (0, u "(C)Z"), (0, .class_ 15), (0, u "com/example/orql/orql/SyntaxIsWordCharPinLaw"), (2, u "law"), (0, u "(I)Z")] 3

def k1m0 : Method := { name := "<init>", desc := "()V", sig := { parameters := [], returnType := none }, accessFlags := 2, code := none }
def k1c1 : Code := { maxStack := 2, maxLocals := 8, code := code, exceptionTable := #[], attributes := #[] }
def k1m1 : Method := { name := "law", desc := "(I)Z", sig := { parameters := [.int], returnType := some .boolean }, accessFlags := 9, code := some k1c1 }
/-- com/example/orql/orql/SyntaxIsWordCharPinLaw -/
def k1 : Class := { plain "com/example/orql/orql/SyntaxIsWordCharPinLaw" (some 0) with
  accessFlags := 49
  interfaces := #[]
  cf := some (fileOf pool1 14 #[] #[{ accessFlags := 2, nameIndex := 5, descriptorIndex := 6, attributes := #[] }, { accessFlags := 9, nameIndex := 18, descriptorIndex := 19, attributes := #[] }] 49 2 #[] #[])
  fields := #[]
  methods := #[k1m0, k1m1]
  instanceTypes := #[]
  staticTypes := #[]
  resolved := Array.replicate 23 none
  statics := none }

def pool2 : Array CpInfo := pool [(2, .class_ 4), (1, u "java/lang/Object"), (0, u "<init>"), (0, u "()V"), (0, .methodref 8 9), (0, .class_ 10), (0, .nameAndType 11 12), (0, u "com/example/orql/orql/Syntax"), (0, u "isLowerCase"), (0, u "(C)Z"), (0, .methodref 8 14), (0, .nameAndType 15 12), (0, u "isUpperCase"), (0, .methodref 8 17), (0, .nameAndType 18 12), (0, u "isDigit"), (20, u "isWordChar")] 8

def k2m0 : Method := { name := "<init>", desc := "()V", sig := { parameters := [], returnType := none }, accessFlags := 2, code := none }
def k2c1 : Code := { maxStack := 2, maxLocals := 1, code := prog_38_method_2_code, exceptionTable := #[], attributes := #[] }
def k2m1 : Method := { name := "isWordChar", desc := "(C)Z", sig := { parameters := [.char], returnType := some .boolean }, accessFlags := 8, code := some k2c1 }
def k2c2 : Code := { maxStack := 2, maxLocals := 1, code := prog_38_method_7_code, exceptionTable := #[], attributes := #[] }
def k2m2 : Method := { name := "isLowerCase", desc := "(C)Z", sig := { parameters := [.char], returnType := some .boolean }, accessFlags := 10, code := some k2c2 }
def k2c3 : Code := { maxStack := 2, maxLocals := 1, code := prog_38_method_8_code, exceptionTable := #[], attributes := #[] }
def k2m3 : Method := { name := "isUpperCase", desc := "(C)Z", sig := { parameters := [.char], returnType := some .boolean }, accessFlags := 10, code := some k2c3 }
def k2c4 : Code := { maxStack := 2, maxLocals := 1, code := prog_38_method_9_code, exceptionTable := #[], attributes := #[] }
def k2m4 : Method := { name := "isDigit", desc := "(C)Z", sig := { parameters := [.char], returnType := some .boolean }, accessFlags := 10, code := some k2c4 }
/-- com/example/orql/orql/Syntax -/
def k2 : Class := { plain "com/example/orql/orql/Syntax" (some 0) with
  accessFlags := 32
  interfaces := #[]
  cf := some (fileOf pool2 8 #[] #[{ accessFlags := 2, nameIndex := 5, descriptorIndex := 6, attributes := #[] }, { accessFlags := 8, nameIndex := 39, descriptorIndex := 12, attributes := #[] }, { accessFlags := 10, nameIndex := 11, descriptorIndex := 12, attributes := #[] }, { accessFlags := 10, nameIndex := 15, descriptorIndex := 12, attributes := #[] }, { accessFlags := 10, nameIndex := 18, descriptorIndex := 12, attributes := #[] }] 32 2 #[] #[])
  fields := #[]
  methods := #[k2m0, k2m1, k2m2, k2m3, k2m4]
  instanceTypes := #[]
  staticTypes := #[]
  resolved := Array.replicate 48 none
  statics := none }

def pool3 : Array CpInfo := pool [(1, u "java/lang/Cloneable"), (0, .class_ 1), (0, u "java/lang/Object"), (0, .class_ 3)] 3

/-- java/lang/Cloneable -/
def k3 : Class := { plain "java/lang/Cloneable" (some 0) with
  accessFlags := 1537
  interfaces := #[]
  cf := some (fileOf pool3 2 #[] #[] 1537 4 #[] #[])
  fields := #[]
  methods := #[]
  instanceTypes := #[]
  staticTypes := #[]
  resolved := Array.replicate 8 none
  statics := none }

def pool4 : Array CpInfo := pool [(1, u "java/io/Serializable"), (0, .class_ 1), (0, u "java/lang/Object"), (0, .class_ 3)] 3

/-- java/io/Serializable -/
def k4 : Class := { plain "java/io/Serializable" (some 0) with
  accessFlags := 1537
  interfaces := #[]
  cf := some (fileOf pool4 2 #[] #[] 1537 4 #[] #[])
  fields := #[]
  methods := #[]
  instanceTypes := #[]
  staticTypes := #[]
  resolved := Array.replicate 8 none
  statics := none }

/-- the primitive byte -/
def k5 : Class := { plain "byte" none with kind := .primitive 'B', accessFlags := 0x411 }
/-- [B -/
def k6 : Class := { plain "[B" (some 0) with kind := .array 5 .byte, interfaces := #[3, 4], accessFlags := 1041 }

/-- the primitive int -/
def k7 : Class := { plain "int" none with kind := .primitive 'I', accessFlags := 0x411 }
/-- [I -/
def k8 : Class := { plain "[I" (some 0) with kind := .array 7 .int, interfaces := #[3, 4], accessFlags := 1041 }

def heap : Heap := #[]
def classes : Array Class := #[k0, k1, k2, k3, k4, k5, k6, k7, k8]
def interned : List (Array UInt16 × Addr) := []
def slotsUsed : Nat := 0
def theMethod : MethodId := ⟨1, 1⟩
def args0 : Array Value := #[.int 5]
def aboutOver (below : List Frame) : State where
  vm := { classes := classes, interned := interned.toArray }
  heap := heap
  slotsUsed := slotsUsed
  threads := #[{ frames := .invoking theMethod args0 :: below }]
def below0 : List Frame := [.native { method := ⟨0, 0⟩, args := #[] }]
def about1 : State := aboutOver below0
def p0 : Program := .bare "" "" ""
def e0 : Env := launch0.env 0 0 0
theorem w_frames : about1.frames = Frame.invoking theMethod args0 :: below0 := rfl
set_option maxRecDepth 65536 in
theorem w_args : argsFit about1.vm theMethod args0 = true := by decide +kernel
set_option maxRecDepth 65536 in
theorem w_heap : heapFits about1 = true := by decide +kernel
set_option maxRecDepth 65536 in
theorem w_runnable : about1.curStatus? = some .runnable := by decide +kernel
set_option maxRecDepth 65536 in
theorem w_alone : about1.alone = true := by decide +kernel
set_option maxRecDepth 65536 in
theorem w_named : about1.methodNamed? x = some theMethod := by decide +kernel
set_option maxRecDepth 65536 in
theorem w_hears : about1.hears theMethod below0 = true := by decide +kernel
set_option maxRecDepth 65536 in
theorem w_ripe : about1.ripe theMethod args0 below0 = true := by decide +kernel
theorem w_running : about1.status = .running := rfl
set_option maxRecDepth 65536 in
theorem w_room : about1.hasRoom e0.platform room_1 = true :=
  launch0.hasRoom_least _ room_1 (by decide +kernel) (by decide +kernel) (by decide +kernel) (by decide +kernel) (by decide +kernel) (by decide +kernel)
theorem allAtoms_all (ts : List Jvm.Cond) (a : Array Jvm.Value) (st : Jvm.State) : (allAtoms ts).before a st = ts.all (fun c => c.before a st) := by
  induction ts with
  | nil => rfl
  | cons c t ih =>
    show (Jvm.Cond.and c (allAtoms t)).before a st = _
    rw [Jvm.Cond.before_and, ih, List.all_cons]
def words1 : List Jvm.Cond := Jvm.Cond.code x code maxLocals ret :: tables_1
/-- a 'code' word, met by the world's own term for the bytes: nothing is compared byte by byte -/
theorem code_word {y : MethodName} {bytes : ByteArray} {mx : Nat} {rt : Option FieldType} {a : Array Value} {s : State} {m : MethodId} {meth : Method} {c : Code} (h1 : s.methodNamed? y = some m) (h2 : s.vm.method? m = some meth) (h3 : meth.code = some c) (h4 : c.code = bytes)
    (h5 : (c.maxLocals == mx && c.exceptionTable.isEmpty && decide (c.maxStack ≤ mostOperands) && decide (meth.sig.returnType = rt) && !meth.locks && decide (parseMethodDescriptor y.desc = some meth.sig)) = true) : (Jvm.Cond.code y bytes mx rt).before a s = true := by
  simp only [Bool.and_eq_true, beq_iff_eq, Bool.not_eq_true', decide_eq_true_eq] at h5
  obtain ⟨⟨⟨⟨⟨g1, g2⟩, g3⟩, g4⟩, g5⟩, g6⟩ := h5
  simp [Cond.before, Cond.holds, Cond.value, h1, h2, h3, h4, g1, g2, g3, g4, g5, g6]
def isCode : Jvm.Cond → Bool
  | .code _ _ _ _ => true
  | _ => false
theorem all_split {L : List Jvm.Cond} {P : Jvm.Cond → Bool} (h1 : L.all (fun c => isCode c || P c) = true) (h2 : ∀ c ∈ L.filter isCode, P c = true) : L.all P = true := by
  refine List.all_eq_true.mpr fun c hc => ?_
  have h := List.all_eq_true.mp h1 c hc
  rcases Bool.eq_false_or_eq_true (isCode c) with hi | hi
  · exact h2 c (List.mem_filter.mpr ⟨hc, hi⟩)
  · simpa [hi] using h
set_option maxRecDepth 65536 in
theorem w_c0 : (Jvm.Cond.code x code maxLocals ret).before args0 about1 = true := code_word (m := ⟨1, 1⟩) (meth := k1m1) (c := k1c1) (by decide +kernel) rfl rfl rfl (by decide +kernel)
set_option maxRecDepth 65536 in
theorem w_c1 : (Jvm.Cond.code ({ cls := "com/example/orql/orql/Syntax", name := "isWordChar", desc := "(C)Z" } : Jvm.MethodName) prog_38_method_2_code (1 : Nat) (Option.some Jvm.ClassFile.FieldType.boolean)).before args0 about1 = true := code_word (m := ⟨2, 1⟩) (meth := k2m1) (c := k2c1) (by decide +kernel) rfl rfl rfl (by decide +kernel)
set_option maxRecDepth 65536 in
theorem w_c2 : (Jvm.Cond.code ({ cls := "com/example/orql/orql/Syntax", name := "isLowerCase", desc := "(C)Z" } : Jvm.MethodName) prog_38_method_7_code (1 : Nat) (Option.some Jvm.ClassFile.FieldType.boolean)).before args0 about1 = true := code_word (m := ⟨2, 2⟩) (meth := k2m2) (c := k2c2) (by decide +kernel) rfl rfl rfl (by decide +kernel)
set_option maxRecDepth 65536 in
theorem w_c3 : (Jvm.Cond.code ({ cls := "com/example/orql/orql/Syntax", name := "isUpperCase", desc := "(C)Z" } : Jvm.MethodName) prog_38_method_8_code (1 : Nat) (Option.some Jvm.ClassFile.FieldType.boolean)).before args0 about1 = true := code_word (m := ⟨2, 3⟩) (meth := k2m3) (c := k2c3) (by decide +kernel) rfl rfl rfl (by decide +kernel)
set_option maxRecDepth 65536 in
theorem w_c4 : (Jvm.Cond.code ({ cls := "com/example/orql/orql/Syntax", name := "isDigit", desc := "(C)Z" } : Jvm.MethodName) prog_38_method_9_code (1 : Nat) (Option.some Jvm.ClassFile.FieldType.boolean)).before args0 about1 = true := code_word (m := ⟨2, 4⟩) (meth := k2m4) (c := k2c4) (by decide +kernel) rfl rfl rfl (by decide +kernel)
def codes1 : List Jvm.Cond := [Jvm.Cond.code x code maxLocals ret, Jvm.Cond.code ({ cls := "com/example/orql/orql/Syntax", name := "isWordChar", desc := "(C)Z" } : Jvm.MethodName) prog_38_method_2_code (1 : Nat) (Option.some Jvm.ClassFile.FieldType.boolean), Jvm.Cond.code ({ cls := "com/example/orql/orql/Syntax", name := "isLowerCase", desc := "(C)Z" } : Jvm.MethodName) prog_38_method_7_code (1 : Nat) (Option.some Jvm.ClassFile.FieldType.boolean), Jvm.Cond.code ({ cls := "com/example/orql/orql/Syntax", name := "isUpperCase", desc := "(C)Z" } : Jvm.MethodName) prog_38_method_8_code (1 : Nat) (Option.some Jvm.ClassFile.FieldType.boolean), Jvm.Cond.code ({ cls := "com/example/orql/orql/Syntax", name := "isDigit", desc := "(C)Z" } : Jvm.MethodName) prog_38_method_9_code (1 : Nat) (Option.some Jvm.ClassFile.FieldType.boolean)]
set_option maxRecDepth 65536 in
theorem codes_eq : words1.filter isCode = codes1 := rfl
theorem w_codes : ∀ c ∈ words1.filter isCode, c.before args0 about1 = true := by
  rw [codes_eq]
  intro c hc
  simp only [codes1, List.mem_cons, List.not_mem_nil, or_false] at hc
  rcases hc with rfl | rfl | rfl | rfl | rfl
  · exact w_c0
  · exact w_c1
  · exact w_c2
  · exact w_c3
  · exact w_c4
set_option maxRecDepth 65536 in
theorem w_t1 : words1.all (fun c => isCode c || c.before args0 about1) = true := by decide +kernel
theorem w_tables : (allAtoms (Jvm.Cond.code x code maxLocals ret :: tables_1)).before args0 about1 = true := by
  rw [allAtoms_all]
  show words1.all (fun c => c.before args0 about1) = true
  refine all_split ?_ w_codes
  rw [w_t1]
set_option maxRecDepth 65536 in
theorem w_case : (Jvm.Cond.and given_1 narrow_1).before args0 about1 = true := by decide +kernel
theorem w_applies : (headSpec (Jvm.Cond.code x code maxLocals ret :: tables_1) room_1).applies x e0.platform about1 = true :=
  (Spec.applies_iff w_frames).mpr ⟨w_running, w_runnable, w_alone, w_named, w_hears, w_ripe, w_room, w_tables⟩
theorem atStart : AtStart classFile x code maxLocals ret World_1 tables_1 room_1 Calls_1 rest_1 Pre_1 launch0 p0 e0 about1 theMethod args0 below0 :=
  ⟨lists_1, trivial, launch0.admits_env _ _ _, launch0.least_env, fairChoices_fair.cas, fairChoices_fair.clock, w_frames, w_args, w_heap, w_applies, trivial, trivial, w_case⟩
end start1
theorem witness_1 : WitnessClaimed_1 := ⟨start1.p0, start1.e0, start1.about1, start1.theMethod, start1.args0, start1.below0, start1.atStart⟩
end Jvm.Pilot.@@N@@
