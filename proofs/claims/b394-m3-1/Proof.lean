import JvmDerived
import JvmDerived.Pilot.@@N@@Statement
import JvmDerived.Pilot.@@N@@Code
set_option linter.unusedVariables false
set_option linter.unusedSimpArgs false
namespace Jvm.RoadKit
open Sem ClassFile Op Lib Jvm.Stand Jvm.Free Jvm.LawKit
section New
variable {p : Program} {l : Launch} {e : Env} {R : Room} {s : State} {m : MethodId} {args : Array Value} {below : List Frame} {meth : Method} {c : Code} {T : State} {locs : List Loc} {cells slots : Nat}
theorem retI (X : Stand p l e R s m args below meth c T locs cells slots) (hx : p.tables.exec = Jvm.exec) {pc : Nat} {Ls : Array Slot} {z : Int32} {rest : List Value} (hret : meth.sig.returnType = some .int) (hd : decode c.code pc = .ok (.ireturn, 1)) {fs : List Frame}
    (hl : ∀ (f : JFrame) (acts : List Action), f.method = m → f.locked = none → f.entered = [] → (doReturn e (T.setTop f) acts (some (.int z))).1 = T.setFrames fs) : Steps p.tables e below (T.setTop (mkF m pc Ls (.int z :: rest))) (T.setFrames fs) := by
  have hm' : T.vm.method? m = some meth := X.method'
  have hn : narrow .int (.int z) = .int z := rfl
  show Steps p.tables e below (T.setTop { method := m, pc := pc, locals := Ls, stack := _ :: rest, locked := none }) _
  jvm_step X.here [X.here.top, hx, hd, hm', hret, hn]
  first | (intro acts; rw [hl _ acts rfl rfl rfl]) | rw [hl _ _ rfl rfl rfl]
  exact Steps.refl _
end New
end Jvm.RoadKit
namespace Jvm.Pilot.@@N@@
open Jvm Jvm.ClassFile Sem Op Lib Jvm.Free Jvm.Stand Jvm.LawKit Jvm.RoadKit Bundle Jvm.Pilot.@@N@@.Jvm.D
def bI (P : Prop) [Decidable P] : Int32 := if P then 1 else 0
theorem own_b1 {P : Prop} [Decidable P] (h : P) : some (Value.int (1 : Int32)) = some (Value.int (bI P)) := by rw [bI, if_pos h]
theorem own_b0 {P : Prop} [Decidable P] (h : ¬ P) : some (Value.int (0 : Int32)) = some (Value.int (bI P)) := by rw [bI, if_neg h]
theorem own_c1 {P : Prop} [Decidable P] (h : P) : (1 : Int32) = bI P := by rw [bI, if_pos h]
theorem own_c0 {P : Prop} [Decidable P] (h : ¬ P) : (0 : Int32) = bI P := by rw [bI, if_neg h]
theorem own_bI {P : Prop} [Decidable P] : (P ∧ bI P = 1) ∨ (¬ P ∧ bI P = 0) := by by_cases h : P <;> simp [bI, h]
theorem own_bt {P : Prop} [Decidable P] : (P ∧ (bI P).toInt = 1) ∨ (¬ P ∧ (bI P).toInt = 0) := by by_cases h : P <;> simp [bI, h]
theorem own_nar {P : Prop} [Decidable P] : nar .boolean (bI P) = bI P := by by_cases h : P <;> simp only [bI, h, if_true, if_false] <;> decide
theorem own_lt {a b : Int32} : a < b ↔ a.toInt < b.toInt := Int32.lt_iff_toInt_lt
theorem own_nlt {a b : Int32} : ¬ (a < b) ↔ b.toInt ≤ a.toInt := by rw [own_lt]; omega
theorem own_eq {a b : Int32} : a = b ↔ a.toInt = b.toInt := Int32.toInt_inj.symm
theorem own_neq {a b : Int32} : ¬ (a = b) ↔ ¬ (a.toInt = b.toInt) := by rw [own_eq]
theorem own_ltL {a b : Int64} : a < b ↔ a.toInt < b.toInt := Int64.lt_iff_toInt_lt
theorem own_eqL {a b : Int64} : a = b ↔ a.toInt = b.toInt := Int64.toInt_inj.symm
theorem own_sk {Z : State} {h h' : Heap} {C n d K : String} {v : Value} {b : Addr} (F : Sta Z h C n d v) (Kp : Keep h h' [b]) (E : Exa Z h b K) : Sta Z h' C n d v := by
  obtain ⟨cf, i, k, f, st, cell, h1, h2, h3, h4, h5, h6, h7⟩ := F
  refine ⟨cf, i, k, f, st, cell, h1, h2, h3, h4, Kp.2.1 st cell h5 (fun q => ?_), h6, h7⟩
  obtain ⟨cl, kk, e1, e2, e3, e4, e5⟩ := E
  have q' := List.mem_singleton.mp q
  subst q'
  rw [h5] at e1
  cases e1
  rw [h6] at e4
  cases e4
theorem own_eqI {t : Term} {k : Int32} {args : Array Value} {Z : State} (h : (Jvm.Cond.eq t (Term.int k)).value args Z none Z [] = some true) : t.eval args Z none [] Z = some (.int k) := by
  obtain ⟨x, y, hx, hy, K1, K2⟩ := cmp_v (Or.inl h)
  have hy' : y = .int k := by simpa [Term.eval] using hy.symm
  subst hy'
  obtain ⟨z, rfl⟩ := K2
  have q : z = k := by simpa [Jvm.Cond.value, hx, Term.eval] using h
  rw [hx, q]
theorem own_fldI {t : Term} {C n d : String} {k : Int32} {a : Addr} {args : Array Value} {Z : State} (ev : t.eval args Z none [] Z = some (.ref a)) (h : (Jvm.Cond.eq (Term.field t C n d) (Term.int k)).value args Z none Z [] = some true) : Z.fieldOf? a C n d = some (.int k) := by
  rw [← fld_at ev]; exact own_eqI h
theorem own_ford {C n d : String} {k k' : Int32} {a b : Addr} {Z : State} (h1 : Z.fieldOf? a C n d = some (.int k)) (h2 : Z.fieldOf? b C n d = some (.int k')) (hk : k ≠ k') : a ≠ b := fun q => by
  rw [q, h2] at h1
  exact hk (Value.int.inj (Option.some.inj h1)).symm
theorem own_s0 {Z : State} {h h' : Heap} {C n d : String} {v : Value} (F : Sta Z h C n d v) (Kp : Keep h h' []) : Sta Z h' C n d v := by
  obtain ⟨cf, i, k, f, st, cell, h1, h2, h3, h4, h5, h6, h7⟩ := F
  exact ⟨cf, i, k, f, st, cell, h1, h2, h3, h4, Kp.2.1 st cell h5 (by simp), h6, h7⟩
theorem own_a0 {Z : State} {h h' : Heap} {a : Addr} {c : Cell} {ty : FieldType} (A : Arr Z h a c ty) (Kp : Keep h h' []) : Arr Z h' a c ty := ⟨Kp.2.1 a c A.1 (by simp), A.2⟩
theorem own_f0 {Z : State} {h h' : Heap} {C n d : String} {a : Addr} {v : Value} (F : Fld Z h a C n d v) (Kp : Keep h h' []) : Fld Z h' a C n d v := F.keep Kp (by simp)
theorem own_no2 {Z : State} {a0 : Array Value} {C S O K : String} {n : Nat} (w1 : (Jvm.Cond.superclass C S).before a0 Z = true) (w2 : (Jvm.Cond.superclass S O).before a0 Z = true) (w3 : (Jvm.Cond.noSuperclass O).before a0 Z = true) (wk : (Jvm.Cond.instantiable K n).before a0 Z = true)
    (n1 : C ≠ K) (n2 : S ≠ K) (n3 : O ≠ K) : ∃ c t, Z.vm.findClass C = some c ∧ Z.vm.findClass K = some t ∧ Z.vm.assignable c t = false := by
  obtain ⟨t, kt, ht, hkt, ho, hi, -, -⟩ := Cond.instantiable_spec wk
  obtain ⟨cO, kO, hO, hkO, hs, -, -⟩ := Cond.noSuperclass_spec w3
  have neO := ids_ne hO ht n3
  have r0 : NS Z O K := ⟨cO, t, hO, ht, fun fuel => by cases fuel with
    | zero => rfl
    | succ f => simp [Vm.isSubclassAux, neO, hkO, hs]⟩
  obtain ⟨c, t', h0, g0, n3'⟩ := NS.step w1 (NS.step w2 r0 n2) n1
  cases ht.symm.trans g0
  obtain ⟨p, k, kp, h1, h2, h3, h4, h5, -, h7⟩ := Cond.superclass_spec h0 w1
  have ne := ids_ne h0 ht n1
  have hi' : kt.isInterface = false := by simp only [Bool.or_eq_false_iff] at hi; exact hi.1
  refine ⟨c, t, h0, ht, ?_⟩
  show Z.vm.assignableAux (255 + 1) c t = false
  simp [Vm.assignableAux, ne, h2, hkt, h5, ho, hi', Vm.isSubclass, n3']
theorem own_box {Z : State} {args : Array Value} {t : Term} {K : String} {X : Jvm.Cond} {a : Addr} {c : Cell} (et : ∀ idx, t.eval args Z none idx Z = some (.ref a)) (A : Arr Z Z.heap a c (.object K))
    (h : (Jvm.Cond.all t (.and (.exactly (.elem t (.index 0)) K) X)).value args Z none Z [] = some true) (j : Int32) (hj : ¬ (j < 0 ∨ c.slots.size ≤ j.toNatClampNeg)) : ∃ b : Addr, c.slots[j.toNatClampNeg]? = some (.ref b) ∧ Exa Z Z.heap b K := by
  have nn : ¬ j < 0 := fun x => hj (Or.inl x)
  have u := (and_e (Cond.all_elim (et []) (A.fin (Vm.Alike.refl _)) h j.toNatClampNeg (Nat.lt_of_not_le fun x => hj (Or.inr x)))).1
  obtain ⟨box, eb⟩ := exa_v u
  exact ⟨box, (elem_f (et _) (idx_at nn) (A.fin (Vm.Alike.refl _)) nn).symm.trans eb, exa_at eb u⟩
theorem own_len {Z : State} {args : Array Value} {t : Term} {a : Addr} {c : Cell} {ty : FieldType} {z : Int32} (ev : t.eval args Z none [] Z = some (.ref a)) (A : Arr Z Z.heap a c ty) (h : (Term.length t).eval args Z none [] Z = some (.int z)) : c.slots.size < 2 ^ 31 ∧ c.slots.size.toInt32 = z := by
  have ha := A.fin (Vm.Alike.refl _)
  simpa [Term.eval, ev, ha] using h
theorem own_size {c : Cell} {z : Int32} {n : Nat} (h : c.slots.size < 2 ^ 31 ∧ c.slots.size.toInt32 = z) (hz : z.toInt = n) : c.slots.size = n := by
  have q := len_toInt h.1
  rw [h.2] at q
  omega
theorem own_eqR {t u : Term} {b : Addr} {args : Array Value} {Z : State} (hu : u.eval args Z none [] Z = some (.ref b)) (h : (Jvm.Cond.eq t u).value args Z none Z [] = some true) : t.eval args Z none [] Z = some (.ref b) := by
  obtain ⟨x, y, hx, hy, K1, K2⟩ := cmp_v (Or.inl h)
  cases hu.symm.trans hy
  have hr : x.isRef = true := K2.2
  have e := eq_R hx hu hr rfl
  rw [h] at e
  rw [hx, of_decide_eq_true (Option.some.inj e).symm]
theorem own_rew {s t : State} {o : Outcome} {L : List Loc} {k n k' n' : Nat} (h : ReturnedEndW s o t L k n) (hk : k ≤ k') (hn : n ≤ n') : ReturnedEndW s o t L k' n' := ⟨h.1, h.2.1, h.2.2.1, h.2.2.2.mono hk hn⟩
theorem own_m31 (x : Int32) : (x &&& (2147483647 : Int32)).toInt = x.toInt % 2147483648 := c_mask x (2147483647 : Int32) 31 (by decide) (by decide)
theorem own_mrem (x y : Int32) (d : Int) (hy : y.toInt = d) : ((x &&& (2147483647 : Int32)) % y).toInt = (x.toInt % 2147483648) % d := by
  have h := own_m31 x
  rw [(c_irem _ y d hy).1 (by omega), h]
theorem ef_1 (m : MethodId) (x0 : Addr) : entryFrame m #[(.ref x0)] 1 = mkF m 0 #[.val (.ref x0)] [] := by first | (simp [entryFrame, mkF, argsToLocals, Value.category]; done) | rfl
theorem pn_com_example_vestwright_vestwright_model_history_EventKind : plainName "com/example/vestwright/vestwright/model/history/EventKind" = true := by first | (simp [plainName, overriddenIn]; done) | decide +kernel
theorem d1_0 : decode prog_62_method_5_code 0 = .ok (.aload_n 0, 1) := by decide +kernel
theorem d1_1 : decode prog_62_method_5_code 1 = .ok (.getfield 69, 3) := by decide +kernel
theorem d1_4 : decode prog_62_method_5_code 4 = .ok (.ifnull 7, 3) := by decide +kernel
theorem d1_11 : decode prog_62_method_5_code 11 = .ok (.iconst 0, 1) := by decide +kernel
theorem d1_12 : decode prog_62_method_5_code 12 = .ok (.ireturn, 1) := by decide +kernel
theorem d1_7 : decode prog_62_method_5_code 7 = .ok (.iconst 1, 1) := by decide +kernel
theorem d1_8 : decode prog_62_method_5_code 8 = .ok (.goto 4, 3) := by decide +kernel
theorem ef_0 (m : MethodId) (x0 : Int32) : entryFrame m #[(.int x0)] maxLocals = mkF m 0 #[.val (.int x0), .unset, .unset, .unset] [] := by first | (simp [entryFrame, mkF, argsToLocals, Value.category, maxLocals]; done) | rfl
theorem pn_com_example_vestwright_vestwright_model_history_EventKindMilestonePinLaw : plainName "com/example/vestwright/vestwright/model/history/EventKindMilestonePinLaw" = true := by first | (simp [plainName, overriddenIn]; done) | decide +kernel
theorem pd_0 : parseMethodDescriptor "()Z" = some ⟨[], some .boolean⟩ := by decide +kernel
def Q1n (Z : State) (r0 : Addr) (h0 : Heap) (n0 : Nat) (v : Option Value) (h : Heap) (L : List Loc) : Prop := v = some (.int 0) ∧ Fr n0 L ∧ h = h0
set_option maxRecDepth 65536 in
set_option maxHeartbeats 40000000 in
theorem rm1n (l : Launch) (Z : State) (a0 : Array Value) (hw : ∀ d ∈ tables_1, d.before a0 Z = true) (ws : List Jvm.Cond) (r0 : Addr) (h0 : Heap) (n0 : Nat) (Z0 : n0 ≤ h0.size) (F0 : Fld Z h0 r0 "com/example/vestwright/vestwright/model/history/EventKind" "scope" "Lcom/example/vestwright/vestwright/model/history/MilestoneScope;" .null) :
    MetFree l (⟨"com/example/vestwright/vestwright/model/history/EventKind", "milestone", "()Z"⟩ : MethodName) (head1 (Jvm.Cond.code (⟨"com/example/vestwright/vestwright/model/history/EventKind", "milestone", "()Z"⟩ : MethodName) prog_62_method_5_code 1 (some .boolean) :: ws) ({ frames := 0, cells := 0, slots := 0, locals := 0 } : Room)) (fun a U => a = #[(.ref r0)] ∧ Z.Warmed39 U.vm ∧ U.heap = h0) (fun _ _ _ _ _ => True) (fun _ U o U' => ∃ v L, o = .returned v ∧ Q1n Z r0 h0 n0 v U'.heap L ∧ FrameEnd U o U' L ({ frames := 0, cells := 0, slots := 0, locals := 0 } : Room).cells ({ frames := 0, cells := 0, slots := 0, locals := 0 } : Room).slots) := by
  refine MetFree.of_bodySF (plainFor_of_name pn_com_example_vestwright_vestwright_model_history_EventKind) hisR ?_
  intro p e s m args below meth c s₁ Bd hml0 hP hK
  obtain ⟨rfl, hZ, hh⟩ := hP
  have hx := Bd.exec
  have hby := Bd.bytes
  have hml : c.maxLocals = 1 := hml0
  have hown : s.vm.findClass "com/example/vestwright/vestwright/model/history/EventKind" = some m.cls := findClass_of_methodNamed Bd.named
  have hnm := (name_of_methodNamed Bd.named Bd.method).1
  have X0 : Stand p l e ({ frames := 0, cells := 0, slots := 0, locals := 0 } : Room) s m #[(.ref r0)] below meth c s₁ [] 0 0 := Stand.of_body Bd
  have e0 : s₁.heap = h0 := by rw [← hh, Bd.state]; rfl
  have N0 := Fr.nil n0
  have pre0 : ∀ t, Steps p.tables e below (s₁.setTop (mkF m 0 #[.val (.ref r0)] [])) t → Steps p.tables e below (s₁.setTop (entryFrame m #[(.ref r0)] 1)) t := fun t k => castTop (ef_1 m r0) k
  have preS : ∀ t, Steps p.tables e below (s₁.setTop (mkF m 0 #[.val (.ref r0)] [])) t → Steps p.tables e below (s₁.setTop (mkF m 0 #[.val (.ref r0)] [])) t := fun t k => k
  obtain ⟨T1, X1, e1, st1⟩ := getF X0 hx hZ hown (host := "") (Or.inl (hw _ (List.mem_of_getElem? (i := 38) rfl))) Via.refl e0 F0 (g := (mkF m 1 #[.val (.ref r0)] [(.ref r0)])) rfl rfl (hb hby d1_1)
  obtain ⟨fs, hr, hrun, hended, hW, hsame⟩ := X1.leave (v := some (.int (0 : Int32))) (fun h => by rw [Bd.returns] at h; cases h)
  refine ⟨_, _, pre0 _ (preS _ ?_), hrun, hended, _, _, rfl, ?_, ⟨_, rfl⟩, hW, hsame.mono (by decide) (by decide)⟩
  · skip
    show Steps p.tables e below (s₁.setTop (mkF m 0 #[.val (.ref r0)] [])) _
    refine XS.aloadN X0.here hx rfl (hb hby d1_0) rfl rfl ?_
    show Steps p.tables e below (s₁.setTop (mkF m 1 #[.val (.ref r0)] [(.ref r0)])) _
    refine st1 _ ?_
    show Steps p.tables e below (T1.setTop (mkF m 4 #[.val (.ref r0)] [.null])) _
    refine XS.ifnullYes X1.here hx rfl (pc0 := 4) (pc' := 11) rfl (hb hby d1_4) rfl (by decide) (by decide) ?_
    show Steps p.tables e below (T1.setTop (mkF m 11 #[.val (.ref r0)] [])) _
    refine XS.iconst X1.here hx rfl (hb hby d1_11) ?_
    show Steps p.tables e below (T1.setTop (mkF m 12 #[.val (.ref r0)] [(.int (0 : Int32))])) _
    exact retN X1 hx (t := .boolean) Bd.returns (by simp) (hb hby d1_12) hr
  · show Q1n Z r0 h0 n0 _ T1.heap _
    rw [e1]
    exact ⟨rfl, N0, rfl⟩
def Q1s (Z : State) (r0 : Addr) (wsc : Addr) (h0 : Heap) (n0 : Nat) (v : Option Value) (h : Heap) (L : List Loc) : Prop := v = some (.int 1) ∧ Fr n0 L ∧ h = h0
set_option maxRecDepth 65536 in
set_option maxHeartbeats 40000000 in
theorem rm1s (l : Launch) (Z : State) (a0 : Array Value) (hw : ∀ d ∈ tables_1, d.before a0 Z = true) (ws : List Jvm.Cond) (r0 : Addr) (wsc : Addr) (h0 : Heap) (n0 : Nat) (Z0 : n0 ≤ h0.size) (F0 : Fld Z h0 r0 "com/example/vestwright/vestwright/model/history/EventKind" "scope" "Lcom/example/vestwright/vestwright/model/history/MilestoneScope;" (.ref wsc)) :
    MetFree l (⟨"com/example/vestwright/vestwright/model/history/EventKind", "milestone", "()Z"⟩ : MethodName) (head1 (Jvm.Cond.code (⟨"com/example/vestwright/vestwright/model/history/EventKind", "milestone", "()Z"⟩ : MethodName) prog_62_method_5_code 1 (some .boolean) :: ws) ({ frames := 0, cells := 0, slots := 0, locals := 0 } : Room)) (fun a U => a = #[(.ref r0)] ∧ Z.Warmed39 U.vm ∧ U.heap = h0) (fun _ _ _ _ _ => True) (fun _ U o U' => ∃ v L, o = .returned v ∧ Q1s Z r0 wsc h0 n0 v U'.heap L ∧ FrameEnd U o U' L ({ frames := 0, cells := 0, slots := 0, locals := 0 } : Room).cells ({ frames := 0, cells := 0, slots := 0, locals := 0 } : Room).slots) := by
  refine MetFree.of_bodySF (plainFor_of_name pn_com_example_vestwright_vestwright_model_history_EventKind) hisR ?_
  intro p e s m args below meth c s₁ Bd hml0 hP hK
  obtain ⟨rfl, hZ, hh⟩ := hP
  have hx := Bd.exec
  have hby := Bd.bytes
  have hml : c.maxLocals = 1 := hml0
  have hown : s.vm.findClass "com/example/vestwright/vestwright/model/history/EventKind" = some m.cls := findClass_of_methodNamed Bd.named
  have hnm := (name_of_methodNamed Bd.named Bd.method).1
  have X0 : Stand p l e ({ frames := 0, cells := 0, slots := 0, locals := 0 } : Room) s m #[(.ref r0)] below meth c s₁ [] 0 0 := Stand.of_body Bd
  have e0 : s₁.heap = h0 := by rw [← hh, Bd.state]; rfl
  have N0 := Fr.nil n0
  have pre0 : ∀ t, Steps p.tables e below (s₁.setTop (mkF m 0 #[.val (.ref r0)] [])) t → Steps p.tables e below (s₁.setTop (entryFrame m #[(.ref r0)] 1)) t := fun t k => castTop (ef_1 m r0) k
  have preS : ∀ t, Steps p.tables e below (s₁.setTop (mkF m 0 #[.val (.ref r0)] [])) t → Steps p.tables e below (s₁.setTop (mkF m 0 #[.val (.ref r0)] [])) t := fun t k => k
  obtain ⟨T1, X1, e1, st1⟩ := getF X0 hx hZ hown (host := "") (Or.inl (hw _ (List.mem_of_getElem? (i := 38) rfl))) Via.refl e0 F0 (g := (mkF m 1 #[.val (.ref r0)] [(.ref r0)])) rfl rfl (hb hby d1_1)
  obtain ⟨fs, hr, hrun, hended, hW, hsame⟩ := X1.leave (v := some (.int (1 : Int32))) (fun h => by rw [Bd.returns] at h; cases h)
  refine ⟨_, _, pre0 _ (preS _ ?_), hrun, hended, _, _, rfl, ?_, ⟨_, rfl⟩, hW, hsame.mono (by decide) (by decide)⟩
  · skip
    show Steps p.tables e below (s₁.setTop (mkF m 0 #[.val (.ref r0)] [])) _
    refine XS.aloadN X0.here hx rfl (hb hby d1_0) rfl rfl ?_
    show Steps p.tables e below (s₁.setTop (mkF m 1 #[.val (.ref r0)] [(.ref r0)])) _
    refine st1 _ ?_
    show Steps p.tables e below (T1.setTop (mkF m 4 #[.val (.ref r0)] [(.ref wsc)])) _
    refine XS.ifnullNo X1.here hx rfl (hb hby d1_4) rfl ?_
    show Steps p.tables e below (T1.setTop (mkF m 7 #[.val (.ref r0)] [])) _
    refine XS.iconst X1.here hx rfl (hb hby d1_7) ?_
    show Steps p.tables e below (T1.setTop (mkF m 8 #[.val (.ref r0)] [(.int (1 : Int32))])) _
    refine XS.goto X1.here hx rfl (pc0 := 8) (pc' := 12) rfl (hb hby d1_8) (by decide) (by decide) ?_
    show Steps p.tables e below (T1.setTop (mkF m 12 #[.val (.ref r0)] [(.int (1 : Int32))])) _
    exact retN X1 hx (t := .boolean) Bd.returns (by simp) (hb hby d1_12) hr
  · show Q1s Z r0 wsc h0 n0 _ T1.heap _
    rw [e1]
    exact ⟨rfl, N0, rfl⟩
def Q0 (Z : State) (p0 : Int32) (w_0 : Addr) (w_1 : Addr) (w_2 : Addr) (w_3 : Addr) (w_4 : Addr) (w_5 : Addr) (w_6 : Addr) (w_7 : Addr) (w_8 : Addr) (w_9 : Addr) (w_10 : Addr) (w_11 : Addr) (w_12 : Addr) (w_13 : Addr) (m_c : Addr) (m_w : Addr) (m_a : Addr) (h0 : Heap) (n0 : Nat) (v : Option Value) (h : Heap) (L : List Loc) : Prop := v = some (.int 1) ∧ Fr n0 L
set_option maxRecDepth 65536 in
set_option maxHeartbeats 40000000 in
theorem rm0 (l : Launch) (Z : State) (a0 : Array Value) (hw : ∀ d ∈ tables_1, d.before a0 Z = true) (ws : List Jvm.Cond) (p0 : Int32) (w_0 : Addr) (w_1 : Addr) (w_2 : Addr) (w_3 : Addr) (w_4 : Addr) (w_5 : Addr) (w_6 : Addr) (w_7 : Addr) (w_8 : Addr) (w_9 : Addr) (w_10 : Addr) (w_11 : Addr) (w_12 : Addr) (w_13 : Addr) (m_c : Addr) (m_w : Addr) (m_a : Addr) (h0 : Heap) (n0 : Nat) (Z0 : n0 ≤ h0.size) (E_0 : Exa Z h0 w_0 "com/example/vestwright/vestwright/model/history/EventKind") (E_1 : Exa Z h0 w_1 "com/example/vestwright/vestwright/model/history/EventKind") (E_2 : Exa Z h0 w_2 "com/example/vestwright/vestwright/model/history/EventKind") (E_3 : Exa Z h0 w_3 "com/example/vestwright/vestwright/model/history/EventKind") (E_4 : Exa Z h0 w_4 "com/example/vestwright/vestwright/model/history/EventKind") (E_5 : Exa Z h0 w_5 "com/example/vestwright/vestwright/model/history/EventKind") (E_6 : Exa Z h0 w_6 "com/example/vestwright/vestwright/model/history/EventKind") (E_7 : Exa Z h0 w_7 "com/example/vestwright/vestwright/model/history/EventKind") (E_8 : Exa Z h0 w_8 "com/example/vestwright/vestwright/model/history/EventKind") (E_9 : Exa Z h0 w_9 "com/example/vestwright/vestwright/model/history/EventKind") (E_10 : Exa Z h0 w_10 "com/example/vestwright/vestwright/model/history/EventKind") (E_11 : Exa Z h0 w_11 "com/example/vestwright/vestwright/model/history/EventKind") (E_12 : Exa Z h0 w_12 "com/example/vestwright/vestwright/model/history/EventKind") (E_13 : Exa Z h0 w_13 "com/example/vestwright/vestwright/model/history/EventKind") (S_0 : Sta Z h0 "com/example/vestwright/vestwright/model/history/EventKind" "TERMINATION" "Lcom/example/vestwright/vestwright/model/history/EventKind;" (.ref w_0)) (S_1 : Sta Z h0 "com/example/vestwright/vestwright/model/history/EventKind" "REHIRE" "Lcom/example/vestwright/vestwright/model/history/EventKind;" (.ref w_1)) (S_2 : Sta Z h0 "com/example/vestwright/vestwright/model/history/EventKind" "TARGETS_SET" "Lcom/example/vestwright/vestwright/model/history/EventKind;" (.ref w_2)) (S_3 : Sta Z h0 "com/example/vestwright/vestwright/model/history/EventKind" "RESULTS_CERTIFIED" "Lcom/example/vestwright/vestwright/model/history/EventKind;" (.ref w_3)) (S_4 : Sta Z h0 "com/example/vestwright/vestwright/model/history/EventKind" "FIGURE_DETERMINED" "Lcom/example/vestwright/vestwright/model/history/EventKind;" (.ref w_4)) (S_5 : Sta Z h0 "com/example/vestwright/vestwright/model/history/EventKind" "CHANGE_OF_CONTROL" "Lcom/example/vestwright/vestwright/model/history/EventKind;" (.ref w_5)) (S_6 : Sta Z h0 "com/example/vestwright/vestwright/model/history/EventKind" "TRANSACTION" "Lcom/example/vestwright/vestwright/model/history/EventKind;" (.ref w_6)) (S_7 : Sta Z h0 "com/example/vestwright/vestwright/model/history/EventKind" "CORPORATE_EVENT" "Lcom/example/vestwright/vestwright/model/history/EventKind;" (.ref w_7)) (S_8 : Sta Z h0 "com/example/vestwright/vestwright/model/history/EventKind" "BALANCE" "Lcom/example/vestwright/vestwright/model/history/EventKind;" (.ref w_8)) (S_9 : Sta Z h0 "com/example/vestwright/vestwright/model/history/EventKind" "DISTRIBUTION" "Lcom/example/vestwright/vestwright/model/history/EventKind;" (.ref w_9)) (S_10 : Sta Z h0 "com/example/vestwright/vestwright/model/history/EventKind" "UNITS_SETTLED" "Lcom/example/vestwright/vestwright/model/history/EventKind;" (.ref w_10)) (S_11 : Sta Z h0 "com/example/vestwright/vestwright/model/history/EventKind" "PARENT_CHANGE_OF_CONTROL" "Lcom/example/vestwright/vestwright/model/history/EventKind;" (.ref w_11)) (S_12 : Sta Z h0 "com/example/vestwright/vestwright/model/history/EventKind" "SUCCESSION_PLANNING" "Lcom/example/vestwright/vestwright/model/history/EventKind;" (.ref w_12)) (S_13 : Sta Z h0 "com/example/vestwright/vestwright/model/history/EventKind" "RELEASE_IRREVOCABLE" "Lcom/example/vestwright/vestwright/model/history/EventKind;" (.ref w_13)) (F_0 : Fld Z h0 w_0 "com/example/vestwright/vestwright/model/history/EventKind" "scope" "Lcom/example/vestwright/vestwright/model/history/MilestoneScope;" .null) (F_1 : Fld Z h0 w_1 "com/example/vestwright/vestwright/model/history/EventKind" "scope" "Lcom/example/vestwright/vestwright/model/history/MilestoneScope;" .null) (F_2 : Fld Z h0 w_2 "com/example/vestwright/vestwright/model/history/EventKind" "scope" "Lcom/example/vestwright/vestwright/model/history/MilestoneScope;" .null) (F_3 : Fld Z h0 w_3 "com/example/vestwright/vestwright/model/history/EventKind" "scope" "Lcom/example/vestwright/vestwright/model/history/MilestoneScope;" .null) (F_4 : Fld Z h0 w_4 "com/example/vestwright/vestwright/model/history/EventKind" "scope" "Lcom/example/vestwright/vestwright/model/history/MilestoneScope;" .null) (F_5 : Fld Z h0 w_5 "com/example/vestwright/vestwright/model/history/EventKind" "scope" "Lcom/example/vestwright/vestwright/model/history/MilestoneScope;" .null) (F_6 : Fld Z h0 w_6 "com/example/vestwright/vestwright/model/history/EventKind" "scope" "Lcom/example/vestwright/vestwright/model/history/MilestoneScope;" .null) (F_7 : Fld Z h0 w_7 "com/example/vestwright/vestwright/model/history/EventKind" "scope" "Lcom/example/vestwright/vestwright/model/history/MilestoneScope;" .null) (F_8 : Fld Z h0 w_8 "com/example/vestwright/vestwright/model/history/EventKind" "scope" "Lcom/example/vestwright/vestwright/model/history/MilestoneScope;" .null) (F_9 : Fld Z h0 w_9 "com/example/vestwright/vestwright/model/history/EventKind" "scope" "Lcom/example/vestwright/vestwright/model/history/MilestoneScope;" .null) (F_10 : Fld Z h0 w_10 "com/example/vestwright/vestwright/model/history/EventKind" "scope" "Lcom/example/vestwright/vestwright/model/history/MilestoneScope;" .null) (F_11 : Fld Z h0 w_11 "com/example/vestwright/vestwright/model/history/EventKind" "scope" "Lcom/example/vestwright/vestwright/model/history/MilestoneScope;" (.ref m_c)) (F_12 : Fld Z h0 w_12 "com/example/vestwright/vestwright/model/history/EventKind" "scope" "Lcom/example/vestwright/vestwright/model/history/MilestoneScope;" (.ref m_w)) (F_13 : Fld Z h0 w_13 "com/example/vestwright/vestwright/model/history/EventKind" "scope" "Lcom/example/vestwright/vestwright/model/history/MilestoneScope;" (.ref m_a)) :
    MetFree l x (head1 (Jvm.Cond.code x code maxLocals ret :: ws) room_1) (fun a U => a = #[(.int p0)] ∧ Z.Warmed39 U.vm ∧ U.heap = h0) (fun _ _ _ _ _ => True) (fun _ U o U' => ∃ v L, o = .returned v ∧ Q0 Z p0 w_0 w_1 w_2 w_3 w_4 w_5 w_6 w_7 w_8 w_9 w_10 w_11 w_12 w_13 m_c m_w m_a h0 n0 v U'.heap L ∧ FrameEnd U o U' L room_1.cells room_1.slots) := by
  refine MetFree.of_bodySF (plainFor_of_name pn_com_example_vestwright_vestwright_model_history_EventKindMilestonePinLaw) hisR ?_
  intro p e s m args below meth c s₁ Bd hml0 hP hK
  obtain ⟨rfl, hZ, hh⟩ := hP
  have hx := Bd.exec
  have hby := Bd.bytes
  have hml : c.maxLocals = 4 := hml0
  have hown : s.vm.findClass "com/example/vestwright/vestwright/model/history/EventKindMilestonePinLaw" = some m.cls := findClass_of_methodNamed Bd.named
  have hnm := (name_of_methodNamed Bd.named Bd.method).1
  have X0 : Stand p l e room_1 s m #[(.int p0)] below meth c s₁ [] 0 0 := Stand.of_body Bd
  have e0 : s₁.heap = h0 := by rw [← hh, Bd.state]; rfl
  have N0 := Fr.nil n0
  have pre0 : ∀ t, Steps p.tables e below (s₁.setTop (mkF m 0 #[.val (.int p0), .unset, .unset, .unset] [])) t → Steps p.tables e below (s₁.setTop (entryFrame m #[(.int p0)] maxLocals)) t := fun t k => castTop (ef_0 m p0) k
  have preS : ∀ t, Steps p.tables e below (s₁.setTop (mkF m 0 #[.val (.int p0), .unset, .unset, .unset] [])) t → Steps p.tables e below (s₁.setTop (mkF m 0 #[.val (.int p0), .unset, .unset, .unset] [])) t := fun t k => k
  have m0 := own_mrem p0 (14 : Int32) 14 rfl
  have KR : Keep h0 h0 [] := Keep.refl _ _
  obtain ⟨T1, h1, k1, X1, e1, E1, A1, O1, st1⟩ := newR X0 hx hZ hown (hw _ (List.mem_of_getElem? (i := 0) rfl)) (hw _ (List.mem_of_getElem? (i := 1) rfl)) e0 (g := (mkF m 2 #[.val (.int p0), .unset, .unset, .unset] [(.int (14 : Int32))])) rfl (hb hby at_2) rfl (by decide) (cap := 14) (by decide) (by decide) (by decide) (by decide)
  obtain ⟨b1, g1⟩ : ∃ z, z = h0.size := ⟨_, rfl⟩
  rw [← g1] at A1 st1
  have g_b1 : n0 ≤ b1 := Nat.le_trans Z0 (Nat.le_of_eq g1.symm)
  skip
  have Z1 : n0 ≤ h1.size := Nat.le_trans Z0 E1.1
  have K1 : Keep h0 h1 [] := KR.ext E1
  have sz_b1 : h0.size ≤ b1 := Nat.le_trans KR.1 (Nat.le_of_eq g1.symm)
  have V1 : Arv Z h1 b1 k1 (.object "com/example/vestwright/vestwright/model/history/EventKind") (14 : Int32) [.null, .null, .null, .null, .null, .null, .null, .null, .null, .null, .null, .null, .null, .null] .null := (Arv.new A1 (by decide)).pad (pad_rep [] .null 14)
  obtain ⟨T2, X2, e2, st2⟩ := getS2 X1 hx hZ hown (host := "") (Or.inl (hw _ (List.mem_of_getElem? (i := 2) rfl))) Via.refl e1 (own_s0 S_0 K1) (g := (mkF m 7 #[.val (.int p0), .unset, .unset, .unset] [(.int (0 : Int32)), (.ref b1), (.ref b1)])) rfl (hb hby at_7)
  obtain ⟨cl3, Ar3, q3, Sz3, Nn3, Hh3, Gg3⟩ := id V1
  have hin3 : ¬ ((0 : Int32) < 0 ∨ cl3.slots.size ≤ ((0 : Int32)).toNatClampNeg) := inb_of Sz3 ⟨by decide, by decide⟩
  obtain ⟨T4, h4, X4, e4, W4, st4⟩ := stR X2 hx hZ e2 Ar3 (j := (0 : Int32)) hin3 rfl (Sto.ofV Ar3 q3 O1 (Ins.self (E_0.keep K1))) (g := (mkF m 10 #[.val (.int p0), .unset, .unset, .unset] [(.ref w_0), (.int (0 : Int32)), (.ref b1), (.ref b1)])) rfl rfl (hb hby at_10)
  have V4 : Arv Z h4 b1 k1 (.object "com/example/vestwright/vestwright/model/history/EventKind") (14 : Int32) [(.ref w_0), .null, .null, .null, .null, .null, .null, .null, .null, .null, .null, .null, .null, .null] .null := Arv.set Ar3 q3 Sz3 Nn3 Hh3 Gg3 rfl W4 0 rfl (Nat.le_of_ble_eq_true rfl)
  have N4 := Fr.snoc X4 N0 g_b1
  have Z4 : n0 ≤ h4.size := Nat.le_trans Z1 (Keep.of_wr W4).1
  have K4 : Keep h0 h4 [] := K1.wr W4 (Or.inr sz_b1)
  obtain ⟨T5, X5, e5, st5⟩ := getS2 X4 hx hZ hown (host := "") (Or.inl (hw _ (List.mem_of_getElem? (i := 6) rfl))) Via.refl e4 (own_s0 S_1 K4) (g := (mkF m 13 #[.val (.int p0), .unset, .unset, .unset] [(.int (1 : Int32)), (.ref b1), (.ref b1)])) rfl (hb hby at_13)
  obtain ⟨cl6, Ar6, q6, Sz6, Nn6, Hh6, Gg6⟩ := id V4
  have hin6 : ¬ ((1 : Int32) < 0 ∨ cl6.slots.size ≤ ((1 : Int32)).toNatClampNeg) := inb_of Sz6 ⟨by decide, by decide⟩
  obtain ⟨T7, h7, X7, e7, W7, st7⟩ := stR X5 hx hZ e5 Ar6 (j := (1 : Int32)) hin6 rfl (Sto.ofV Ar6 q6 O1 (Ins.self (E_1.keep K4))) (g := (mkF m 16 #[.val (.int p0), .unset, .unset, .unset] [(.ref w_1), (.int (1 : Int32)), (.ref b1), (.ref b1)])) rfl rfl (hb hby at_16)
  have V7 : Arv Z h7 b1 k1 (.object "com/example/vestwright/vestwright/model/history/EventKind") (14 : Int32) [(.ref w_0), (.ref w_1), .null, .null, .null, .null, .null, .null, .null, .null, .null, .null, .null, .null] .null := Arv.set Ar6 q6 Sz6 Nn6 Hh6 Gg6 rfl W7 1 rfl (Nat.le_of_ble_eq_true rfl)
  have N7 := Fr.snoc X7 N4 g_b1
  have Z7 : n0 ≤ h7.size := Nat.le_trans Z4 (Keep.of_wr W7).1
  have K7 : Keep h0 h7 [] := K4.wr W7 (Or.inr sz_b1)
  obtain ⟨T8, X8, e8, st8⟩ := getS2 X7 hx hZ hown (host := "") (Or.inl (hw _ (List.mem_of_getElem? (i := 8) rfl))) Via.refl e7 (own_s0 S_2 K7) (g := (mkF m 19 #[.val (.int p0), .unset, .unset, .unset] [(.int (2 : Int32)), (.ref b1), (.ref b1)])) rfl (hb hby at_19)
  obtain ⟨cl9, Ar9, q9, Sz9, Nn9, Hh9, Gg9⟩ := id V7
  have hin9 : ¬ ((2 : Int32) < 0 ∨ cl9.slots.size ≤ ((2 : Int32)).toNatClampNeg) := inb_of Sz9 ⟨by decide, by decide⟩
  obtain ⟨T10, h10, X10, e10, W10, st10⟩ := stR X8 hx hZ e8 Ar9 (j := (2 : Int32)) hin9 rfl (Sto.ofV Ar9 q9 O1 (Ins.self (E_2.keep K7))) (g := (mkF m 22 #[.val (.int p0), .unset, .unset, .unset] [(.ref w_2), (.int (2 : Int32)), (.ref b1), (.ref b1)])) rfl rfl (hb hby at_22)
  have V10 : Arv Z h10 b1 k1 (.object "com/example/vestwright/vestwright/model/history/EventKind") (14 : Int32) [(.ref w_0), (.ref w_1), (.ref w_2), .null, .null, .null, .null, .null, .null, .null, .null, .null, .null, .null] .null := Arv.set Ar9 q9 Sz9 Nn9 Hh9 Gg9 rfl W10 2 rfl (Nat.le_of_ble_eq_true rfl)
  have N10 := Fr.snoc X10 N7 g_b1
  have Z10 : n0 ≤ h10.size := Nat.le_trans Z7 (Keep.of_wr W10).1
  have K10 : Keep h0 h10 [] := K7.wr W10 (Or.inr sz_b1)
  obtain ⟨T11, X11, e11, st11⟩ := getS2 X10 hx hZ hown (host := "") (Or.inl (hw _ (List.mem_of_getElem? (i := 10) rfl))) Via.refl e10 (own_s0 S_3 K10) (g := (mkF m 25 #[.val (.int p0), .unset, .unset, .unset] [(.int (3 : Int32)), (.ref b1), (.ref b1)])) rfl (hb hby at_25)
  obtain ⟨cl12, Ar12, q12, Sz12, Nn12, Hh12, Gg12⟩ := id V10
  have hin12 : ¬ ((3 : Int32) < 0 ∨ cl12.slots.size ≤ ((3 : Int32)).toNatClampNeg) := inb_of Sz12 ⟨by decide, by decide⟩
  obtain ⟨T13, h13, X13, e13, W13, st13⟩ := stR X11 hx hZ e11 Ar12 (j := (3 : Int32)) hin12 rfl (Sto.ofV Ar12 q12 O1 (Ins.self (E_3.keep K10))) (g := (mkF m 28 #[.val (.int p0), .unset, .unset, .unset] [(.ref w_3), (.int (3 : Int32)), (.ref b1), (.ref b1)])) rfl rfl (hb hby at_28)
  have V13 : Arv Z h13 b1 k1 (.object "com/example/vestwright/vestwright/model/history/EventKind") (14 : Int32) [(.ref w_0), (.ref w_1), (.ref w_2), (.ref w_3), .null, .null, .null, .null, .null, .null, .null, .null, .null, .null] .null := Arv.set Ar12 q12 Sz12 Nn12 Hh12 Gg12 rfl W13 3 rfl (Nat.le_of_ble_eq_true rfl)
  have N13 := Fr.snoc X13 N10 g_b1
  have Z13 : n0 ≤ h13.size := Nat.le_trans Z10 (Keep.of_wr W13).1
  have K13 : Keep h0 h13 [] := K10.wr W13 (Or.inr sz_b1)
  obtain ⟨T14, X14, e14, st14⟩ := getS2 X13 hx hZ hown (host := "") (Or.inl (hw _ (List.mem_of_getElem? (i := 12) rfl))) Via.refl e13 (own_s0 S_4 K13) (g := (mkF m 31 #[.val (.int p0), .unset, .unset, .unset] [(.int (4 : Int32)), (.ref b1), (.ref b1)])) rfl (hb hby at_31)
  obtain ⟨cl15, Ar15, q15, Sz15, Nn15, Hh15, Gg15⟩ := id V13
  have hin15 : ¬ ((4 : Int32) < 0 ∨ cl15.slots.size ≤ ((4 : Int32)).toNatClampNeg) := inb_of Sz15 ⟨by decide, by decide⟩
  obtain ⟨T16, h16, X16, e16, W16, st16⟩ := stR X14 hx hZ e14 Ar15 (j := (4 : Int32)) hin15 rfl (Sto.ofV Ar15 q15 O1 (Ins.self (E_4.keep K13))) (g := (mkF m 34 #[.val (.int p0), .unset, .unset, .unset] [(.ref w_4), (.int (4 : Int32)), (.ref b1), (.ref b1)])) rfl rfl (hb hby at_34)
  have V16 : Arv Z h16 b1 k1 (.object "com/example/vestwright/vestwright/model/history/EventKind") (14 : Int32) [(.ref w_0), (.ref w_1), (.ref w_2), (.ref w_3), (.ref w_4), .null, .null, .null, .null, .null, .null, .null, .null, .null] .null := Arv.set Ar15 q15 Sz15 Nn15 Hh15 Gg15 rfl W16 4 rfl (Nat.le_of_ble_eq_true rfl)
  have N16 := Fr.snoc X16 N13 g_b1
  have Z16 : n0 ≤ h16.size := Nat.le_trans Z13 (Keep.of_wr W16).1
  have K16 : Keep h0 h16 [] := K13.wr W16 (Or.inr sz_b1)
  obtain ⟨T17, X17, e17, st17⟩ := getS2 X16 hx hZ hown (host := "") (Or.inl (hw _ (List.mem_of_getElem? (i := 14) rfl))) Via.refl e16 (own_s0 S_5 K16) (g := (mkF m 37 #[.val (.int p0), .unset, .unset, .unset] [(.int (5 : Int32)), (.ref b1), (.ref b1)])) rfl (hb hby at_37)
  obtain ⟨cl18, Ar18, q18, Sz18, Nn18, Hh18, Gg18⟩ := id V16
  have hin18 : ¬ ((5 : Int32) < 0 ∨ cl18.slots.size ≤ ((5 : Int32)).toNatClampNeg) := inb_of Sz18 ⟨by decide, by decide⟩
  obtain ⟨T19, h19, X19, e19, W19, st19⟩ := stR X17 hx hZ e17 Ar18 (j := (5 : Int32)) hin18 rfl (Sto.ofV Ar18 q18 O1 (Ins.self (E_5.keep K16))) (g := (mkF m 40 #[.val (.int p0), .unset, .unset, .unset] [(.ref w_5), (.int (5 : Int32)), (.ref b1), (.ref b1)])) rfl rfl (hb hby at_40)
  have V19 : Arv Z h19 b1 k1 (.object "com/example/vestwright/vestwright/model/history/EventKind") (14 : Int32) [(.ref w_0), (.ref w_1), (.ref w_2), (.ref w_3), (.ref w_4), (.ref w_5), .null, .null, .null, .null, .null, .null, .null, .null] .null := Arv.set Ar18 q18 Sz18 Nn18 Hh18 Gg18 rfl W19 5 rfl (Nat.le_of_ble_eq_true rfl)
  have N19 := Fr.snoc X19 N16 g_b1
  have Z19 : n0 ≤ h19.size := Nat.le_trans Z16 (Keep.of_wr W19).1
  have K19 : Keep h0 h19 [] := K16.wr W19 (Or.inr sz_b1)
  obtain ⟨T20, X20, e20, st20⟩ := getS2 X19 hx hZ hown (host := "") (Or.inl (hw _ (List.mem_of_getElem? (i := 16) rfl))) Via.refl e19 (own_s0 S_6 K19) (g := (mkF m 44 #[.val (.int p0), .unset, .unset, .unset] [(.int (6 : Int32)), (.ref b1), (.ref b1)])) rfl (hb hby at_44)
  obtain ⟨cl21, Ar21, q21, Sz21, Nn21, Hh21, Gg21⟩ := id V19
  have hin21 : ¬ ((6 : Int32) < 0 ∨ cl21.slots.size ≤ ((6 : Int32)).toNatClampNeg) := inb_of Sz21 ⟨by decide, by decide⟩
  obtain ⟨T22, h22, X22, e22, W22, st22⟩ := stR X20 hx hZ e20 Ar21 (j := (6 : Int32)) hin21 rfl (Sto.ofV Ar21 q21 O1 (Ins.self (E_6.keep K19))) (g := (mkF m 47 #[.val (.int p0), .unset, .unset, .unset] [(.ref w_6), (.int (6 : Int32)), (.ref b1), (.ref b1)])) rfl rfl (hb hby at_47)
  have V22 : Arv Z h22 b1 k1 (.object "com/example/vestwright/vestwright/model/history/EventKind") (14 : Int32) [(.ref w_0), (.ref w_1), (.ref w_2), (.ref w_3), (.ref w_4), (.ref w_5), (.ref w_6), .null, .null, .null, .null, .null, .null, .null] .null := Arv.set Ar21 q21 Sz21 Nn21 Hh21 Gg21 rfl W22 6 rfl (Nat.le_of_ble_eq_true rfl)
  have N22 := Fr.snoc X22 N19 g_b1
  have Z22 : n0 ≤ h22.size := Nat.le_trans Z19 (Keep.of_wr W22).1
  have K22 : Keep h0 h22 [] := K19.wr W22 (Or.inr sz_b1)
  obtain ⟨T23, X23, e23, st23⟩ := getS2 X22 hx hZ hown (host := "") (Or.inl (hw _ (List.mem_of_getElem? (i := 18) rfl))) Via.refl e22 (own_s0 S_7 K22) (g := (mkF m 51 #[.val (.int p0), .unset, .unset, .unset] [(.int (7 : Int32)), (.ref b1), (.ref b1)])) rfl (hb hby at_51)
  obtain ⟨cl24, Ar24, q24, Sz24, Nn24, Hh24, Gg24⟩ := id V22
  have hin24 : ¬ ((7 : Int32) < 0 ∨ cl24.slots.size ≤ ((7 : Int32)).toNatClampNeg) := inb_of Sz24 ⟨by decide, by decide⟩
  obtain ⟨T25, h25, X25, e25, W25, st25⟩ := stR X23 hx hZ e23 Ar24 (j := (7 : Int32)) hin24 rfl (Sto.ofV Ar24 q24 O1 (Ins.self (E_7.keep K22))) (g := (mkF m 54 #[.val (.int p0), .unset, .unset, .unset] [(.ref w_7), (.int (7 : Int32)), (.ref b1), (.ref b1)])) rfl rfl (hb hby at_54)
  have V25 : Arv Z h25 b1 k1 (.object "com/example/vestwright/vestwright/model/history/EventKind") (14 : Int32) [(.ref w_0), (.ref w_1), (.ref w_2), (.ref w_3), (.ref w_4), (.ref w_5), (.ref w_6), (.ref w_7), .null, .null, .null, .null, .null, .null] .null := Arv.set Ar24 q24 Sz24 Nn24 Hh24 Gg24 rfl W25 7 rfl (Nat.le_of_ble_eq_true rfl)
  have N25 := Fr.snoc X25 N22 g_b1
  have Z25 : n0 ≤ h25.size := Nat.le_trans Z22 (Keep.of_wr W25).1
  have K25 : Keep h0 h25 [] := K22.wr W25 (Or.inr sz_b1)
  obtain ⟨T26, X26, e26, st26⟩ := getS2 X25 hx hZ hown (host := "") (Or.inl (hw _ (List.mem_of_getElem? (i := 20) rfl))) Via.refl e25 (own_s0 S_8 K25) (g := (mkF m 58 #[.val (.int p0), .unset, .unset, .unset] [(.int (8 : Int32)), (.ref b1), (.ref b1)])) rfl (hb hby at_58)
  obtain ⟨cl27, Ar27, q27, Sz27, Nn27, Hh27, Gg27⟩ := id V25
  have hin27 : ¬ ((8 : Int32) < 0 ∨ cl27.slots.size ≤ ((8 : Int32)).toNatClampNeg) := inb_of Sz27 ⟨by decide, by decide⟩
  obtain ⟨T28, h28, X28, e28, W28, st28⟩ := stR X26 hx hZ e26 Ar27 (j := (8 : Int32)) hin27 rfl (Sto.ofV Ar27 q27 O1 (Ins.self (E_8.keep K25))) (g := (mkF m 61 #[.val (.int p0), .unset, .unset, .unset] [(.ref w_8), (.int (8 : Int32)), (.ref b1), (.ref b1)])) rfl rfl (hb hby at_61)
  have V28 : Arv Z h28 b1 k1 (.object "com/example/vestwright/vestwright/model/history/EventKind") (14 : Int32) [(.ref w_0), (.ref w_1), (.ref w_2), (.ref w_3), (.ref w_4), (.ref w_5), (.ref w_6), (.ref w_7), (.ref w_8), .null, .null, .null, .null, .null] .null := Arv.set Ar27 q27 Sz27 Nn27 Hh27 Gg27 rfl W28 8 rfl (Nat.le_of_ble_eq_true rfl)
  have N28 := Fr.snoc X28 N25 g_b1
  have Z28 : n0 ≤ h28.size := Nat.le_trans Z25 (Keep.of_wr W28).1
  have K28 : Keep h0 h28 [] := K25.wr W28 (Or.inr sz_b1)
  obtain ⟨T29, X29, e29, st29⟩ := getS2 X28 hx hZ hown (host := "") (Or.inl (hw _ (List.mem_of_getElem? (i := 22) rfl))) Via.refl e28 (own_s0 S_9 K28) (g := (mkF m 65 #[.val (.int p0), .unset, .unset, .unset] [(.int (9 : Int32)), (.ref b1), (.ref b1)])) rfl (hb hby at_65)
  obtain ⟨cl30, Ar30, q30, Sz30, Nn30, Hh30, Gg30⟩ := id V28
  have hin30 : ¬ ((9 : Int32) < 0 ∨ cl30.slots.size ≤ ((9 : Int32)).toNatClampNeg) := inb_of Sz30 ⟨by decide, by decide⟩
  obtain ⟨T31, h31, X31, e31, W31, st31⟩ := stR X29 hx hZ e29 Ar30 (j := (9 : Int32)) hin30 rfl (Sto.ofV Ar30 q30 O1 (Ins.self (E_9.keep K28))) (g := (mkF m 68 #[.val (.int p0), .unset, .unset, .unset] [(.ref w_9), (.int (9 : Int32)), (.ref b1), (.ref b1)])) rfl rfl (hb hby at_68)
  have V31 : Arv Z h31 b1 k1 (.object "com/example/vestwright/vestwright/model/history/EventKind") (14 : Int32) [(.ref w_0), (.ref w_1), (.ref w_2), (.ref w_3), (.ref w_4), (.ref w_5), (.ref w_6), (.ref w_7), (.ref w_8), (.ref w_9), .null, .null, .null, .null] .null := Arv.set Ar30 q30 Sz30 Nn30 Hh30 Gg30 rfl W31 9 rfl (Nat.le_of_ble_eq_true rfl)
  have N31 := Fr.snoc X31 N28 g_b1
  have Z31 : n0 ≤ h31.size := Nat.le_trans Z28 (Keep.of_wr W31).1
  have K31 : Keep h0 h31 [] := K28.wr W31 (Or.inr sz_b1)
  obtain ⟨T32, X32, e32, st32⟩ := getS2 X31 hx hZ hown (host := "") (Or.inl (hw _ (List.mem_of_getElem? (i := 24) rfl))) Via.refl e31 (own_s0 S_10 K31) (g := (mkF m 72 #[.val (.int p0), .unset, .unset, .unset] [(.int (10 : Int32)), (.ref b1), (.ref b1)])) rfl (hb hby at_72)
  obtain ⟨cl33, Ar33, q33, Sz33, Nn33, Hh33, Gg33⟩ := id V31
  have hin33 : ¬ ((10 : Int32) < 0 ∨ cl33.slots.size ≤ ((10 : Int32)).toNatClampNeg) := inb_of Sz33 ⟨by decide, by decide⟩
  obtain ⟨T34, h34, X34, e34, W34, st34⟩ := stR X32 hx hZ e32 Ar33 (j := (10 : Int32)) hin33 rfl (Sto.ofV Ar33 q33 O1 (Ins.self (E_10.keep K31))) (g := (mkF m 75 #[.val (.int p0), .unset, .unset, .unset] [(.ref w_10), (.int (10 : Int32)), (.ref b1), (.ref b1)])) rfl rfl (hb hby at_75)
  have V34 : Arv Z h34 b1 k1 (.object "com/example/vestwright/vestwright/model/history/EventKind") (14 : Int32) [(.ref w_0), (.ref w_1), (.ref w_2), (.ref w_3), (.ref w_4), (.ref w_5), (.ref w_6), (.ref w_7), (.ref w_8), (.ref w_9), (.ref w_10), .null, .null, .null] .null := Arv.set Ar33 q33 Sz33 Nn33 Hh33 Gg33 rfl W34 10 rfl (Nat.le_of_ble_eq_true rfl)
  have N34 := Fr.snoc X34 N31 g_b1
  have Z34 : n0 ≤ h34.size := Nat.le_trans Z31 (Keep.of_wr W34).1
  have K34 : Keep h0 h34 [] := K31.wr W34 (Or.inr sz_b1)
  obtain ⟨T35, X35, e35, st35⟩ := getS2 X34 hx hZ hown (host := "") (Or.inl (hw _ (List.mem_of_getElem? (i := 26) rfl))) Via.refl e34 (own_s0 S_11 K34) (g := (mkF m 79 #[.val (.int p0), .unset, .unset, .unset] [(.int (11 : Int32)), (.ref b1), (.ref b1)])) rfl (hb hby at_79)
  obtain ⟨cl36, Ar36, q36, Sz36, Nn36, Hh36, Gg36⟩ := id V34
  have hin36 : ¬ ((11 : Int32) < 0 ∨ cl36.slots.size ≤ ((11 : Int32)).toNatClampNeg) := inb_of Sz36 ⟨by decide, by decide⟩
  obtain ⟨T37, h37, X37, e37, W37, st37⟩ := stR X35 hx hZ e35 Ar36 (j := (11 : Int32)) hin36 rfl (Sto.ofV Ar36 q36 O1 (Ins.self (E_11.keep K34))) (g := (mkF m 82 #[.val (.int p0), .unset, .unset, .unset] [(.ref w_11), (.int (11 : Int32)), (.ref b1), (.ref b1)])) rfl rfl (hb hby at_82)
  have V37 : Arv Z h37 b1 k1 (.object "com/example/vestwright/vestwright/model/history/EventKind") (14 : Int32) [(.ref w_0), (.ref w_1), (.ref w_2), (.ref w_3), (.ref w_4), (.ref w_5), (.ref w_6), (.ref w_7), (.ref w_8), (.ref w_9), (.ref w_10), (.ref w_11), .null, .null] .null := Arv.set Ar36 q36 Sz36 Nn36 Hh36 Gg36 rfl W37 11 rfl (Nat.le_of_ble_eq_true rfl)
  have N37 := Fr.snoc X37 N34 g_b1
  have Z37 : n0 ≤ h37.size := Nat.le_trans Z34 (Keep.of_wr W37).1
  have K37 : Keep h0 h37 [] := K34.wr W37 (Or.inr sz_b1)
  obtain ⟨T38, X38, e38, st38⟩ := getS2 X37 hx hZ hown (host := "") (Or.inl (hw _ (List.mem_of_getElem? (i := 28) rfl))) Via.refl e37 (own_s0 S_12 K37) (g := (mkF m 86 #[.val (.int p0), .unset, .unset, .unset] [(.int (12 : Int32)), (.ref b1), (.ref b1)])) rfl (hb hby at_86)
  obtain ⟨cl39, Ar39, q39, Sz39, Nn39, Hh39, Gg39⟩ := id V37
  have hin39 : ¬ ((12 : Int32) < 0 ∨ cl39.slots.size ≤ ((12 : Int32)).toNatClampNeg) := inb_of Sz39 ⟨by decide, by decide⟩
  obtain ⟨T40, h40, X40, e40, W40, st40⟩ := stR X38 hx hZ e38 Ar39 (j := (12 : Int32)) hin39 rfl (Sto.ofV Ar39 q39 O1 (Ins.self (E_12.keep K37))) (g := (mkF m 89 #[.val (.int p0), .unset, .unset, .unset] [(.ref w_12), (.int (12 : Int32)), (.ref b1), (.ref b1)])) rfl rfl (hb hby at_89)
  have V40 : Arv Z h40 b1 k1 (.object "com/example/vestwright/vestwright/model/history/EventKind") (14 : Int32) [(.ref w_0), (.ref w_1), (.ref w_2), (.ref w_3), (.ref w_4), (.ref w_5), (.ref w_6), (.ref w_7), (.ref w_8), (.ref w_9), (.ref w_10), (.ref w_11), (.ref w_12), .null] .null := Arv.set Ar39 q39 Sz39 Nn39 Hh39 Gg39 rfl W40 12 rfl (Nat.le_of_ble_eq_true rfl)
  have N40 := Fr.snoc X40 N37 g_b1
  have Z40 : n0 ≤ h40.size := Nat.le_trans Z37 (Keep.of_wr W40).1
  have K40 : Keep h0 h40 [] := K37.wr W40 (Or.inr sz_b1)
  obtain ⟨T41, X41, e41, st41⟩ := getS2 X40 hx hZ hown (host := "") (Or.inl (hw _ (List.mem_of_getElem? (i := 30) rfl))) Via.refl e40 (own_s0 S_13 K40) (g := (mkF m 93 #[.val (.int p0), .unset, .unset, .unset] [(.int (13 : Int32)), (.ref b1), (.ref b1)])) rfl (hb hby at_93)
  obtain ⟨cl42, Ar42, q42, Sz42, Nn42, Hh42, Gg42⟩ := id V40
  have hin42 : ¬ ((13 : Int32) < 0 ∨ cl42.slots.size ≤ ((13 : Int32)).toNatClampNeg) := inb_of Sz42 ⟨by decide, by decide⟩
  obtain ⟨T43, h43, X43, e43, W43, st43⟩ := stR X41 hx hZ e41 Ar42 (j := (13 : Int32)) hin42 rfl (Sto.ofV Ar42 q42 O1 (Ins.self (E_13.keep K40))) (g := (mkF m 96 #[.val (.int p0), .unset, .unset, .unset] [(.ref w_13), (.int (13 : Int32)), (.ref b1), (.ref b1)])) rfl rfl (hb hby at_96)
  have V43 : Arv Z h43 b1 k1 (.object "com/example/vestwright/vestwright/model/history/EventKind") (14 : Int32) [(.ref w_0), (.ref w_1), (.ref w_2), (.ref w_3), (.ref w_4), (.ref w_5), (.ref w_6), (.ref w_7), (.ref w_8), (.ref w_9), (.ref w_10), (.ref w_11), (.ref w_12), (.ref w_13)] .null := Arv.set Ar42 q42 Sz42 Nn42 Hh42 Gg42 rfl W43 13 rfl (Nat.le_of_ble_eq_true rfl)
  have N43 := Fr.snoc X43 N40 g_b1
  have Z43 : n0 ≤ h43.size := Nat.le_trans Z40 (Keep.of_wr W43).1
  have K43 : Keep h0 h43 [] := K40.wr W43 (Or.inr sz_b1)
  have pre44 : ∀ t, Steps p.tables e below (T43.setTop (mkF m 106 #[.val (.int p0), .val (.ref b1), .val (.int ((p0 &&& (2147483647 : Int32)) % (14 : Int32))), .unset] [])) t → Steps p.tables e below (s₁.setTop (mkF m 0 #[.val (.int p0), .unset, .unset, .unset] [])) t := fun t k => preS t (by
    show Steps p.tables e below (s₁.setTop (mkF m 0 #[.val (.int p0), .unset, .unset, .unset] [])) _
    refine XS.bipush X0.here hx rfl (hb hby at_0) ?_
    show Steps p.tables e below (s₁.setTop (mkF m 2 #[.val (.int p0), .unset, .unset, .unset] [(.int (14 : Int32))])) _
    refine st1 _ ?_
    show Steps p.tables e below (T1.setTop (mkF m 5 #[.val (.int p0), .unset, .unset, .unset] [(.ref b1)])) _
    refine XS.dup X1.here hx rfl (hb hby at_5) rfl rfl ?_
    show Steps p.tables e below (T1.setTop (mkF m 6 #[.val (.int p0), .unset, .unset, .unset] [(.ref b1), (.ref b1)])) _
    refine XS.iconst X1.here hx rfl (hb hby at_6) ?_
    show Steps p.tables e below (T1.setTop (mkF m 7 #[.val (.int p0), .unset, .unset, .unset] [(.int (0 : Int32)), (.ref b1), (.ref b1)])) _
    refine st2 _ ?_
    show Steps p.tables e below (T2.setTop (mkF m 10 #[.val (.int p0), .unset, .unset, .unset] [(.ref w_0), (.int (0 : Int32)), (.ref b1), (.ref b1)])) _
    refine st4 _ ?_
    show Steps p.tables e below (T4.setTop (mkF m 11 #[.val (.int p0), .unset, .unset, .unset] [(.ref b1)])) _
    refine XS.dup X4.here hx rfl (hb hby at_11) rfl rfl ?_
    show Steps p.tables e below (T4.setTop (mkF m 12 #[.val (.int p0), .unset, .unset, .unset] [(.ref b1), (.ref b1)])) _
    refine XS.iconst X4.here hx rfl (hb hby at_12) ?_
    show Steps p.tables e below (T4.setTop (mkF m 13 #[.val (.int p0), .unset, .unset, .unset] [(.int (1 : Int32)), (.ref b1), (.ref b1)])) _
    refine st5 _ ?_
    show Steps p.tables e below (T5.setTop (mkF m 16 #[.val (.int p0), .unset, .unset, .unset] [(.ref w_1), (.int (1 : Int32)), (.ref b1), (.ref b1)])) _
    refine st7 _ ?_
    show Steps p.tables e below (T7.setTop (mkF m 17 #[.val (.int p0), .unset, .unset, .unset] [(.ref b1)])) _
    refine XS.dup X7.here hx rfl (hb hby at_17) rfl rfl ?_
    show Steps p.tables e below (T7.setTop (mkF m 18 #[.val (.int p0), .unset, .unset, .unset] [(.ref b1), (.ref b1)])) _
    refine XS.iconst X7.here hx rfl (hb hby at_18) ?_
    show Steps p.tables e below (T7.setTop (mkF m 19 #[.val (.int p0), .unset, .unset, .unset] [(.int (2 : Int32)), (.ref b1), (.ref b1)])) _
    refine st8 _ ?_
    show Steps p.tables e below (T8.setTop (mkF m 22 #[.val (.int p0), .unset, .unset, .unset] [(.ref w_2), (.int (2 : Int32)), (.ref b1), (.ref b1)])) _
    refine st10 _ ?_
    show Steps p.tables e below (T10.setTop (mkF m 23 #[.val (.int p0), .unset, .unset, .unset] [(.ref b1)])) _
    refine XS.dup X10.here hx rfl (hb hby at_23) rfl rfl ?_
    show Steps p.tables e below (T10.setTop (mkF m 24 #[.val (.int p0), .unset, .unset, .unset] [(.ref b1), (.ref b1)])) _
    refine XS.iconst X10.here hx rfl (hb hby at_24) ?_
    show Steps p.tables e below (T10.setTop (mkF m 25 #[.val (.int p0), .unset, .unset, .unset] [(.int (3 : Int32)), (.ref b1), (.ref b1)])) _
    refine st11 _ ?_
    show Steps p.tables e below (T11.setTop (mkF m 28 #[.val (.int p0), .unset, .unset, .unset] [(.ref w_3), (.int (3 : Int32)), (.ref b1), (.ref b1)])) _
    refine st13 _ ?_
    show Steps p.tables e below (T13.setTop (mkF m 29 #[.val (.int p0), .unset, .unset, .unset] [(.ref b1)])) _
    refine XS.dup X13.here hx rfl (hb hby at_29) rfl rfl ?_
    show Steps p.tables e below (T13.setTop (mkF m 30 #[.val (.int p0), .unset, .unset, .unset] [(.ref b1), (.ref b1)])) _
    refine XS.iconst X13.here hx rfl (hb hby at_30) ?_
    show Steps p.tables e below (T13.setTop (mkF m 31 #[.val (.int p0), .unset, .unset, .unset] [(.int (4 : Int32)), (.ref b1), (.ref b1)])) _
    refine st14 _ ?_
    show Steps p.tables e below (T14.setTop (mkF m 34 #[.val (.int p0), .unset, .unset, .unset] [(.ref w_4), (.int (4 : Int32)), (.ref b1), (.ref b1)])) _
    refine st16 _ ?_
    show Steps p.tables e below (T16.setTop (mkF m 35 #[.val (.int p0), .unset, .unset, .unset] [(.ref b1)])) _
    refine XS.dup X16.here hx rfl (hb hby at_35) rfl rfl ?_
    show Steps p.tables e below (T16.setTop (mkF m 36 #[.val (.int p0), .unset, .unset, .unset] [(.ref b1), (.ref b1)])) _
    refine XS.iconst X16.here hx rfl (hb hby at_36) ?_
    show Steps p.tables e below (T16.setTop (mkF m 37 #[.val (.int p0), .unset, .unset, .unset] [(.int (5 : Int32)), (.ref b1), (.ref b1)])) _
    refine st17 _ ?_
    show Steps p.tables e below (T17.setTop (mkF m 40 #[.val (.int p0), .unset, .unset, .unset] [(.ref w_5), (.int (5 : Int32)), (.ref b1), (.ref b1)])) _
    refine st19 _ ?_
    show Steps p.tables e below (T19.setTop (mkF m 41 #[.val (.int p0), .unset, .unset, .unset] [(.ref b1)])) _
    refine XS.dup X19.here hx rfl (hb hby at_41) rfl rfl ?_
    show Steps p.tables e below (T19.setTop (mkF m 42 #[.val (.int p0), .unset, .unset, .unset] [(.ref b1), (.ref b1)])) _
    refine XS.bipush X19.here hx rfl (hb hby at_42) ?_
    show Steps p.tables e below (T19.setTop (mkF m 44 #[.val (.int p0), .unset, .unset, .unset] [(.int (6 : Int32)), (.ref b1), (.ref b1)])) _
    refine st20 _ ?_
    show Steps p.tables e below (T20.setTop (mkF m 47 #[.val (.int p0), .unset, .unset, .unset] [(.ref w_6), (.int (6 : Int32)), (.ref b1), (.ref b1)])) _
    refine st22 _ ?_
    show Steps p.tables e below (T22.setTop (mkF m 48 #[.val (.int p0), .unset, .unset, .unset] [(.ref b1)])) _
    refine XS.dup X22.here hx rfl (hb hby at_48) rfl rfl ?_
    show Steps p.tables e below (T22.setTop (mkF m 49 #[.val (.int p0), .unset, .unset, .unset] [(.ref b1), (.ref b1)])) _
    refine XS.bipush X22.here hx rfl (hb hby at_49) ?_
    show Steps p.tables e below (T22.setTop (mkF m 51 #[.val (.int p0), .unset, .unset, .unset] [(.int (7 : Int32)), (.ref b1), (.ref b1)])) _
    refine st23 _ ?_
    show Steps p.tables e below (T23.setTop (mkF m 54 #[.val (.int p0), .unset, .unset, .unset] [(.ref w_7), (.int (7 : Int32)), (.ref b1), (.ref b1)])) _
    refine st25 _ ?_
    show Steps p.tables e below (T25.setTop (mkF m 55 #[.val (.int p0), .unset, .unset, .unset] [(.ref b1)])) _
    refine XS.dup X25.here hx rfl (hb hby at_55) rfl rfl ?_
    show Steps p.tables e below (T25.setTop (mkF m 56 #[.val (.int p0), .unset, .unset, .unset] [(.ref b1), (.ref b1)])) _
    refine XS.bipush X25.here hx rfl (hb hby at_56) ?_
    show Steps p.tables e below (T25.setTop (mkF m 58 #[.val (.int p0), .unset, .unset, .unset] [(.int (8 : Int32)), (.ref b1), (.ref b1)])) _
    refine st26 _ ?_
    show Steps p.tables e below (T26.setTop (mkF m 61 #[.val (.int p0), .unset, .unset, .unset] [(.ref w_8), (.int (8 : Int32)), (.ref b1), (.ref b1)])) _
    refine st28 _ ?_
    show Steps p.tables e below (T28.setTop (mkF m 62 #[.val (.int p0), .unset, .unset, .unset] [(.ref b1)])) _
    refine XS.dup X28.here hx rfl (hb hby at_62) rfl rfl ?_
    show Steps p.tables e below (T28.setTop (mkF m 63 #[.val (.int p0), .unset, .unset, .unset] [(.ref b1), (.ref b1)])) _
    refine XS.bipush X28.here hx rfl (hb hby at_63) ?_
    show Steps p.tables e below (T28.setTop (mkF m 65 #[.val (.int p0), .unset, .unset, .unset] [(.int (9 : Int32)), (.ref b1), (.ref b1)])) _
    refine st29 _ ?_
    show Steps p.tables e below (T29.setTop (mkF m 68 #[.val (.int p0), .unset, .unset, .unset] [(.ref w_9), (.int (9 : Int32)), (.ref b1), (.ref b1)])) _
    refine st31 _ ?_
    show Steps p.tables e below (T31.setTop (mkF m 69 #[.val (.int p0), .unset, .unset, .unset] [(.ref b1)])) _
    refine XS.dup X31.here hx rfl (hb hby at_69) rfl rfl ?_
    show Steps p.tables e below (T31.setTop (mkF m 70 #[.val (.int p0), .unset, .unset, .unset] [(.ref b1), (.ref b1)])) _
    refine XS.bipush X31.here hx rfl (hb hby at_70) ?_
    show Steps p.tables e below (T31.setTop (mkF m 72 #[.val (.int p0), .unset, .unset, .unset] [(.int (10 : Int32)), (.ref b1), (.ref b1)])) _
    refine st32 _ ?_
    show Steps p.tables e below (T32.setTop (mkF m 75 #[.val (.int p0), .unset, .unset, .unset] [(.ref w_10), (.int (10 : Int32)), (.ref b1), (.ref b1)])) _
    refine st34 _ ?_
    show Steps p.tables e below (T34.setTop (mkF m 76 #[.val (.int p0), .unset, .unset, .unset] [(.ref b1)])) _
    refine XS.dup X34.here hx rfl (hb hby at_76) rfl rfl ?_
    show Steps p.tables e below (T34.setTop (mkF m 77 #[.val (.int p0), .unset, .unset, .unset] [(.ref b1), (.ref b1)])) _
    refine XS.bipush X34.here hx rfl (hb hby at_77) ?_
    show Steps p.tables e below (T34.setTop (mkF m 79 #[.val (.int p0), .unset, .unset, .unset] [(.int (11 : Int32)), (.ref b1), (.ref b1)])) _
    refine st35 _ ?_
    show Steps p.tables e below (T35.setTop (mkF m 82 #[.val (.int p0), .unset, .unset, .unset] [(.ref w_11), (.int (11 : Int32)), (.ref b1), (.ref b1)])) _
    refine st37 _ ?_
    show Steps p.tables e below (T37.setTop (mkF m 83 #[.val (.int p0), .unset, .unset, .unset] [(.ref b1)])) _
    refine XS.dup X37.here hx rfl (hb hby at_83) rfl rfl ?_
    show Steps p.tables e below (T37.setTop (mkF m 84 #[.val (.int p0), .unset, .unset, .unset] [(.ref b1), (.ref b1)])) _
    refine XS.bipush X37.here hx rfl (hb hby at_84) ?_
    show Steps p.tables e below (T37.setTop (mkF m 86 #[.val (.int p0), .unset, .unset, .unset] [(.int (12 : Int32)), (.ref b1), (.ref b1)])) _
    refine st38 _ ?_
    show Steps p.tables e below (T38.setTop (mkF m 89 #[.val (.int p0), .unset, .unset, .unset] [(.ref w_12), (.int (12 : Int32)), (.ref b1), (.ref b1)])) _
    refine st40 _ ?_
    show Steps p.tables e below (T40.setTop (mkF m 90 #[.val (.int p0), .unset, .unset, .unset] [(.ref b1)])) _
    refine XS.dup X40.here hx rfl (hb hby at_90) rfl rfl ?_
    show Steps p.tables e below (T40.setTop (mkF m 91 #[.val (.int p0), .unset, .unset, .unset] [(.ref b1), (.ref b1)])) _
    refine XS.bipush X40.here hx rfl (hb hby at_91) ?_
    show Steps p.tables e below (T40.setTop (mkF m 93 #[.val (.int p0), .unset, .unset, .unset] [(.int (13 : Int32)), (.ref b1), (.ref b1)])) _
    refine st41 _ ?_
    show Steps p.tables e below (T41.setTop (mkF m 96 #[.val (.int p0), .unset, .unset, .unset] [(.ref w_13), (.int (13 : Int32)), (.ref b1), (.ref b1)])) _
    refine st43 _ ?_
    show Steps p.tables e below (T43.setTop (mkF m 97 #[.val (.int p0), .unset, .unset, .unset] [(.ref b1)])) _
    refine XS.astoreN X43.here hx rfl (hb hby at_97) rfl rfl (l' := #[.val (.int p0), .val (.ref b1), .unset, .unset]) rfl ?_
    show Steps p.tables e below (T43.setTop (mkF m 98 #[.val (.int p0), .val (.ref b1), .unset, .unset] [])) _
    refine XS.iloadN X43.here hx rfl (hb hby at_98) rfl ?_
    show Steps p.tables e below (T43.setTop (mkF m 99 #[.val (.int p0), .val (.ref b1), .unset, .unset] [(.int p0)])) _
    refine X43.ldcInt hx hown (mvT hZ (hw _ (List.mem_of_getElem? (i := 32) rfl))) (g := (mkF m 99 #[.val (.int p0), .val (.ref b1), .unset, .unset] [(.int p0)])) rfl (hb hby at_99) _ ?_
    show Steps p.tables e below (T43.setTop (mkF m 101 #[.val (.int p0), .val (.ref b1), .unset, .unset] [(.int (2147483647 : Int32)), (.int p0)])) _
    refine XS.iand X43.here hx rfl (hb hby at_101) rfl ?_
    show Steps p.tables e below (T43.setTop (mkF m 102 #[.val (.int p0), .val (.ref b1), .unset, .unset] [(.int (p0 &&& (2147483647 : Int32)))])) _
    refine XS.bipush X43.here hx rfl (hb hby at_102) ?_
    show Steps p.tables e below (T43.setTop (mkF m 104 #[.val (.int p0), .val (.ref b1), .unset, .unset] [(.int (14 : Int32)), (.int (p0 &&& (2147483647 : Int32)))])) _
    refine Jvm.RoadKit.iremM (g := (mkF m 104 #[.val (.int p0), .val (.ref b1), .unset, .unset] [(.int (14 : Int32)), (.int (p0 &&& (2147483647 : Int32)))])) X43 hx rfl (hb hby at_104) rfl (by decide) ?_
    show Steps p.tables e below (T43.setTop (mkF m 105 #[.val (.int p0), .val (.ref b1), .unset, .unset] [(.int ((p0 &&& (2147483647 : Int32)) % (14 : Int32)))])) _
    refine XS.istoreN X43.here hx rfl (hb hby at_105) rfl (l' := #[.val (.int p0), .val (.ref b1), .val (.int ((p0 &&& (2147483647 : Int32)) % (14 : Int32))), .unset]) rfl ?_
    exact k)
  obtain ⟨kk, h_kk⟩ : ∃ z, z = ((p0 &&& (2147483647 : Int32)) % (14 : Int32)) := ⟨_, rfl⟩
  rw [← h_kk] at pre44
  rw [← h_kk] at m0
  have hk : kk.toInt = 0 ∨ kk.toInt = 1 ∨ kk.toInt = 2 ∨ kk.toInt = 3 ∨ kk.toInt = 4 ∨ kk.toInt = 5 ∨ kk.toInt = 6 ∨ kk.toInt = 7 ∨ kk.toInt = 8 ∨ kk.toInt = 9 ∨ kk.toInt = 10 ∨ kk.toInt = 11 ∨ kk.toInt = 12 ∨ kk.toInt = 13 := by omega
  rcases hk with hk | hk | hk | hk | hk | hk | hk | hk | hk | hk | hk | hk | hk | hk
  · skip
    obtain rfl : kk = (0 : Int32) := own_eq.mpr hk
    have hc45 : (0 : Int32) < (11 : Int32) := by decide
    obtain ⟨cl46, Ar46, -, Sz46, Nn46, Hh46, -⟩ := id V43
    have hin46 : ¬ ((0 : Int32) < 0 ∨ cl46.slots.size ≤ ((0 : Int32)).toNatClampNeg) := inb_of Sz46 ⟨by decide, by decide⟩
    have hat46 : cl46.slots[((0 : Int32)).toNatClampNeg]? = some (.ref w_0) := Hh46 0 (by rw [Sz46]; decide)
    obtain ⟨cq47, kq47, q47a, q47b, q47c⟩ := isOf hZ e43 (E_0.keep K43)
    obtain ⟨_, _, ⟨T47, L47, k47, n47⟩, -, X47, ⟨Lc47, hQ47, l47, y47, z47⟩, st47⟩ := X43.virtualBack hx (y := (⟨"com/example/vestwright/vestwright/model/history/EventKind", "milestone", "()Z"⟩ : MethodName)) (z := (⟨"com/example/vestwright/vestwright/model/history/EventKind", "milestone", "()Z"⟩ : MethodName)) hown (mvT hZ (hw _ (List.mem_of_getElem? (i := 33) rfl))) (mvT hZ (hw _ (List.mem_of_getElem? (i := 34) rfl))) (notFace_of_selects (args := #[]) (mvT hZ (hw _ (List.mem_of_getElem? (i := 36) rfl)))) (mvT hZ (hw _ (List.mem_of_getElem? (i := 36) rfl))) (mvT hZ (hw _ (List.mem_of_getElem? (i := 35) rfl))) (by decide) (backOf (W := 0) (rm1n l Z a0 hw [] w_0  h43 n0 Z43 (own_f0 F_0 K43)) hZ (hw _ (List.mem_of_getElem? (i := 37) rfl)) (hw _ (List.mem_of_getElem? (i := 3) rfl)) (by decide) (by decide)) q47a q47c (g := (mkF m 121 #[.val (.int p0), .val (.ref b1), .val (.int (0 : Int32)), .val (.int (0 : Int32))] [(.ref w_0)])) rfl (by rw [hml]; rfl) (Steps.refl _) (argsL := []) (rest := []) (lenOf pd_0 rfl) rfl (by show 2 * 0 + _ ≤ _; exact Nat.le_of_eq rfl) (hb hby at_121) (fun _ _ => ⟨rfl, e43, (by decide : 1 + 0 ≤ _), (by decide : 14 + 0 ≤ _)⟩)
    dsimp only [Pt.U, Pt.locs, Pt.cells, Pt.slots] at X47 l47 y47 z47 st47 hQ47
    subst l47 y47 z47
    obtain ⟨rfl, Nq47, e47⟩ := hQ47
    have N47 := Fr.app N43 Nq47
    have hc48 : (0 : Int32) = (0 : Int32) := by decide
    obtain ⟨fs, hr, hrun, hended, hW, hsame⟩ := X47.leave (v := some (.int (1 : Int32))) (fun h => by rw [Bd.returns] at h; cases h)
    refine ⟨_, _, pre0 _ (pre44 _ ?_), hrun, hended, _, _, rfl, ?_, ⟨_, rfl⟩, hW, hsame.mono (by decide) (by decide)⟩
    · skip
      show Steps p.tables e below (T43.setTop (mkF m 106 #[.val (.int p0), .val (.ref b1), .val (.int (0 : Int32)), .unset] [])) _
      refine XS.iloadN X43.here hx rfl (hb hby at_106) rfl ?_
      show Steps p.tables e below (T43.setTop (mkF m 107 #[.val (.int p0), .val (.ref b1), .val (.int (0 : Int32)), .unset] [(.int (0 : Int32))])) _
      refine XS.bipush X43.here hx rfl (hb hby at_107) ?_
      show Steps p.tables e below (T43.setTop (mkF m 109 #[.val (.int p0), .val (.ref b1), .val (.int (0 : Int32)), .unset] [(.int (11 : Int32)), (.int (0 : Int32))])) _
      refine XS.icmpYes X43.here hx rfl (pc0 := 109) (pc' := 116) rfl (hb hby at_109) rfl (tlt hc45).1 (by decide) (by decide) ?_
      show Steps p.tables e below (T43.setTop (mkF m 116 #[.val (.int p0), .val (.ref b1), .val (.int (0 : Int32)), .unset] [])) _
      refine XS.iconst X43.here hx rfl (hb hby at_116) ?_
      show Steps p.tables e below (T43.setTop (mkF m 117 #[.val (.int p0), .val (.ref b1), .val (.int (0 : Int32)), .unset] [(.int (0 : Int32))])) _
      refine XS.istoreN X43.here hx rfl (hb hby at_117) rfl (l' := #[.val (.int p0), .val (.ref b1), .val (.int (0 : Int32)), .val (.int (0 : Int32))]) rfl ?_
      show Steps p.tables e below (T43.setTop (mkF m 118 #[.val (.int p0), .val (.ref b1), .val (.int (0 : Int32)), .val (.int (0 : Int32))] [])) _
      refine XS.aloadN X43.here hx rfl (hb hby at_118) rfl rfl ?_
      show Steps p.tables e below (T43.setTop (mkF m 119 #[.val (.int p0), .val (.ref b1), .val (.int (0 : Int32)), .val (.int (0 : Int32))] [(.ref b1)])) _
      refine XS.iloadN X43.here hx rfl (hb hby at_119) rfl ?_
      show Steps p.tables e below (T43.setTop (mkF m 120 #[.val (.int p0), .val (.ref b1), .val (.int (0 : Int32)), .val (.int (0 : Int32))] [(.int (0 : Int32)), (.ref b1)])) _
      refine X43.aaload hx (j := (0 : Int32)) (v := (.ref w_0)) (by rw [e43]; exact Ar46.1) (State.isArrayOf_alike hZ.alike Ar46.2.1) rfl Ar46.2.2 hin46 hat46 (g := (mkF m 120 #[.val (.int p0), .val (.ref b1), .val (.int (0 : Int32)), .val (.int (0 : Int32))] [(.int (0 : Int32)), (.ref b1)])) rfl rfl (hb hby at_120) _ ?_
      show Steps p.tables e below (T43.setTop (mkF m 121 #[.val (.int p0), .val (.ref b1), .val (.int (0 : Int32)), .val (.int (0 : Int32))] [(.ref w_0)])) _
      refine st47.trans ?_
      show Steps p.tables e below (T47.setTop (mkF m 124 #[.val (.int p0), .val (.ref b1), .val (.int (0 : Int32)), .val (.int (0 : Int32))] [(.int (0 : Int32))])) _
      refine XS.iloadN X47.here hx rfl (hb hby at_124) rfl ?_
      show Steps p.tables e below (T47.setTop (mkF m 125 #[.val (.int p0), .val (.ref b1), .val (.int (0 : Int32)), .val (.int (0 : Int32))] [(.int (0 : Int32)), (.int (0 : Int32))])) _
      refine XS.icmpNo X47.here hx rfl (hb hby at_125) rfl (teq hc48).2 ?_
      show Steps p.tables e below (T47.setTop (mkF m 128 #[.val (.int p0), .val (.ref b1), .val (.int (0 : Int32)), .val (.int (0 : Int32))] [])) _
      refine XS.iconst X47.here hx rfl (hb hby at_128) ?_
      show Steps p.tables e below (T47.setTop (mkF m 129 #[.val (.int p0), .val (.ref b1), .val (.int (0 : Int32)), .val (.int (0 : Int32))] [(.int (1 : Int32))])) _
      refine XS.goto X47.here hx rfl (pc0 := 129) (pc' := 133) rfl (hb hby at_129) (by decide) (by decide) ?_
      show Steps p.tables e below (T47.setTop (mkF m 133 #[.val (.int p0), .val (.ref b1), .val (.int (0 : Int32)), .val (.int (0 : Int32))] [(.int (1 : Int32))])) _
      exact retN X47 hx (t := .boolean) Bd.returns (by simp) (hb hby at_133) hr
    · show Q0 Z p0 w_0 w_1 w_2 w_3 w_4 w_5 w_6 w_7 w_8 w_9 w_10 w_11 w_12 w_13 m_c m_w m_a h0 n0 _ T47.heap _
      rw [e47]
      exact ⟨rfl, N47⟩
  · skip
    obtain rfl : kk = (1 : Int32) := own_eq.mpr hk
    have hc49 : (1 : Int32) < (11 : Int32) := by decide
    obtain ⟨cl50, Ar50, -, Sz50, Nn50, Hh50, -⟩ := id V43
    have hin50 : ¬ ((1 : Int32) < 0 ∨ cl50.slots.size ≤ ((1 : Int32)).toNatClampNeg) := inb_of Sz50 ⟨by decide, by decide⟩
    have hat50 : cl50.slots[((1 : Int32)).toNatClampNeg]? = some (.ref w_1) := Hh50 1 (by rw [Sz50]; decide)
    obtain ⟨cq51, kq51, q51a, q51b, q51c⟩ := isOf hZ e43 (E_1.keep K43)
    obtain ⟨_, _, ⟨T51, L51, k51, n51⟩, -, X51, ⟨Lc51, hQ51, l51, y51, z51⟩, st51⟩ := X43.virtualBack hx (y := (⟨"com/example/vestwright/vestwright/model/history/EventKind", "milestone", "()Z"⟩ : MethodName)) (z := (⟨"com/example/vestwright/vestwright/model/history/EventKind", "milestone", "()Z"⟩ : MethodName)) hown (mvT hZ (hw _ (List.mem_of_getElem? (i := 33) rfl))) (mvT hZ (hw _ (List.mem_of_getElem? (i := 34) rfl))) (notFace_of_selects (args := #[]) (mvT hZ (hw _ (List.mem_of_getElem? (i := 36) rfl)))) (mvT hZ (hw _ (List.mem_of_getElem? (i := 36) rfl))) (mvT hZ (hw _ (List.mem_of_getElem? (i := 35) rfl))) (by decide) (backOf (W := 0) (rm1n l Z a0 hw [] w_1  h43 n0 Z43 (own_f0 F_1 K43)) hZ (hw _ (List.mem_of_getElem? (i := 37) rfl)) (hw _ (List.mem_of_getElem? (i := 3) rfl)) (by decide) (by decide)) q51a q51c (g := (mkF m 121 #[.val (.int p0), .val (.ref b1), .val (.int (1 : Int32)), .val (.int (0 : Int32))] [(.ref w_1)])) rfl (by rw [hml]; rfl) (Steps.refl _) (argsL := []) (rest := []) (lenOf pd_0 rfl) rfl (by show 2 * 0 + _ ≤ _; exact Nat.le_of_eq rfl) (hb hby at_121) (fun _ _ => ⟨rfl, e43, (by decide : 1 + 0 ≤ _), (by decide : 14 + 0 ≤ _)⟩)
    dsimp only [Pt.U, Pt.locs, Pt.cells, Pt.slots] at X51 l51 y51 z51 st51 hQ51
    subst l51 y51 z51
    obtain ⟨rfl, Nq51, e51⟩ := hQ51
    have N51 := Fr.app N43 Nq51
    have hc52 : (0 : Int32) = (0 : Int32) := by decide
    obtain ⟨fs, hr, hrun, hended, hW, hsame⟩ := X51.leave (v := some (.int (1 : Int32))) (fun h => by rw [Bd.returns] at h; cases h)
    refine ⟨_, _, pre0 _ (pre44 _ ?_), hrun, hended, _, _, rfl, ?_, ⟨_, rfl⟩, hW, hsame.mono (by decide) (by decide)⟩
    · skip
      show Steps p.tables e below (T43.setTop (mkF m 106 #[.val (.int p0), .val (.ref b1), .val (.int (1 : Int32)), .unset] [])) _
      refine XS.iloadN X43.here hx rfl (hb hby at_106) rfl ?_
      show Steps p.tables e below (T43.setTop (mkF m 107 #[.val (.int p0), .val (.ref b1), .val (.int (1 : Int32)), .unset] [(.int (1 : Int32))])) _
      refine XS.bipush X43.here hx rfl (hb hby at_107) ?_
      show Steps p.tables e below (T43.setTop (mkF m 109 #[.val (.int p0), .val (.ref b1), .val (.int (1 : Int32)), .unset] [(.int (11 : Int32)), (.int (1 : Int32))])) _
      refine XS.icmpYes X43.here hx rfl (pc0 := 109) (pc' := 116) rfl (hb hby at_109) rfl (tlt hc49).1 (by decide) (by decide) ?_
      show Steps p.tables e below (T43.setTop (mkF m 116 #[.val (.int p0), .val (.ref b1), .val (.int (1 : Int32)), .unset] [])) _
      refine XS.iconst X43.here hx rfl (hb hby at_116) ?_
      show Steps p.tables e below (T43.setTop (mkF m 117 #[.val (.int p0), .val (.ref b1), .val (.int (1 : Int32)), .unset] [(.int (0 : Int32))])) _
      refine XS.istoreN X43.here hx rfl (hb hby at_117) rfl (l' := #[.val (.int p0), .val (.ref b1), .val (.int (1 : Int32)), .val (.int (0 : Int32))]) rfl ?_
      show Steps p.tables e below (T43.setTop (mkF m 118 #[.val (.int p0), .val (.ref b1), .val (.int (1 : Int32)), .val (.int (0 : Int32))] [])) _
      refine XS.aloadN X43.here hx rfl (hb hby at_118) rfl rfl ?_
      show Steps p.tables e below (T43.setTop (mkF m 119 #[.val (.int p0), .val (.ref b1), .val (.int (1 : Int32)), .val (.int (0 : Int32))] [(.ref b1)])) _
      refine XS.iloadN X43.here hx rfl (hb hby at_119) rfl ?_
      show Steps p.tables e below (T43.setTop (mkF m 120 #[.val (.int p0), .val (.ref b1), .val (.int (1 : Int32)), .val (.int (0 : Int32))] [(.int (1 : Int32)), (.ref b1)])) _
      refine X43.aaload hx (j := (1 : Int32)) (v := (.ref w_1)) (by rw [e43]; exact Ar50.1) (State.isArrayOf_alike hZ.alike Ar50.2.1) rfl Ar50.2.2 hin50 hat50 (g := (mkF m 120 #[.val (.int p0), .val (.ref b1), .val (.int (1 : Int32)), .val (.int (0 : Int32))] [(.int (1 : Int32)), (.ref b1)])) rfl rfl (hb hby at_120) _ ?_
      show Steps p.tables e below (T43.setTop (mkF m 121 #[.val (.int p0), .val (.ref b1), .val (.int (1 : Int32)), .val (.int (0 : Int32))] [(.ref w_1)])) _
      refine st51.trans ?_
      show Steps p.tables e below (T51.setTop (mkF m 124 #[.val (.int p0), .val (.ref b1), .val (.int (1 : Int32)), .val (.int (0 : Int32))] [(.int (0 : Int32))])) _
      refine XS.iloadN X51.here hx rfl (hb hby at_124) rfl ?_
      show Steps p.tables e below (T51.setTop (mkF m 125 #[.val (.int p0), .val (.ref b1), .val (.int (1 : Int32)), .val (.int (0 : Int32))] [(.int (0 : Int32)), (.int (0 : Int32))])) _
      refine XS.icmpNo X51.here hx rfl (hb hby at_125) rfl (teq hc52).2 ?_
      show Steps p.tables e below (T51.setTop (mkF m 128 #[.val (.int p0), .val (.ref b1), .val (.int (1 : Int32)), .val (.int (0 : Int32))] [])) _
      refine XS.iconst X51.here hx rfl (hb hby at_128) ?_
      show Steps p.tables e below (T51.setTop (mkF m 129 #[.val (.int p0), .val (.ref b1), .val (.int (1 : Int32)), .val (.int (0 : Int32))] [(.int (1 : Int32))])) _
      refine XS.goto X51.here hx rfl (pc0 := 129) (pc' := 133) rfl (hb hby at_129) (by decide) (by decide) ?_
      show Steps p.tables e below (T51.setTop (mkF m 133 #[.val (.int p0), .val (.ref b1), .val (.int (1 : Int32)), .val (.int (0 : Int32))] [(.int (1 : Int32))])) _
      exact retN X51 hx (t := .boolean) Bd.returns (by simp) (hb hby at_133) hr
    · show Q0 Z p0 w_0 w_1 w_2 w_3 w_4 w_5 w_6 w_7 w_8 w_9 w_10 w_11 w_12 w_13 m_c m_w m_a h0 n0 _ T51.heap _
      rw [e51]
      exact ⟨rfl, N51⟩
  · skip
    obtain rfl : kk = (2 : Int32) := own_eq.mpr hk
    have hc53 : (2 : Int32) < (11 : Int32) := by decide
    obtain ⟨cl54, Ar54, -, Sz54, Nn54, Hh54, -⟩ := id V43
    have hin54 : ¬ ((2 : Int32) < 0 ∨ cl54.slots.size ≤ ((2 : Int32)).toNatClampNeg) := inb_of Sz54 ⟨by decide, by decide⟩
    have hat54 : cl54.slots[((2 : Int32)).toNatClampNeg]? = some (.ref w_2) := Hh54 2 (by rw [Sz54]; decide)
    obtain ⟨cq55, kq55, q55a, q55b, q55c⟩ := isOf hZ e43 (E_2.keep K43)
    obtain ⟨_, _, ⟨T55, L55, k55, n55⟩, -, X55, ⟨Lc55, hQ55, l55, y55, z55⟩, st55⟩ := X43.virtualBack hx (y := (⟨"com/example/vestwright/vestwright/model/history/EventKind", "milestone", "()Z"⟩ : MethodName)) (z := (⟨"com/example/vestwright/vestwright/model/history/EventKind", "milestone", "()Z"⟩ : MethodName)) hown (mvT hZ (hw _ (List.mem_of_getElem? (i := 33) rfl))) (mvT hZ (hw _ (List.mem_of_getElem? (i := 34) rfl))) (notFace_of_selects (args := #[]) (mvT hZ (hw _ (List.mem_of_getElem? (i := 36) rfl)))) (mvT hZ (hw _ (List.mem_of_getElem? (i := 36) rfl))) (mvT hZ (hw _ (List.mem_of_getElem? (i := 35) rfl))) (by decide) (backOf (W := 0) (rm1n l Z a0 hw [] w_2  h43 n0 Z43 (own_f0 F_2 K43)) hZ (hw _ (List.mem_of_getElem? (i := 37) rfl)) (hw _ (List.mem_of_getElem? (i := 3) rfl)) (by decide) (by decide)) q55a q55c (g := (mkF m 121 #[.val (.int p0), .val (.ref b1), .val (.int (2 : Int32)), .val (.int (0 : Int32))] [(.ref w_2)])) rfl (by rw [hml]; rfl) (Steps.refl _) (argsL := []) (rest := []) (lenOf pd_0 rfl) rfl (by show 2 * 0 + _ ≤ _; exact Nat.le_of_eq rfl) (hb hby at_121) (fun _ _ => ⟨rfl, e43, (by decide : 1 + 0 ≤ _), (by decide : 14 + 0 ≤ _)⟩)
    dsimp only [Pt.U, Pt.locs, Pt.cells, Pt.slots] at X55 l55 y55 z55 st55 hQ55
    subst l55 y55 z55
    obtain ⟨rfl, Nq55, e55⟩ := hQ55
    have N55 := Fr.app N43 Nq55
    have hc56 : (0 : Int32) = (0 : Int32) := by decide
    obtain ⟨fs, hr, hrun, hended, hW, hsame⟩ := X55.leave (v := some (.int (1 : Int32))) (fun h => by rw [Bd.returns] at h; cases h)
    refine ⟨_, _, pre0 _ (pre44 _ ?_), hrun, hended, _, _, rfl, ?_, ⟨_, rfl⟩, hW, hsame.mono (by decide) (by decide)⟩
    · skip
      show Steps p.tables e below (T43.setTop (mkF m 106 #[.val (.int p0), .val (.ref b1), .val (.int (2 : Int32)), .unset] [])) _
      refine XS.iloadN X43.here hx rfl (hb hby at_106) rfl ?_
      show Steps p.tables e below (T43.setTop (mkF m 107 #[.val (.int p0), .val (.ref b1), .val (.int (2 : Int32)), .unset] [(.int (2 : Int32))])) _
      refine XS.bipush X43.here hx rfl (hb hby at_107) ?_
      show Steps p.tables e below (T43.setTop (mkF m 109 #[.val (.int p0), .val (.ref b1), .val (.int (2 : Int32)), .unset] [(.int (11 : Int32)), (.int (2 : Int32))])) _
      refine XS.icmpYes X43.here hx rfl (pc0 := 109) (pc' := 116) rfl (hb hby at_109) rfl (tlt hc53).1 (by decide) (by decide) ?_
      show Steps p.tables e below (T43.setTop (mkF m 116 #[.val (.int p0), .val (.ref b1), .val (.int (2 : Int32)), .unset] [])) _
      refine XS.iconst X43.here hx rfl (hb hby at_116) ?_
      show Steps p.tables e below (T43.setTop (mkF m 117 #[.val (.int p0), .val (.ref b1), .val (.int (2 : Int32)), .unset] [(.int (0 : Int32))])) _
      refine XS.istoreN X43.here hx rfl (hb hby at_117) rfl (l' := #[.val (.int p0), .val (.ref b1), .val (.int (2 : Int32)), .val (.int (0 : Int32))]) rfl ?_
      show Steps p.tables e below (T43.setTop (mkF m 118 #[.val (.int p0), .val (.ref b1), .val (.int (2 : Int32)), .val (.int (0 : Int32))] [])) _
      refine XS.aloadN X43.here hx rfl (hb hby at_118) rfl rfl ?_
      show Steps p.tables e below (T43.setTop (mkF m 119 #[.val (.int p0), .val (.ref b1), .val (.int (2 : Int32)), .val (.int (0 : Int32))] [(.ref b1)])) _
      refine XS.iloadN X43.here hx rfl (hb hby at_119) rfl ?_
      show Steps p.tables e below (T43.setTop (mkF m 120 #[.val (.int p0), .val (.ref b1), .val (.int (2 : Int32)), .val (.int (0 : Int32))] [(.int (2 : Int32)), (.ref b1)])) _
      refine X43.aaload hx (j := (2 : Int32)) (v := (.ref w_2)) (by rw [e43]; exact Ar54.1) (State.isArrayOf_alike hZ.alike Ar54.2.1) rfl Ar54.2.2 hin54 hat54 (g := (mkF m 120 #[.val (.int p0), .val (.ref b1), .val (.int (2 : Int32)), .val (.int (0 : Int32))] [(.int (2 : Int32)), (.ref b1)])) rfl rfl (hb hby at_120) _ ?_
      show Steps p.tables e below (T43.setTop (mkF m 121 #[.val (.int p0), .val (.ref b1), .val (.int (2 : Int32)), .val (.int (0 : Int32))] [(.ref w_2)])) _
      refine st55.trans ?_
      show Steps p.tables e below (T55.setTop (mkF m 124 #[.val (.int p0), .val (.ref b1), .val (.int (2 : Int32)), .val (.int (0 : Int32))] [(.int (0 : Int32))])) _
      refine XS.iloadN X55.here hx rfl (hb hby at_124) rfl ?_
      show Steps p.tables e below (T55.setTop (mkF m 125 #[.val (.int p0), .val (.ref b1), .val (.int (2 : Int32)), .val (.int (0 : Int32))] [(.int (0 : Int32)), (.int (0 : Int32))])) _
      refine XS.icmpNo X55.here hx rfl (hb hby at_125) rfl (teq hc56).2 ?_
      show Steps p.tables e below (T55.setTop (mkF m 128 #[.val (.int p0), .val (.ref b1), .val (.int (2 : Int32)), .val (.int (0 : Int32))] [])) _
      refine XS.iconst X55.here hx rfl (hb hby at_128) ?_
      show Steps p.tables e below (T55.setTop (mkF m 129 #[.val (.int p0), .val (.ref b1), .val (.int (2 : Int32)), .val (.int (0 : Int32))] [(.int (1 : Int32))])) _
      refine XS.goto X55.here hx rfl (pc0 := 129) (pc' := 133) rfl (hb hby at_129) (by decide) (by decide) ?_
      show Steps p.tables e below (T55.setTop (mkF m 133 #[.val (.int p0), .val (.ref b1), .val (.int (2 : Int32)), .val (.int (0 : Int32))] [(.int (1 : Int32))])) _
      exact retN X55 hx (t := .boolean) Bd.returns (by simp) (hb hby at_133) hr
    · show Q0 Z p0 w_0 w_1 w_2 w_3 w_4 w_5 w_6 w_7 w_8 w_9 w_10 w_11 w_12 w_13 m_c m_w m_a h0 n0 _ T55.heap _
      rw [e55]
      exact ⟨rfl, N55⟩
  · skip
    obtain rfl : kk = (3 : Int32) := own_eq.mpr hk
    have hc57 : (3 : Int32) < (11 : Int32) := by decide
    obtain ⟨cl58, Ar58, -, Sz58, Nn58, Hh58, -⟩ := id V43
    have hin58 : ¬ ((3 : Int32) < 0 ∨ cl58.slots.size ≤ ((3 : Int32)).toNatClampNeg) := inb_of Sz58 ⟨by decide, by decide⟩
    have hat58 : cl58.slots[((3 : Int32)).toNatClampNeg]? = some (.ref w_3) := Hh58 3 (by rw [Sz58]; decide)
    obtain ⟨cq59, kq59, q59a, q59b, q59c⟩ := isOf hZ e43 (E_3.keep K43)
    obtain ⟨_, _, ⟨T59, L59, k59, n59⟩, -, X59, ⟨Lc59, hQ59, l59, y59, z59⟩, st59⟩ := X43.virtualBack hx (y := (⟨"com/example/vestwright/vestwright/model/history/EventKind", "milestone", "()Z"⟩ : MethodName)) (z := (⟨"com/example/vestwright/vestwright/model/history/EventKind", "milestone", "()Z"⟩ : MethodName)) hown (mvT hZ (hw _ (List.mem_of_getElem? (i := 33) rfl))) (mvT hZ (hw _ (List.mem_of_getElem? (i := 34) rfl))) (notFace_of_selects (args := #[]) (mvT hZ (hw _ (List.mem_of_getElem? (i := 36) rfl)))) (mvT hZ (hw _ (List.mem_of_getElem? (i := 36) rfl))) (mvT hZ (hw _ (List.mem_of_getElem? (i := 35) rfl))) (by decide) (backOf (W := 0) (rm1n l Z a0 hw [] w_3  h43 n0 Z43 (own_f0 F_3 K43)) hZ (hw _ (List.mem_of_getElem? (i := 37) rfl)) (hw _ (List.mem_of_getElem? (i := 3) rfl)) (by decide) (by decide)) q59a q59c (g := (mkF m 121 #[.val (.int p0), .val (.ref b1), .val (.int (3 : Int32)), .val (.int (0 : Int32))] [(.ref w_3)])) rfl (by rw [hml]; rfl) (Steps.refl _) (argsL := []) (rest := []) (lenOf pd_0 rfl) rfl (by show 2 * 0 + _ ≤ _; exact Nat.le_of_eq rfl) (hb hby at_121) (fun _ _ => ⟨rfl, e43, (by decide : 1 + 0 ≤ _), (by decide : 14 + 0 ≤ _)⟩)
    dsimp only [Pt.U, Pt.locs, Pt.cells, Pt.slots] at X59 l59 y59 z59 st59 hQ59
    subst l59 y59 z59
    obtain ⟨rfl, Nq59, e59⟩ := hQ59
    have N59 := Fr.app N43 Nq59
    have hc60 : (0 : Int32) = (0 : Int32) := by decide
    obtain ⟨fs, hr, hrun, hended, hW, hsame⟩ := X59.leave (v := some (.int (1 : Int32))) (fun h => by rw [Bd.returns] at h; cases h)
    refine ⟨_, _, pre0 _ (pre44 _ ?_), hrun, hended, _, _, rfl, ?_, ⟨_, rfl⟩, hW, hsame.mono (by decide) (by decide)⟩
    · skip
      show Steps p.tables e below (T43.setTop (mkF m 106 #[.val (.int p0), .val (.ref b1), .val (.int (3 : Int32)), .unset] [])) _
      refine XS.iloadN X43.here hx rfl (hb hby at_106) rfl ?_
      show Steps p.tables e below (T43.setTop (mkF m 107 #[.val (.int p0), .val (.ref b1), .val (.int (3 : Int32)), .unset] [(.int (3 : Int32))])) _
      refine XS.bipush X43.here hx rfl (hb hby at_107) ?_
      show Steps p.tables e below (T43.setTop (mkF m 109 #[.val (.int p0), .val (.ref b1), .val (.int (3 : Int32)), .unset] [(.int (11 : Int32)), (.int (3 : Int32))])) _
      refine XS.icmpYes X43.here hx rfl (pc0 := 109) (pc' := 116) rfl (hb hby at_109) rfl (tlt hc57).1 (by decide) (by decide) ?_
      show Steps p.tables e below (T43.setTop (mkF m 116 #[.val (.int p0), .val (.ref b1), .val (.int (3 : Int32)), .unset] [])) _
      refine XS.iconst X43.here hx rfl (hb hby at_116) ?_
      show Steps p.tables e below (T43.setTop (mkF m 117 #[.val (.int p0), .val (.ref b1), .val (.int (3 : Int32)), .unset] [(.int (0 : Int32))])) _
      refine XS.istoreN X43.here hx rfl (hb hby at_117) rfl (l' := #[.val (.int p0), .val (.ref b1), .val (.int (3 : Int32)), .val (.int (0 : Int32))]) rfl ?_
      show Steps p.tables e below (T43.setTop (mkF m 118 #[.val (.int p0), .val (.ref b1), .val (.int (3 : Int32)), .val (.int (0 : Int32))] [])) _
      refine XS.aloadN X43.here hx rfl (hb hby at_118) rfl rfl ?_
      show Steps p.tables e below (T43.setTop (mkF m 119 #[.val (.int p0), .val (.ref b1), .val (.int (3 : Int32)), .val (.int (0 : Int32))] [(.ref b1)])) _
      refine XS.iloadN X43.here hx rfl (hb hby at_119) rfl ?_
      show Steps p.tables e below (T43.setTop (mkF m 120 #[.val (.int p0), .val (.ref b1), .val (.int (3 : Int32)), .val (.int (0 : Int32))] [(.int (3 : Int32)), (.ref b1)])) _
      refine X43.aaload hx (j := (3 : Int32)) (v := (.ref w_3)) (by rw [e43]; exact Ar58.1) (State.isArrayOf_alike hZ.alike Ar58.2.1) rfl Ar58.2.2 hin58 hat58 (g := (mkF m 120 #[.val (.int p0), .val (.ref b1), .val (.int (3 : Int32)), .val (.int (0 : Int32))] [(.int (3 : Int32)), (.ref b1)])) rfl rfl (hb hby at_120) _ ?_
      show Steps p.tables e below (T43.setTop (mkF m 121 #[.val (.int p0), .val (.ref b1), .val (.int (3 : Int32)), .val (.int (0 : Int32))] [(.ref w_3)])) _
      refine st59.trans ?_
      show Steps p.tables e below (T59.setTop (mkF m 124 #[.val (.int p0), .val (.ref b1), .val (.int (3 : Int32)), .val (.int (0 : Int32))] [(.int (0 : Int32))])) _
      refine XS.iloadN X59.here hx rfl (hb hby at_124) rfl ?_
      show Steps p.tables e below (T59.setTop (mkF m 125 #[.val (.int p0), .val (.ref b1), .val (.int (3 : Int32)), .val (.int (0 : Int32))] [(.int (0 : Int32)), (.int (0 : Int32))])) _
      refine XS.icmpNo X59.here hx rfl (hb hby at_125) rfl (teq hc60).2 ?_
      show Steps p.tables e below (T59.setTop (mkF m 128 #[.val (.int p0), .val (.ref b1), .val (.int (3 : Int32)), .val (.int (0 : Int32))] [])) _
      refine XS.iconst X59.here hx rfl (hb hby at_128) ?_
      show Steps p.tables e below (T59.setTop (mkF m 129 #[.val (.int p0), .val (.ref b1), .val (.int (3 : Int32)), .val (.int (0 : Int32))] [(.int (1 : Int32))])) _
      refine XS.goto X59.here hx rfl (pc0 := 129) (pc' := 133) rfl (hb hby at_129) (by decide) (by decide) ?_
      show Steps p.tables e below (T59.setTop (mkF m 133 #[.val (.int p0), .val (.ref b1), .val (.int (3 : Int32)), .val (.int (0 : Int32))] [(.int (1 : Int32))])) _
      exact retN X59 hx (t := .boolean) Bd.returns (by simp) (hb hby at_133) hr
    · show Q0 Z p0 w_0 w_1 w_2 w_3 w_4 w_5 w_6 w_7 w_8 w_9 w_10 w_11 w_12 w_13 m_c m_w m_a h0 n0 _ T59.heap _
      rw [e59]
      exact ⟨rfl, N59⟩
  · skip
    obtain rfl : kk = (4 : Int32) := own_eq.mpr hk
    have hc61 : (4 : Int32) < (11 : Int32) := by decide
    obtain ⟨cl62, Ar62, -, Sz62, Nn62, Hh62, -⟩ := id V43
    have hin62 : ¬ ((4 : Int32) < 0 ∨ cl62.slots.size ≤ ((4 : Int32)).toNatClampNeg) := inb_of Sz62 ⟨by decide, by decide⟩
    have hat62 : cl62.slots[((4 : Int32)).toNatClampNeg]? = some (.ref w_4) := Hh62 4 (by rw [Sz62]; decide)
    obtain ⟨cq63, kq63, q63a, q63b, q63c⟩ := isOf hZ e43 (E_4.keep K43)
    obtain ⟨_, _, ⟨T63, L63, k63, n63⟩, -, X63, ⟨Lc63, hQ63, l63, y63, z63⟩, st63⟩ := X43.virtualBack hx (y := (⟨"com/example/vestwright/vestwright/model/history/EventKind", "milestone", "()Z"⟩ : MethodName)) (z := (⟨"com/example/vestwright/vestwright/model/history/EventKind", "milestone", "()Z"⟩ : MethodName)) hown (mvT hZ (hw _ (List.mem_of_getElem? (i := 33) rfl))) (mvT hZ (hw _ (List.mem_of_getElem? (i := 34) rfl))) (notFace_of_selects (args := #[]) (mvT hZ (hw _ (List.mem_of_getElem? (i := 36) rfl)))) (mvT hZ (hw _ (List.mem_of_getElem? (i := 36) rfl))) (mvT hZ (hw _ (List.mem_of_getElem? (i := 35) rfl))) (by decide) (backOf (W := 0) (rm1n l Z a0 hw [] w_4  h43 n0 Z43 (own_f0 F_4 K43)) hZ (hw _ (List.mem_of_getElem? (i := 37) rfl)) (hw _ (List.mem_of_getElem? (i := 3) rfl)) (by decide) (by decide)) q63a q63c (g := (mkF m 121 #[.val (.int p0), .val (.ref b1), .val (.int (4 : Int32)), .val (.int (0 : Int32))] [(.ref w_4)])) rfl (by rw [hml]; rfl) (Steps.refl _) (argsL := []) (rest := []) (lenOf pd_0 rfl) rfl (by show 2 * 0 + _ ≤ _; exact Nat.le_of_eq rfl) (hb hby at_121) (fun _ _ => ⟨rfl, e43, (by decide : 1 + 0 ≤ _), (by decide : 14 + 0 ≤ _)⟩)
    dsimp only [Pt.U, Pt.locs, Pt.cells, Pt.slots] at X63 l63 y63 z63 st63 hQ63
    subst l63 y63 z63
    obtain ⟨rfl, Nq63, e63⟩ := hQ63
    have N63 := Fr.app N43 Nq63
    have hc64 : (0 : Int32) = (0 : Int32) := by decide
    obtain ⟨fs, hr, hrun, hended, hW, hsame⟩ := X63.leave (v := some (.int (1 : Int32))) (fun h => by rw [Bd.returns] at h; cases h)
    refine ⟨_, _, pre0 _ (pre44 _ ?_), hrun, hended, _, _, rfl, ?_, ⟨_, rfl⟩, hW, hsame.mono (by decide) (by decide)⟩
    · skip
      show Steps p.tables e below (T43.setTop (mkF m 106 #[.val (.int p0), .val (.ref b1), .val (.int (4 : Int32)), .unset] [])) _
      refine XS.iloadN X43.here hx rfl (hb hby at_106) rfl ?_
      show Steps p.tables e below (T43.setTop (mkF m 107 #[.val (.int p0), .val (.ref b1), .val (.int (4 : Int32)), .unset] [(.int (4 : Int32))])) _
      refine XS.bipush X43.here hx rfl (hb hby at_107) ?_
      show Steps p.tables e below (T43.setTop (mkF m 109 #[.val (.int p0), .val (.ref b1), .val (.int (4 : Int32)), .unset] [(.int (11 : Int32)), (.int (4 : Int32))])) _
      refine XS.icmpYes X43.here hx rfl (pc0 := 109) (pc' := 116) rfl (hb hby at_109) rfl (tlt hc61).1 (by decide) (by decide) ?_
      show Steps p.tables e below (T43.setTop (mkF m 116 #[.val (.int p0), .val (.ref b1), .val (.int (4 : Int32)), .unset] [])) _
      refine XS.iconst X43.here hx rfl (hb hby at_116) ?_
      show Steps p.tables e below (T43.setTop (mkF m 117 #[.val (.int p0), .val (.ref b1), .val (.int (4 : Int32)), .unset] [(.int (0 : Int32))])) _
      refine XS.istoreN X43.here hx rfl (hb hby at_117) rfl (l' := #[.val (.int p0), .val (.ref b1), .val (.int (4 : Int32)), .val (.int (0 : Int32))]) rfl ?_
      show Steps p.tables e below (T43.setTop (mkF m 118 #[.val (.int p0), .val (.ref b1), .val (.int (4 : Int32)), .val (.int (0 : Int32))] [])) _
      refine XS.aloadN X43.here hx rfl (hb hby at_118) rfl rfl ?_
      show Steps p.tables e below (T43.setTop (mkF m 119 #[.val (.int p0), .val (.ref b1), .val (.int (4 : Int32)), .val (.int (0 : Int32))] [(.ref b1)])) _
      refine XS.iloadN X43.here hx rfl (hb hby at_119) rfl ?_
      show Steps p.tables e below (T43.setTop (mkF m 120 #[.val (.int p0), .val (.ref b1), .val (.int (4 : Int32)), .val (.int (0 : Int32))] [(.int (4 : Int32)), (.ref b1)])) _
      refine X43.aaload hx (j := (4 : Int32)) (v := (.ref w_4)) (by rw [e43]; exact Ar62.1) (State.isArrayOf_alike hZ.alike Ar62.2.1) rfl Ar62.2.2 hin62 hat62 (g := (mkF m 120 #[.val (.int p0), .val (.ref b1), .val (.int (4 : Int32)), .val (.int (0 : Int32))] [(.int (4 : Int32)), (.ref b1)])) rfl rfl (hb hby at_120) _ ?_
      show Steps p.tables e below (T43.setTop (mkF m 121 #[.val (.int p0), .val (.ref b1), .val (.int (4 : Int32)), .val (.int (0 : Int32))] [(.ref w_4)])) _
      refine st63.trans ?_
      show Steps p.tables e below (T63.setTop (mkF m 124 #[.val (.int p0), .val (.ref b1), .val (.int (4 : Int32)), .val (.int (0 : Int32))] [(.int (0 : Int32))])) _
      refine XS.iloadN X63.here hx rfl (hb hby at_124) rfl ?_
      show Steps p.tables e below (T63.setTop (mkF m 125 #[.val (.int p0), .val (.ref b1), .val (.int (4 : Int32)), .val (.int (0 : Int32))] [(.int (0 : Int32)), (.int (0 : Int32))])) _
      refine XS.icmpNo X63.here hx rfl (hb hby at_125) rfl (teq hc64).2 ?_
      show Steps p.tables e below (T63.setTop (mkF m 128 #[.val (.int p0), .val (.ref b1), .val (.int (4 : Int32)), .val (.int (0 : Int32))] [])) _
      refine XS.iconst X63.here hx rfl (hb hby at_128) ?_
      show Steps p.tables e below (T63.setTop (mkF m 129 #[.val (.int p0), .val (.ref b1), .val (.int (4 : Int32)), .val (.int (0 : Int32))] [(.int (1 : Int32))])) _
      refine XS.goto X63.here hx rfl (pc0 := 129) (pc' := 133) rfl (hb hby at_129) (by decide) (by decide) ?_
      show Steps p.tables e below (T63.setTop (mkF m 133 #[.val (.int p0), .val (.ref b1), .val (.int (4 : Int32)), .val (.int (0 : Int32))] [(.int (1 : Int32))])) _
      exact retN X63 hx (t := .boolean) Bd.returns (by simp) (hb hby at_133) hr
    · show Q0 Z p0 w_0 w_1 w_2 w_3 w_4 w_5 w_6 w_7 w_8 w_9 w_10 w_11 w_12 w_13 m_c m_w m_a h0 n0 _ T63.heap _
      rw [e63]
      exact ⟨rfl, N63⟩
  · skip
    obtain rfl : kk = (5 : Int32) := own_eq.mpr hk
    have hc65 : (5 : Int32) < (11 : Int32) := by decide
    obtain ⟨cl66, Ar66, -, Sz66, Nn66, Hh66, -⟩ := id V43
    have hin66 : ¬ ((5 : Int32) < 0 ∨ cl66.slots.size ≤ ((5 : Int32)).toNatClampNeg) := inb_of Sz66 ⟨by decide, by decide⟩
    have hat66 : cl66.slots[((5 : Int32)).toNatClampNeg]? = some (.ref w_5) := Hh66 5 (by rw [Sz66]; decide)
    obtain ⟨cq67, kq67, q67a, q67b, q67c⟩ := isOf hZ e43 (E_5.keep K43)
    obtain ⟨_, _, ⟨T67, L67, k67, n67⟩, -, X67, ⟨Lc67, hQ67, l67, y67, z67⟩, st67⟩ := X43.virtualBack hx (y := (⟨"com/example/vestwright/vestwright/model/history/EventKind", "milestone", "()Z"⟩ : MethodName)) (z := (⟨"com/example/vestwright/vestwright/model/history/EventKind", "milestone", "()Z"⟩ : MethodName)) hown (mvT hZ (hw _ (List.mem_of_getElem? (i := 33) rfl))) (mvT hZ (hw _ (List.mem_of_getElem? (i := 34) rfl))) (notFace_of_selects (args := #[]) (mvT hZ (hw _ (List.mem_of_getElem? (i := 36) rfl)))) (mvT hZ (hw _ (List.mem_of_getElem? (i := 36) rfl))) (mvT hZ (hw _ (List.mem_of_getElem? (i := 35) rfl))) (by decide) (backOf (W := 0) (rm1n l Z a0 hw [] w_5  h43 n0 Z43 (own_f0 F_5 K43)) hZ (hw _ (List.mem_of_getElem? (i := 37) rfl)) (hw _ (List.mem_of_getElem? (i := 3) rfl)) (by decide) (by decide)) q67a q67c (g := (mkF m 121 #[.val (.int p0), .val (.ref b1), .val (.int (5 : Int32)), .val (.int (0 : Int32))] [(.ref w_5)])) rfl (by rw [hml]; rfl) (Steps.refl _) (argsL := []) (rest := []) (lenOf pd_0 rfl) rfl (by show 2 * 0 + _ ≤ _; exact Nat.le_of_eq rfl) (hb hby at_121) (fun _ _ => ⟨rfl, e43, (by decide : 1 + 0 ≤ _), (by decide : 14 + 0 ≤ _)⟩)
    dsimp only [Pt.U, Pt.locs, Pt.cells, Pt.slots] at X67 l67 y67 z67 st67 hQ67
    subst l67 y67 z67
    obtain ⟨rfl, Nq67, e67⟩ := hQ67
    have N67 := Fr.app N43 Nq67
    have hc68 : (0 : Int32) = (0 : Int32) := by decide
    obtain ⟨fs, hr, hrun, hended, hW, hsame⟩ := X67.leave (v := some (.int (1 : Int32))) (fun h => by rw [Bd.returns] at h; cases h)
    refine ⟨_, _, pre0 _ (pre44 _ ?_), hrun, hended, _, _, rfl, ?_, ⟨_, rfl⟩, hW, hsame.mono (by decide) (by decide)⟩
    · skip
      show Steps p.tables e below (T43.setTop (mkF m 106 #[.val (.int p0), .val (.ref b1), .val (.int (5 : Int32)), .unset] [])) _
      refine XS.iloadN X43.here hx rfl (hb hby at_106) rfl ?_
      show Steps p.tables e below (T43.setTop (mkF m 107 #[.val (.int p0), .val (.ref b1), .val (.int (5 : Int32)), .unset] [(.int (5 : Int32))])) _
      refine XS.bipush X43.here hx rfl (hb hby at_107) ?_
      show Steps p.tables e below (T43.setTop (mkF m 109 #[.val (.int p0), .val (.ref b1), .val (.int (5 : Int32)), .unset] [(.int (11 : Int32)), (.int (5 : Int32))])) _
      refine XS.icmpYes X43.here hx rfl (pc0 := 109) (pc' := 116) rfl (hb hby at_109) rfl (tlt hc65).1 (by decide) (by decide) ?_
      show Steps p.tables e below (T43.setTop (mkF m 116 #[.val (.int p0), .val (.ref b1), .val (.int (5 : Int32)), .unset] [])) _
      refine XS.iconst X43.here hx rfl (hb hby at_116) ?_
      show Steps p.tables e below (T43.setTop (mkF m 117 #[.val (.int p0), .val (.ref b1), .val (.int (5 : Int32)), .unset] [(.int (0 : Int32))])) _
      refine XS.istoreN X43.here hx rfl (hb hby at_117) rfl (l' := #[.val (.int p0), .val (.ref b1), .val (.int (5 : Int32)), .val (.int (0 : Int32))]) rfl ?_
      show Steps p.tables e below (T43.setTop (mkF m 118 #[.val (.int p0), .val (.ref b1), .val (.int (5 : Int32)), .val (.int (0 : Int32))] [])) _
      refine XS.aloadN X43.here hx rfl (hb hby at_118) rfl rfl ?_
      show Steps p.tables e below (T43.setTop (mkF m 119 #[.val (.int p0), .val (.ref b1), .val (.int (5 : Int32)), .val (.int (0 : Int32))] [(.ref b1)])) _
      refine XS.iloadN X43.here hx rfl (hb hby at_119) rfl ?_
      show Steps p.tables e below (T43.setTop (mkF m 120 #[.val (.int p0), .val (.ref b1), .val (.int (5 : Int32)), .val (.int (0 : Int32))] [(.int (5 : Int32)), (.ref b1)])) _
      refine X43.aaload hx (j := (5 : Int32)) (v := (.ref w_5)) (by rw [e43]; exact Ar66.1) (State.isArrayOf_alike hZ.alike Ar66.2.1) rfl Ar66.2.2 hin66 hat66 (g := (mkF m 120 #[.val (.int p0), .val (.ref b1), .val (.int (5 : Int32)), .val (.int (0 : Int32))] [(.int (5 : Int32)), (.ref b1)])) rfl rfl (hb hby at_120) _ ?_
      show Steps p.tables e below (T43.setTop (mkF m 121 #[.val (.int p0), .val (.ref b1), .val (.int (5 : Int32)), .val (.int (0 : Int32))] [(.ref w_5)])) _
      refine st67.trans ?_
      show Steps p.tables e below (T67.setTop (mkF m 124 #[.val (.int p0), .val (.ref b1), .val (.int (5 : Int32)), .val (.int (0 : Int32))] [(.int (0 : Int32))])) _
      refine XS.iloadN X67.here hx rfl (hb hby at_124) rfl ?_
      show Steps p.tables e below (T67.setTop (mkF m 125 #[.val (.int p0), .val (.ref b1), .val (.int (5 : Int32)), .val (.int (0 : Int32))] [(.int (0 : Int32)), (.int (0 : Int32))])) _
      refine XS.icmpNo X67.here hx rfl (hb hby at_125) rfl (teq hc68).2 ?_
      show Steps p.tables e below (T67.setTop (mkF m 128 #[.val (.int p0), .val (.ref b1), .val (.int (5 : Int32)), .val (.int (0 : Int32))] [])) _
      refine XS.iconst X67.here hx rfl (hb hby at_128) ?_
      show Steps p.tables e below (T67.setTop (mkF m 129 #[.val (.int p0), .val (.ref b1), .val (.int (5 : Int32)), .val (.int (0 : Int32))] [(.int (1 : Int32))])) _
      refine XS.goto X67.here hx rfl (pc0 := 129) (pc' := 133) rfl (hb hby at_129) (by decide) (by decide) ?_
      show Steps p.tables e below (T67.setTop (mkF m 133 #[.val (.int p0), .val (.ref b1), .val (.int (5 : Int32)), .val (.int (0 : Int32))] [(.int (1 : Int32))])) _
      exact retN X67 hx (t := .boolean) Bd.returns (by simp) (hb hby at_133) hr
    · show Q0 Z p0 w_0 w_1 w_2 w_3 w_4 w_5 w_6 w_7 w_8 w_9 w_10 w_11 w_12 w_13 m_c m_w m_a h0 n0 _ T67.heap _
      rw [e67]
      exact ⟨rfl, N67⟩
  · skip
    obtain rfl : kk = (6 : Int32) := own_eq.mpr hk
    have hc69 : (6 : Int32) < (11 : Int32) := by decide
    obtain ⟨cl70, Ar70, -, Sz70, Nn70, Hh70, -⟩ := id V43
    have hin70 : ¬ ((6 : Int32) < 0 ∨ cl70.slots.size ≤ ((6 : Int32)).toNatClampNeg) := inb_of Sz70 ⟨by decide, by decide⟩
    have hat70 : cl70.slots[((6 : Int32)).toNatClampNeg]? = some (.ref w_6) := Hh70 6 (by rw [Sz70]; decide)
    obtain ⟨cq71, kq71, q71a, q71b, q71c⟩ := isOf hZ e43 (E_6.keep K43)
    obtain ⟨_, _, ⟨T71, L71, k71, n71⟩, -, X71, ⟨Lc71, hQ71, l71, y71, z71⟩, st71⟩ := X43.virtualBack hx (y := (⟨"com/example/vestwright/vestwright/model/history/EventKind", "milestone", "()Z"⟩ : MethodName)) (z := (⟨"com/example/vestwright/vestwright/model/history/EventKind", "milestone", "()Z"⟩ : MethodName)) hown (mvT hZ (hw _ (List.mem_of_getElem? (i := 33) rfl))) (mvT hZ (hw _ (List.mem_of_getElem? (i := 34) rfl))) (notFace_of_selects (args := #[]) (mvT hZ (hw _ (List.mem_of_getElem? (i := 36) rfl)))) (mvT hZ (hw _ (List.mem_of_getElem? (i := 36) rfl))) (mvT hZ (hw _ (List.mem_of_getElem? (i := 35) rfl))) (by decide) (backOf (W := 0) (rm1n l Z a0 hw [] w_6  h43 n0 Z43 (own_f0 F_6 K43)) hZ (hw _ (List.mem_of_getElem? (i := 37) rfl)) (hw _ (List.mem_of_getElem? (i := 3) rfl)) (by decide) (by decide)) q71a q71c (g := (mkF m 121 #[.val (.int p0), .val (.ref b1), .val (.int (6 : Int32)), .val (.int (0 : Int32))] [(.ref w_6)])) rfl (by rw [hml]; rfl) (Steps.refl _) (argsL := []) (rest := []) (lenOf pd_0 rfl) rfl (by show 2 * 0 + _ ≤ _; exact Nat.le_of_eq rfl) (hb hby at_121) (fun _ _ => ⟨rfl, e43, (by decide : 1 + 0 ≤ _), (by decide : 14 + 0 ≤ _)⟩)
    dsimp only [Pt.U, Pt.locs, Pt.cells, Pt.slots] at X71 l71 y71 z71 st71 hQ71
    subst l71 y71 z71
    obtain ⟨rfl, Nq71, e71⟩ := hQ71
    have N71 := Fr.app N43 Nq71
    have hc72 : (0 : Int32) = (0 : Int32) := by decide
    obtain ⟨fs, hr, hrun, hended, hW, hsame⟩ := X71.leave (v := some (.int (1 : Int32))) (fun h => by rw [Bd.returns] at h; cases h)
    refine ⟨_, _, pre0 _ (pre44 _ ?_), hrun, hended, _, _, rfl, ?_, ⟨_, rfl⟩, hW, hsame.mono (by decide) (by decide)⟩
    · skip
      show Steps p.tables e below (T43.setTop (mkF m 106 #[.val (.int p0), .val (.ref b1), .val (.int (6 : Int32)), .unset] [])) _
      refine XS.iloadN X43.here hx rfl (hb hby at_106) rfl ?_
      show Steps p.tables e below (T43.setTop (mkF m 107 #[.val (.int p0), .val (.ref b1), .val (.int (6 : Int32)), .unset] [(.int (6 : Int32))])) _
      refine XS.bipush X43.here hx rfl (hb hby at_107) ?_
      show Steps p.tables e below (T43.setTop (mkF m 109 #[.val (.int p0), .val (.ref b1), .val (.int (6 : Int32)), .unset] [(.int (11 : Int32)), (.int (6 : Int32))])) _
      refine XS.icmpYes X43.here hx rfl (pc0 := 109) (pc' := 116) rfl (hb hby at_109) rfl (tlt hc69).1 (by decide) (by decide) ?_
      show Steps p.tables e below (T43.setTop (mkF m 116 #[.val (.int p0), .val (.ref b1), .val (.int (6 : Int32)), .unset] [])) _
      refine XS.iconst X43.here hx rfl (hb hby at_116) ?_
      show Steps p.tables e below (T43.setTop (mkF m 117 #[.val (.int p0), .val (.ref b1), .val (.int (6 : Int32)), .unset] [(.int (0 : Int32))])) _
      refine XS.istoreN X43.here hx rfl (hb hby at_117) rfl (l' := #[.val (.int p0), .val (.ref b1), .val (.int (6 : Int32)), .val (.int (0 : Int32))]) rfl ?_
      show Steps p.tables e below (T43.setTop (mkF m 118 #[.val (.int p0), .val (.ref b1), .val (.int (6 : Int32)), .val (.int (0 : Int32))] [])) _
      refine XS.aloadN X43.here hx rfl (hb hby at_118) rfl rfl ?_
      show Steps p.tables e below (T43.setTop (mkF m 119 #[.val (.int p0), .val (.ref b1), .val (.int (6 : Int32)), .val (.int (0 : Int32))] [(.ref b1)])) _
      refine XS.iloadN X43.here hx rfl (hb hby at_119) rfl ?_
      show Steps p.tables e below (T43.setTop (mkF m 120 #[.val (.int p0), .val (.ref b1), .val (.int (6 : Int32)), .val (.int (0 : Int32))] [(.int (6 : Int32)), (.ref b1)])) _
      refine X43.aaload hx (j := (6 : Int32)) (v := (.ref w_6)) (by rw [e43]; exact Ar70.1) (State.isArrayOf_alike hZ.alike Ar70.2.1) rfl Ar70.2.2 hin70 hat70 (g := (mkF m 120 #[.val (.int p0), .val (.ref b1), .val (.int (6 : Int32)), .val (.int (0 : Int32))] [(.int (6 : Int32)), (.ref b1)])) rfl rfl (hb hby at_120) _ ?_
      show Steps p.tables e below (T43.setTop (mkF m 121 #[.val (.int p0), .val (.ref b1), .val (.int (6 : Int32)), .val (.int (0 : Int32))] [(.ref w_6)])) _
      refine st71.trans ?_
      show Steps p.tables e below (T71.setTop (mkF m 124 #[.val (.int p0), .val (.ref b1), .val (.int (6 : Int32)), .val (.int (0 : Int32))] [(.int (0 : Int32))])) _
      refine XS.iloadN X71.here hx rfl (hb hby at_124) rfl ?_
      show Steps p.tables e below (T71.setTop (mkF m 125 #[.val (.int p0), .val (.ref b1), .val (.int (6 : Int32)), .val (.int (0 : Int32))] [(.int (0 : Int32)), (.int (0 : Int32))])) _
      refine XS.icmpNo X71.here hx rfl (hb hby at_125) rfl (teq hc72).2 ?_
      show Steps p.tables e below (T71.setTop (mkF m 128 #[.val (.int p0), .val (.ref b1), .val (.int (6 : Int32)), .val (.int (0 : Int32))] [])) _
      refine XS.iconst X71.here hx rfl (hb hby at_128) ?_
      show Steps p.tables e below (T71.setTop (mkF m 129 #[.val (.int p0), .val (.ref b1), .val (.int (6 : Int32)), .val (.int (0 : Int32))] [(.int (1 : Int32))])) _
      refine XS.goto X71.here hx rfl (pc0 := 129) (pc' := 133) rfl (hb hby at_129) (by decide) (by decide) ?_
      show Steps p.tables e below (T71.setTop (mkF m 133 #[.val (.int p0), .val (.ref b1), .val (.int (6 : Int32)), .val (.int (0 : Int32))] [(.int (1 : Int32))])) _
      exact retN X71 hx (t := .boolean) Bd.returns (by simp) (hb hby at_133) hr
    · show Q0 Z p0 w_0 w_1 w_2 w_3 w_4 w_5 w_6 w_7 w_8 w_9 w_10 w_11 w_12 w_13 m_c m_w m_a h0 n0 _ T71.heap _
      rw [e71]
      exact ⟨rfl, N71⟩
  · skip
    obtain rfl : kk = (7 : Int32) := own_eq.mpr hk
    have hc73 : (7 : Int32) < (11 : Int32) := by decide
    obtain ⟨cl74, Ar74, -, Sz74, Nn74, Hh74, -⟩ := id V43
    have hin74 : ¬ ((7 : Int32) < 0 ∨ cl74.slots.size ≤ ((7 : Int32)).toNatClampNeg) := inb_of Sz74 ⟨by decide, by decide⟩
    have hat74 : cl74.slots[((7 : Int32)).toNatClampNeg]? = some (.ref w_7) := Hh74 7 (by rw [Sz74]; decide)
    obtain ⟨cq75, kq75, q75a, q75b, q75c⟩ := isOf hZ e43 (E_7.keep K43)
    obtain ⟨_, _, ⟨T75, L75, k75, n75⟩, -, X75, ⟨Lc75, hQ75, l75, y75, z75⟩, st75⟩ := X43.virtualBack hx (y := (⟨"com/example/vestwright/vestwright/model/history/EventKind", "milestone", "()Z"⟩ : MethodName)) (z := (⟨"com/example/vestwright/vestwright/model/history/EventKind", "milestone", "()Z"⟩ : MethodName)) hown (mvT hZ (hw _ (List.mem_of_getElem? (i := 33) rfl))) (mvT hZ (hw _ (List.mem_of_getElem? (i := 34) rfl))) (notFace_of_selects (args := #[]) (mvT hZ (hw _ (List.mem_of_getElem? (i := 36) rfl)))) (mvT hZ (hw _ (List.mem_of_getElem? (i := 36) rfl))) (mvT hZ (hw _ (List.mem_of_getElem? (i := 35) rfl))) (by decide) (backOf (W := 0) (rm1n l Z a0 hw [] w_7  h43 n0 Z43 (own_f0 F_7 K43)) hZ (hw _ (List.mem_of_getElem? (i := 37) rfl)) (hw _ (List.mem_of_getElem? (i := 3) rfl)) (by decide) (by decide)) q75a q75c (g := (mkF m 121 #[.val (.int p0), .val (.ref b1), .val (.int (7 : Int32)), .val (.int (0 : Int32))] [(.ref w_7)])) rfl (by rw [hml]; rfl) (Steps.refl _) (argsL := []) (rest := []) (lenOf pd_0 rfl) rfl (by show 2 * 0 + _ ≤ _; exact Nat.le_of_eq rfl) (hb hby at_121) (fun _ _ => ⟨rfl, e43, (by decide : 1 + 0 ≤ _), (by decide : 14 + 0 ≤ _)⟩)
    dsimp only [Pt.U, Pt.locs, Pt.cells, Pt.slots] at X75 l75 y75 z75 st75 hQ75
    subst l75 y75 z75
    obtain ⟨rfl, Nq75, e75⟩ := hQ75
    have N75 := Fr.app N43 Nq75
    have hc76 : (0 : Int32) = (0 : Int32) := by decide
    obtain ⟨fs, hr, hrun, hended, hW, hsame⟩ := X75.leave (v := some (.int (1 : Int32))) (fun h => by rw [Bd.returns] at h; cases h)
    refine ⟨_, _, pre0 _ (pre44 _ ?_), hrun, hended, _, _, rfl, ?_, ⟨_, rfl⟩, hW, hsame.mono (by decide) (by decide)⟩
    · skip
      show Steps p.tables e below (T43.setTop (mkF m 106 #[.val (.int p0), .val (.ref b1), .val (.int (7 : Int32)), .unset] [])) _
      refine XS.iloadN X43.here hx rfl (hb hby at_106) rfl ?_
      show Steps p.tables e below (T43.setTop (mkF m 107 #[.val (.int p0), .val (.ref b1), .val (.int (7 : Int32)), .unset] [(.int (7 : Int32))])) _
      refine XS.bipush X43.here hx rfl (hb hby at_107) ?_
      show Steps p.tables e below (T43.setTop (mkF m 109 #[.val (.int p0), .val (.ref b1), .val (.int (7 : Int32)), .unset] [(.int (11 : Int32)), (.int (7 : Int32))])) _
      refine XS.icmpYes X43.here hx rfl (pc0 := 109) (pc' := 116) rfl (hb hby at_109) rfl (tlt hc73).1 (by decide) (by decide) ?_
      show Steps p.tables e below (T43.setTop (mkF m 116 #[.val (.int p0), .val (.ref b1), .val (.int (7 : Int32)), .unset] [])) _
      refine XS.iconst X43.here hx rfl (hb hby at_116) ?_
      show Steps p.tables e below (T43.setTop (mkF m 117 #[.val (.int p0), .val (.ref b1), .val (.int (7 : Int32)), .unset] [(.int (0 : Int32))])) _
      refine XS.istoreN X43.here hx rfl (hb hby at_117) rfl (l' := #[.val (.int p0), .val (.ref b1), .val (.int (7 : Int32)), .val (.int (0 : Int32))]) rfl ?_
      show Steps p.tables e below (T43.setTop (mkF m 118 #[.val (.int p0), .val (.ref b1), .val (.int (7 : Int32)), .val (.int (0 : Int32))] [])) _
      refine XS.aloadN X43.here hx rfl (hb hby at_118) rfl rfl ?_
      show Steps p.tables e below (T43.setTop (mkF m 119 #[.val (.int p0), .val (.ref b1), .val (.int (7 : Int32)), .val (.int (0 : Int32))] [(.ref b1)])) _
      refine XS.iloadN X43.here hx rfl (hb hby at_119) rfl ?_
      show Steps p.tables e below (T43.setTop (mkF m 120 #[.val (.int p0), .val (.ref b1), .val (.int (7 : Int32)), .val (.int (0 : Int32))] [(.int (7 : Int32)), (.ref b1)])) _
      refine X43.aaload hx (j := (7 : Int32)) (v := (.ref w_7)) (by rw [e43]; exact Ar74.1) (State.isArrayOf_alike hZ.alike Ar74.2.1) rfl Ar74.2.2 hin74 hat74 (g := (mkF m 120 #[.val (.int p0), .val (.ref b1), .val (.int (7 : Int32)), .val (.int (0 : Int32))] [(.int (7 : Int32)), (.ref b1)])) rfl rfl (hb hby at_120) _ ?_
      show Steps p.tables e below (T43.setTop (mkF m 121 #[.val (.int p0), .val (.ref b1), .val (.int (7 : Int32)), .val (.int (0 : Int32))] [(.ref w_7)])) _
      refine st75.trans ?_
      show Steps p.tables e below (T75.setTop (mkF m 124 #[.val (.int p0), .val (.ref b1), .val (.int (7 : Int32)), .val (.int (0 : Int32))] [(.int (0 : Int32))])) _
      refine XS.iloadN X75.here hx rfl (hb hby at_124) rfl ?_
      show Steps p.tables e below (T75.setTop (mkF m 125 #[.val (.int p0), .val (.ref b1), .val (.int (7 : Int32)), .val (.int (0 : Int32))] [(.int (0 : Int32)), (.int (0 : Int32))])) _
      refine XS.icmpNo X75.here hx rfl (hb hby at_125) rfl (teq hc76).2 ?_
      show Steps p.tables e below (T75.setTop (mkF m 128 #[.val (.int p0), .val (.ref b1), .val (.int (7 : Int32)), .val (.int (0 : Int32))] [])) _
      refine XS.iconst X75.here hx rfl (hb hby at_128) ?_
      show Steps p.tables e below (T75.setTop (mkF m 129 #[.val (.int p0), .val (.ref b1), .val (.int (7 : Int32)), .val (.int (0 : Int32))] [(.int (1 : Int32))])) _
      refine XS.goto X75.here hx rfl (pc0 := 129) (pc' := 133) rfl (hb hby at_129) (by decide) (by decide) ?_
      show Steps p.tables e below (T75.setTop (mkF m 133 #[.val (.int p0), .val (.ref b1), .val (.int (7 : Int32)), .val (.int (0 : Int32))] [(.int (1 : Int32))])) _
      exact retN X75 hx (t := .boolean) Bd.returns (by simp) (hb hby at_133) hr
    · show Q0 Z p0 w_0 w_1 w_2 w_3 w_4 w_5 w_6 w_7 w_8 w_9 w_10 w_11 w_12 w_13 m_c m_w m_a h0 n0 _ T75.heap _
      rw [e75]
      exact ⟨rfl, N75⟩
  · skip
    obtain rfl : kk = (8 : Int32) := own_eq.mpr hk
    have hc77 : (8 : Int32) < (11 : Int32) := by decide
    obtain ⟨cl78, Ar78, -, Sz78, Nn78, Hh78, -⟩ := id V43
    have hin78 : ¬ ((8 : Int32) < 0 ∨ cl78.slots.size ≤ ((8 : Int32)).toNatClampNeg) := inb_of Sz78 ⟨by decide, by decide⟩
    have hat78 : cl78.slots[((8 : Int32)).toNatClampNeg]? = some (.ref w_8) := Hh78 8 (by rw [Sz78]; decide)
    obtain ⟨cq79, kq79, q79a, q79b, q79c⟩ := isOf hZ e43 (E_8.keep K43)
    obtain ⟨_, _, ⟨T79, L79, k79, n79⟩, -, X79, ⟨Lc79, hQ79, l79, y79, z79⟩, st79⟩ := X43.virtualBack hx (y := (⟨"com/example/vestwright/vestwright/model/history/EventKind", "milestone", "()Z"⟩ : MethodName)) (z := (⟨"com/example/vestwright/vestwright/model/history/EventKind", "milestone", "()Z"⟩ : MethodName)) hown (mvT hZ (hw _ (List.mem_of_getElem? (i := 33) rfl))) (mvT hZ (hw _ (List.mem_of_getElem? (i := 34) rfl))) (notFace_of_selects (args := #[]) (mvT hZ (hw _ (List.mem_of_getElem? (i := 36) rfl)))) (mvT hZ (hw _ (List.mem_of_getElem? (i := 36) rfl))) (mvT hZ (hw _ (List.mem_of_getElem? (i := 35) rfl))) (by decide) (backOf (W := 0) (rm1n l Z a0 hw [] w_8  h43 n0 Z43 (own_f0 F_8 K43)) hZ (hw _ (List.mem_of_getElem? (i := 37) rfl)) (hw _ (List.mem_of_getElem? (i := 3) rfl)) (by decide) (by decide)) q79a q79c (g := (mkF m 121 #[.val (.int p0), .val (.ref b1), .val (.int (8 : Int32)), .val (.int (0 : Int32))] [(.ref w_8)])) rfl (by rw [hml]; rfl) (Steps.refl _) (argsL := []) (rest := []) (lenOf pd_0 rfl) rfl (by show 2 * 0 + _ ≤ _; exact Nat.le_of_eq rfl) (hb hby at_121) (fun _ _ => ⟨rfl, e43, (by decide : 1 + 0 ≤ _), (by decide : 14 + 0 ≤ _)⟩)
    dsimp only [Pt.U, Pt.locs, Pt.cells, Pt.slots] at X79 l79 y79 z79 st79 hQ79
    subst l79 y79 z79
    obtain ⟨rfl, Nq79, e79⟩ := hQ79
    have N79 := Fr.app N43 Nq79
    have hc80 : (0 : Int32) = (0 : Int32) := by decide
    obtain ⟨fs, hr, hrun, hended, hW, hsame⟩ := X79.leave (v := some (.int (1 : Int32))) (fun h => by rw [Bd.returns] at h; cases h)
    refine ⟨_, _, pre0 _ (pre44 _ ?_), hrun, hended, _, _, rfl, ?_, ⟨_, rfl⟩, hW, hsame.mono (by decide) (by decide)⟩
    · skip
      show Steps p.tables e below (T43.setTop (mkF m 106 #[.val (.int p0), .val (.ref b1), .val (.int (8 : Int32)), .unset] [])) _
      refine XS.iloadN X43.here hx rfl (hb hby at_106) rfl ?_
      show Steps p.tables e below (T43.setTop (mkF m 107 #[.val (.int p0), .val (.ref b1), .val (.int (8 : Int32)), .unset] [(.int (8 : Int32))])) _
      refine XS.bipush X43.here hx rfl (hb hby at_107) ?_
      show Steps p.tables e below (T43.setTop (mkF m 109 #[.val (.int p0), .val (.ref b1), .val (.int (8 : Int32)), .unset] [(.int (11 : Int32)), (.int (8 : Int32))])) _
      refine XS.icmpYes X43.here hx rfl (pc0 := 109) (pc' := 116) rfl (hb hby at_109) rfl (tlt hc77).1 (by decide) (by decide) ?_
      show Steps p.tables e below (T43.setTop (mkF m 116 #[.val (.int p0), .val (.ref b1), .val (.int (8 : Int32)), .unset] [])) _
      refine XS.iconst X43.here hx rfl (hb hby at_116) ?_
      show Steps p.tables e below (T43.setTop (mkF m 117 #[.val (.int p0), .val (.ref b1), .val (.int (8 : Int32)), .unset] [(.int (0 : Int32))])) _
      refine XS.istoreN X43.here hx rfl (hb hby at_117) rfl (l' := #[.val (.int p0), .val (.ref b1), .val (.int (8 : Int32)), .val (.int (0 : Int32))]) rfl ?_
      show Steps p.tables e below (T43.setTop (mkF m 118 #[.val (.int p0), .val (.ref b1), .val (.int (8 : Int32)), .val (.int (0 : Int32))] [])) _
      refine XS.aloadN X43.here hx rfl (hb hby at_118) rfl rfl ?_
      show Steps p.tables e below (T43.setTop (mkF m 119 #[.val (.int p0), .val (.ref b1), .val (.int (8 : Int32)), .val (.int (0 : Int32))] [(.ref b1)])) _
      refine XS.iloadN X43.here hx rfl (hb hby at_119) rfl ?_
      show Steps p.tables e below (T43.setTop (mkF m 120 #[.val (.int p0), .val (.ref b1), .val (.int (8 : Int32)), .val (.int (0 : Int32))] [(.int (8 : Int32)), (.ref b1)])) _
      refine X43.aaload hx (j := (8 : Int32)) (v := (.ref w_8)) (by rw [e43]; exact Ar78.1) (State.isArrayOf_alike hZ.alike Ar78.2.1) rfl Ar78.2.2 hin78 hat78 (g := (mkF m 120 #[.val (.int p0), .val (.ref b1), .val (.int (8 : Int32)), .val (.int (0 : Int32))] [(.int (8 : Int32)), (.ref b1)])) rfl rfl (hb hby at_120) _ ?_
      show Steps p.tables e below (T43.setTop (mkF m 121 #[.val (.int p0), .val (.ref b1), .val (.int (8 : Int32)), .val (.int (0 : Int32))] [(.ref w_8)])) _
      refine st79.trans ?_
      show Steps p.tables e below (T79.setTop (mkF m 124 #[.val (.int p0), .val (.ref b1), .val (.int (8 : Int32)), .val (.int (0 : Int32))] [(.int (0 : Int32))])) _
      refine XS.iloadN X79.here hx rfl (hb hby at_124) rfl ?_
      show Steps p.tables e below (T79.setTop (mkF m 125 #[.val (.int p0), .val (.ref b1), .val (.int (8 : Int32)), .val (.int (0 : Int32))] [(.int (0 : Int32)), (.int (0 : Int32))])) _
      refine XS.icmpNo X79.here hx rfl (hb hby at_125) rfl (teq hc80).2 ?_
      show Steps p.tables e below (T79.setTop (mkF m 128 #[.val (.int p0), .val (.ref b1), .val (.int (8 : Int32)), .val (.int (0 : Int32))] [])) _
      refine XS.iconst X79.here hx rfl (hb hby at_128) ?_
      show Steps p.tables e below (T79.setTop (mkF m 129 #[.val (.int p0), .val (.ref b1), .val (.int (8 : Int32)), .val (.int (0 : Int32))] [(.int (1 : Int32))])) _
      refine XS.goto X79.here hx rfl (pc0 := 129) (pc' := 133) rfl (hb hby at_129) (by decide) (by decide) ?_
      show Steps p.tables e below (T79.setTop (mkF m 133 #[.val (.int p0), .val (.ref b1), .val (.int (8 : Int32)), .val (.int (0 : Int32))] [(.int (1 : Int32))])) _
      exact retN X79 hx (t := .boolean) Bd.returns (by simp) (hb hby at_133) hr
    · show Q0 Z p0 w_0 w_1 w_2 w_3 w_4 w_5 w_6 w_7 w_8 w_9 w_10 w_11 w_12 w_13 m_c m_w m_a h0 n0 _ T79.heap _
      rw [e79]
      exact ⟨rfl, N79⟩
  · skip
    obtain rfl : kk = (9 : Int32) := own_eq.mpr hk
    have hc81 : (9 : Int32) < (11 : Int32) := by decide
    obtain ⟨cl82, Ar82, -, Sz82, Nn82, Hh82, -⟩ := id V43
    have hin82 : ¬ ((9 : Int32) < 0 ∨ cl82.slots.size ≤ ((9 : Int32)).toNatClampNeg) := inb_of Sz82 ⟨by decide, by decide⟩
    have hat82 : cl82.slots[((9 : Int32)).toNatClampNeg]? = some (.ref w_9) := Hh82 9 (by rw [Sz82]; decide)
    obtain ⟨cq83, kq83, q83a, q83b, q83c⟩ := isOf hZ e43 (E_9.keep K43)
    obtain ⟨_, _, ⟨T83, L83, k83, n83⟩, -, X83, ⟨Lc83, hQ83, l83, y83, z83⟩, st83⟩ := X43.virtualBack hx (y := (⟨"com/example/vestwright/vestwright/model/history/EventKind", "milestone", "()Z"⟩ : MethodName)) (z := (⟨"com/example/vestwright/vestwright/model/history/EventKind", "milestone", "()Z"⟩ : MethodName)) hown (mvT hZ (hw _ (List.mem_of_getElem? (i := 33) rfl))) (mvT hZ (hw _ (List.mem_of_getElem? (i := 34) rfl))) (notFace_of_selects (args := #[]) (mvT hZ (hw _ (List.mem_of_getElem? (i := 36) rfl)))) (mvT hZ (hw _ (List.mem_of_getElem? (i := 36) rfl))) (mvT hZ (hw _ (List.mem_of_getElem? (i := 35) rfl))) (by decide) (backOf (W := 0) (rm1n l Z a0 hw [] w_9  h43 n0 Z43 (own_f0 F_9 K43)) hZ (hw _ (List.mem_of_getElem? (i := 37) rfl)) (hw _ (List.mem_of_getElem? (i := 3) rfl)) (by decide) (by decide)) q83a q83c (g := (mkF m 121 #[.val (.int p0), .val (.ref b1), .val (.int (9 : Int32)), .val (.int (0 : Int32))] [(.ref w_9)])) rfl (by rw [hml]; rfl) (Steps.refl _) (argsL := []) (rest := []) (lenOf pd_0 rfl) rfl (by show 2 * 0 + _ ≤ _; exact Nat.le_of_eq rfl) (hb hby at_121) (fun _ _ => ⟨rfl, e43, (by decide : 1 + 0 ≤ _), (by decide : 14 + 0 ≤ _)⟩)
    dsimp only [Pt.U, Pt.locs, Pt.cells, Pt.slots] at X83 l83 y83 z83 st83 hQ83
    subst l83 y83 z83
    obtain ⟨rfl, Nq83, e83⟩ := hQ83
    have N83 := Fr.app N43 Nq83
    have hc84 : (0 : Int32) = (0 : Int32) := by decide
    obtain ⟨fs, hr, hrun, hended, hW, hsame⟩ := X83.leave (v := some (.int (1 : Int32))) (fun h => by rw [Bd.returns] at h; cases h)
    refine ⟨_, _, pre0 _ (pre44 _ ?_), hrun, hended, _, _, rfl, ?_, ⟨_, rfl⟩, hW, hsame.mono (by decide) (by decide)⟩
    · skip
      show Steps p.tables e below (T43.setTop (mkF m 106 #[.val (.int p0), .val (.ref b1), .val (.int (9 : Int32)), .unset] [])) _
      refine XS.iloadN X43.here hx rfl (hb hby at_106) rfl ?_
      show Steps p.tables e below (T43.setTop (mkF m 107 #[.val (.int p0), .val (.ref b1), .val (.int (9 : Int32)), .unset] [(.int (9 : Int32))])) _
      refine XS.bipush X43.here hx rfl (hb hby at_107) ?_
      show Steps p.tables e below (T43.setTop (mkF m 109 #[.val (.int p0), .val (.ref b1), .val (.int (9 : Int32)), .unset] [(.int (11 : Int32)), (.int (9 : Int32))])) _
      refine XS.icmpYes X43.here hx rfl (pc0 := 109) (pc' := 116) rfl (hb hby at_109) rfl (tlt hc81).1 (by decide) (by decide) ?_
      show Steps p.tables e below (T43.setTop (mkF m 116 #[.val (.int p0), .val (.ref b1), .val (.int (9 : Int32)), .unset] [])) _
      refine XS.iconst X43.here hx rfl (hb hby at_116) ?_
      show Steps p.tables e below (T43.setTop (mkF m 117 #[.val (.int p0), .val (.ref b1), .val (.int (9 : Int32)), .unset] [(.int (0 : Int32))])) _
      refine XS.istoreN X43.here hx rfl (hb hby at_117) rfl (l' := #[.val (.int p0), .val (.ref b1), .val (.int (9 : Int32)), .val (.int (0 : Int32))]) rfl ?_
      show Steps p.tables e below (T43.setTop (mkF m 118 #[.val (.int p0), .val (.ref b1), .val (.int (9 : Int32)), .val (.int (0 : Int32))] [])) _
      refine XS.aloadN X43.here hx rfl (hb hby at_118) rfl rfl ?_
      show Steps p.tables e below (T43.setTop (mkF m 119 #[.val (.int p0), .val (.ref b1), .val (.int (9 : Int32)), .val (.int (0 : Int32))] [(.ref b1)])) _
      refine XS.iloadN X43.here hx rfl (hb hby at_119) rfl ?_
      show Steps p.tables e below (T43.setTop (mkF m 120 #[.val (.int p0), .val (.ref b1), .val (.int (9 : Int32)), .val (.int (0 : Int32))] [(.int (9 : Int32)), (.ref b1)])) _
      refine X43.aaload hx (j := (9 : Int32)) (v := (.ref w_9)) (by rw [e43]; exact Ar82.1) (State.isArrayOf_alike hZ.alike Ar82.2.1) rfl Ar82.2.2 hin82 hat82 (g := (mkF m 120 #[.val (.int p0), .val (.ref b1), .val (.int (9 : Int32)), .val (.int (0 : Int32))] [(.int (9 : Int32)), (.ref b1)])) rfl rfl (hb hby at_120) _ ?_
      show Steps p.tables e below (T43.setTop (mkF m 121 #[.val (.int p0), .val (.ref b1), .val (.int (9 : Int32)), .val (.int (0 : Int32))] [(.ref w_9)])) _
      refine st83.trans ?_
      show Steps p.tables e below (T83.setTop (mkF m 124 #[.val (.int p0), .val (.ref b1), .val (.int (9 : Int32)), .val (.int (0 : Int32))] [(.int (0 : Int32))])) _
      refine XS.iloadN X83.here hx rfl (hb hby at_124) rfl ?_
      show Steps p.tables e below (T83.setTop (mkF m 125 #[.val (.int p0), .val (.ref b1), .val (.int (9 : Int32)), .val (.int (0 : Int32))] [(.int (0 : Int32)), (.int (0 : Int32))])) _
      refine XS.icmpNo X83.here hx rfl (hb hby at_125) rfl (teq hc84).2 ?_
      show Steps p.tables e below (T83.setTop (mkF m 128 #[.val (.int p0), .val (.ref b1), .val (.int (9 : Int32)), .val (.int (0 : Int32))] [])) _
      refine XS.iconst X83.here hx rfl (hb hby at_128) ?_
      show Steps p.tables e below (T83.setTop (mkF m 129 #[.val (.int p0), .val (.ref b1), .val (.int (9 : Int32)), .val (.int (0 : Int32))] [(.int (1 : Int32))])) _
      refine XS.goto X83.here hx rfl (pc0 := 129) (pc' := 133) rfl (hb hby at_129) (by decide) (by decide) ?_
      show Steps p.tables e below (T83.setTop (mkF m 133 #[.val (.int p0), .val (.ref b1), .val (.int (9 : Int32)), .val (.int (0 : Int32))] [(.int (1 : Int32))])) _
      exact retN X83 hx (t := .boolean) Bd.returns (by simp) (hb hby at_133) hr
    · show Q0 Z p0 w_0 w_1 w_2 w_3 w_4 w_5 w_6 w_7 w_8 w_9 w_10 w_11 w_12 w_13 m_c m_w m_a h0 n0 _ T83.heap _
      rw [e83]
      exact ⟨rfl, N83⟩
  · skip
    obtain rfl : kk = (10 : Int32) := own_eq.mpr hk
    have hc85 : (10 : Int32) < (11 : Int32) := by decide
    obtain ⟨cl86, Ar86, -, Sz86, Nn86, Hh86, -⟩ := id V43
    have hin86 : ¬ ((10 : Int32) < 0 ∨ cl86.slots.size ≤ ((10 : Int32)).toNatClampNeg) := inb_of Sz86 ⟨by decide, by decide⟩
    have hat86 : cl86.slots[((10 : Int32)).toNatClampNeg]? = some (.ref w_10) := Hh86 10 (by rw [Sz86]; decide)
    obtain ⟨cq87, kq87, q87a, q87b, q87c⟩ := isOf hZ e43 (E_10.keep K43)
    obtain ⟨_, _, ⟨T87, L87, k87, n87⟩, -, X87, ⟨Lc87, hQ87, l87, y87, z87⟩, st87⟩ := X43.virtualBack hx (y := (⟨"com/example/vestwright/vestwright/model/history/EventKind", "milestone", "()Z"⟩ : MethodName)) (z := (⟨"com/example/vestwright/vestwright/model/history/EventKind", "milestone", "()Z"⟩ : MethodName)) hown (mvT hZ (hw _ (List.mem_of_getElem? (i := 33) rfl))) (mvT hZ (hw _ (List.mem_of_getElem? (i := 34) rfl))) (notFace_of_selects (args := #[]) (mvT hZ (hw _ (List.mem_of_getElem? (i := 36) rfl)))) (mvT hZ (hw _ (List.mem_of_getElem? (i := 36) rfl))) (mvT hZ (hw _ (List.mem_of_getElem? (i := 35) rfl))) (by decide) (backOf (W := 0) (rm1n l Z a0 hw [] w_10  h43 n0 Z43 (own_f0 F_10 K43)) hZ (hw _ (List.mem_of_getElem? (i := 37) rfl)) (hw _ (List.mem_of_getElem? (i := 3) rfl)) (by decide) (by decide)) q87a q87c (g := (mkF m 121 #[.val (.int p0), .val (.ref b1), .val (.int (10 : Int32)), .val (.int (0 : Int32))] [(.ref w_10)])) rfl (by rw [hml]; rfl) (Steps.refl _) (argsL := []) (rest := []) (lenOf pd_0 rfl) rfl (by show 2 * 0 + _ ≤ _; exact Nat.le_of_eq rfl) (hb hby at_121) (fun _ _ => ⟨rfl, e43, (by decide : 1 + 0 ≤ _), (by decide : 14 + 0 ≤ _)⟩)
    dsimp only [Pt.U, Pt.locs, Pt.cells, Pt.slots] at X87 l87 y87 z87 st87 hQ87
    subst l87 y87 z87
    obtain ⟨rfl, Nq87, e87⟩ := hQ87
    have N87 := Fr.app N43 Nq87
    have hc88 : (0 : Int32) = (0 : Int32) := by decide
    obtain ⟨fs, hr, hrun, hended, hW, hsame⟩ := X87.leave (v := some (.int (1 : Int32))) (fun h => by rw [Bd.returns] at h; cases h)
    refine ⟨_, _, pre0 _ (pre44 _ ?_), hrun, hended, _, _, rfl, ?_, ⟨_, rfl⟩, hW, hsame.mono (by decide) (by decide)⟩
    · skip
      show Steps p.tables e below (T43.setTop (mkF m 106 #[.val (.int p0), .val (.ref b1), .val (.int (10 : Int32)), .unset] [])) _
      refine XS.iloadN X43.here hx rfl (hb hby at_106) rfl ?_
      show Steps p.tables e below (T43.setTop (mkF m 107 #[.val (.int p0), .val (.ref b1), .val (.int (10 : Int32)), .unset] [(.int (10 : Int32))])) _
      refine XS.bipush X43.here hx rfl (hb hby at_107) ?_
      show Steps p.tables e below (T43.setTop (mkF m 109 #[.val (.int p0), .val (.ref b1), .val (.int (10 : Int32)), .unset] [(.int (11 : Int32)), (.int (10 : Int32))])) _
      refine XS.icmpYes X43.here hx rfl (pc0 := 109) (pc' := 116) rfl (hb hby at_109) rfl (tlt hc85).1 (by decide) (by decide) ?_
      show Steps p.tables e below (T43.setTop (mkF m 116 #[.val (.int p0), .val (.ref b1), .val (.int (10 : Int32)), .unset] [])) _
      refine XS.iconst X43.here hx rfl (hb hby at_116) ?_
      show Steps p.tables e below (T43.setTop (mkF m 117 #[.val (.int p0), .val (.ref b1), .val (.int (10 : Int32)), .unset] [(.int (0 : Int32))])) _
      refine XS.istoreN X43.here hx rfl (hb hby at_117) rfl (l' := #[.val (.int p0), .val (.ref b1), .val (.int (10 : Int32)), .val (.int (0 : Int32))]) rfl ?_
      show Steps p.tables e below (T43.setTop (mkF m 118 #[.val (.int p0), .val (.ref b1), .val (.int (10 : Int32)), .val (.int (0 : Int32))] [])) _
      refine XS.aloadN X43.here hx rfl (hb hby at_118) rfl rfl ?_
      show Steps p.tables e below (T43.setTop (mkF m 119 #[.val (.int p0), .val (.ref b1), .val (.int (10 : Int32)), .val (.int (0 : Int32))] [(.ref b1)])) _
      refine XS.iloadN X43.here hx rfl (hb hby at_119) rfl ?_
      show Steps p.tables e below (T43.setTop (mkF m 120 #[.val (.int p0), .val (.ref b1), .val (.int (10 : Int32)), .val (.int (0 : Int32))] [(.int (10 : Int32)), (.ref b1)])) _
      refine X43.aaload hx (j := (10 : Int32)) (v := (.ref w_10)) (by rw [e43]; exact Ar86.1) (State.isArrayOf_alike hZ.alike Ar86.2.1) rfl Ar86.2.2 hin86 hat86 (g := (mkF m 120 #[.val (.int p0), .val (.ref b1), .val (.int (10 : Int32)), .val (.int (0 : Int32))] [(.int (10 : Int32)), (.ref b1)])) rfl rfl (hb hby at_120) _ ?_
      show Steps p.tables e below (T43.setTop (mkF m 121 #[.val (.int p0), .val (.ref b1), .val (.int (10 : Int32)), .val (.int (0 : Int32))] [(.ref w_10)])) _
      refine st87.trans ?_
      show Steps p.tables e below (T87.setTop (mkF m 124 #[.val (.int p0), .val (.ref b1), .val (.int (10 : Int32)), .val (.int (0 : Int32))] [(.int (0 : Int32))])) _
      refine XS.iloadN X87.here hx rfl (hb hby at_124) rfl ?_
      show Steps p.tables e below (T87.setTop (mkF m 125 #[.val (.int p0), .val (.ref b1), .val (.int (10 : Int32)), .val (.int (0 : Int32))] [(.int (0 : Int32)), (.int (0 : Int32))])) _
      refine XS.icmpNo X87.here hx rfl (hb hby at_125) rfl (teq hc88).2 ?_
      show Steps p.tables e below (T87.setTop (mkF m 128 #[.val (.int p0), .val (.ref b1), .val (.int (10 : Int32)), .val (.int (0 : Int32))] [])) _
      refine XS.iconst X87.here hx rfl (hb hby at_128) ?_
      show Steps p.tables e below (T87.setTop (mkF m 129 #[.val (.int p0), .val (.ref b1), .val (.int (10 : Int32)), .val (.int (0 : Int32))] [(.int (1 : Int32))])) _
      refine XS.goto X87.here hx rfl (pc0 := 129) (pc' := 133) rfl (hb hby at_129) (by decide) (by decide) ?_
      show Steps p.tables e below (T87.setTop (mkF m 133 #[.val (.int p0), .val (.ref b1), .val (.int (10 : Int32)), .val (.int (0 : Int32))] [(.int (1 : Int32))])) _
      exact retN X87 hx (t := .boolean) Bd.returns (by simp) (hb hby at_133) hr
    · show Q0 Z p0 w_0 w_1 w_2 w_3 w_4 w_5 w_6 w_7 w_8 w_9 w_10 w_11 w_12 w_13 m_c m_w m_a h0 n0 _ T87.heap _
      rw [e87]
      exact ⟨rfl, N87⟩
  · skip
    obtain rfl : kk = (11 : Int32) := own_eq.mpr hk
    have hc89 : ¬ ((11 : Int32) < (11 : Int32)) := by decide
    obtain ⟨cl90, Ar90, -, Sz90, Nn90, Hh90, -⟩ := id V43
    have hin90 : ¬ ((11 : Int32) < 0 ∨ cl90.slots.size ≤ ((11 : Int32)).toNatClampNeg) := inb_of Sz90 ⟨by decide, by decide⟩
    have hat90 : cl90.slots[((11 : Int32)).toNatClampNeg]? = some (.ref w_11) := Hh90 11 (by rw [Sz90]; decide)
    obtain ⟨cq91, kq91, q91a, q91b, q91c⟩ := isOf hZ e43 (E_11.keep K43)
    obtain ⟨_, _, ⟨T91, L91, k91, n91⟩, -, X91, ⟨Lc91, hQ91, l91, y91, z91⟩, st91⟩ := X43.virtualBack hx (y := (⟨"com/example/vestwright/vestwright/model/history/EventKind", "milestone", "()Z"⟩ : MethodName)) (z := (⟨"com/example/vestwright/vestwright/model/history/EventKind", "milestone", "()Z"⟩ : MethodName)) hown (mvT hZ (hw _ (List.mem_of_getElem? (i := 33) rfl))) (mvT hZ (hw _ (List.mem_of_getElem? (i := 34) rfl))) (notFace_of_selects (args := #[]) (mvT hZ (hw _ (List.mem_of_getElem? (i := 36) rfl)))) (mvT hZ (hw _ (List.mem_of_getElem? (i := 36) rfl))) (mvT hZ (hw _ (List.mem_of_getElem? (i := 35) rfl))) (by decide) (backOf (W := 0) (rm1s l Z a0 hw [] w_11 m_c h43 n0 Z43 (own_f0 F_11 K43)) hZ (hw _ (List.mem_of_getElem? (i := 37) rfl)) (hw _ (List.mem_of_getElem? (i := 3) rfl)) (by decide) (by decide)) q91a q91c (g := (mkF m 121 #[.val (.int p0), .val (.ref b1), .val (.int (11 : Int32)), .val (.int (1 : Int32))] [(.ref w_11)])) rfl (by rw [hml]; rfl) (Steps.refl _) (argsL := []) (rest := []) (lenOf pd_0 rfl) rfl (by show 2 * 0 + _ ≤ _; exact Nat.le_of_eq rfl) (hb hby at_121) (fun _ _ => ⟨rfl, e43, (by decide : 1 + 0 ≤ _), (by decide : 14 + 0 ≤ _)⟩)
    dsimp only [Pt.U, Pt.locs, Pt.cells, Pt.slots] at X91 l91 y91 z91 st91 hQ91
    subst l91 y91 z91
    obtain ⟨rfl, Nq91, e91⟩ := hQ91
    have N91 := Fr.app N43 Nq91
    have hc92 : (1 : Int32) = (1 : Int32) := by decide
    obtain ⟨fs, hr, hrun, hended, hW, hsame⟩ := X91.leave (v := some (.int (1 : Int32))) (fun h => by rw [Bd.returns] at h; cases h)
    refine ⟨_, _, pre0 _ (pre44 _ ?_), hrun, hended, _, _, rfl, ?_, ⟨_, rfl⟩, hW, hsame.mono (by decide) (by decide)⟩
    · skip
      show Steps p.tables e below (T43.setTop (mkF m 106 #[.val (.int p0), .val (.ref b1), .val (.int (11 : Int32)), .unset] [])) _
      refine XS.iloadN X43.here hx rfl (hb hby at_106) rfl ?_
      show Steps p.tables e below (T43.setTop (mkF m 107 #[.val (.int p0), .val (.ref b1), .val (.int (11 : Int32)), .unset] [(.int (11 : Int32))])) _
      refine XS.bipush X43.here hx rfl (hb hby at_107) ?_
      show Steps p.tables e below (T43.setTop (mkF m 109 #[.val (.int p0), .val (.ref b1), .val (.int (11 : Int32)), .unset] [(.int (11 : Int32)), (.int (11 : Int32))])) _
      refine XS.icmpNo X43.here hx rfl (hb hby at_109) rfl (flt hc89).1 ?_
      show Steps p.tables e below (T43.setTop (mkF m 112 #[.val (.int p0), .val (.ref b1), .val (.int (11 : Int32)), .unset] [])) _
      refine XS.iconst X43.here hx rfl (hb hby at_112) ?_
      show Steps p.tables e below (T43.setTop (mkF m 113 #[.val (.int p0), .val (.ref b1), .val (.int (11 : Int32)), .unset] [(.int (1 : Int32))])) _
      refine XS.goto X43.here hx rfl (pc0 := 113) (pc' := 117) rfl (hb hby at_113) (by decide) (by decide) ?_
      show Steps p.tables e below (T43.setTop (mkF m 117 #[.val (.int p0), .val (.ref b1), .val (.int (11 : Int32)), .unset] [(.int (1 : Int32))])) _
      refine XS.istoreN X43.here hx rfl (hb hby at_117) rfl (l' := #[.val (.int p0), .val (.ref b1), .val (.int (11 : Int32)), .val (.int (1 : Int32))]) rfl ?_
      show Steps p.tables e below (T43.setTop (mkF m 118 #[.val (.int p0), .val (.ref b1), .val (.int (11 : Int32)), .val (.int (1 : Int32))] [])) _
      refine XS.aloadN X43.here hx rfl (hb hby at_118) rfl rfl ?_
      show Steps p.tables e below (T43.setTop (mkF m 119 #[.val (.int p0), .val (.ref b1), .val (.int (11 : Int32)), .val (.int (1 : Int32))] [(.ref b1)])) _
      refine XS.iloadN X43.here hx rfl (hb hby at_119) rfl ?_
      show Steps p.tables e below (T43.setTop (mkF m 120 #[.val (.int p0), .val (.ref b1), .val (.int (11 : Int32)), .val (.int (1 : Int32))] [(.int (11 : Int32)), (.ref b1)])) _
      refine X43.aaload hx (j := (11 : Int32)) (v := (.ref w_11)) (by rw [e43]; exact Ar90.1) (State.isArrayOf_alike hZ.alike Ar90.2.1) rfl Ar90.2.2 hin90 hat90 (g := (mkF m 120 #[.val (.int p0), .val (.ref b1), .val (.int (11 : Int32)), .val (.int (1 : Int32))] [(.int (11 : Int32)), (.ref b1)])) rfl rfl (hb hby at_120) _ ?_
      show Steps p.tables e below (T43.setTop (mkF m 121 #[.val (.int p0), .val (.ref b1), .val (.int (11 : Int32)), .val (.int (1 : Int32))] [(.ref w_11)])) _
      refine st91.trans ?_
      show Steps p.tables e below (T91.setTop (mkF m 124 #[.val (.int p0), .val (.ref b1), .val (.int (11 : Int32)), .val (.int (1 : Int32))] [(.int (1 : Int32))])) _
      refine XS.iloadN X91.here hx rfl (hb hby at_124) rfl ?_
      show Steps p.tables e below (T91.setTop (mkF m 125 #[.val (.int p0), .val (.ref b1), .val (.int (11 : Int32)), .val (.int (1 : Int32))] [(.int (1 : Int32)), (.int (1 : Int32))])) _
      refine XS.icmpNo X91.here hx rfl (hb hby at_125) rfl (teq hc92).2 ?_
      show Steps p.tables e below (T91.setTop (mkF m 128 #[.val (.int p0), .val (.ref b1), .val (.int (11 : Int32)), .val (.int (1 : Int32))] [])) _
      refine XS.iconst X91.here hx rfl (hb hby at_128) ?_
      show Steps p.tables e below (T91.setTop (mkF m 129 #[.val (.int p0), .val (.ref b1), .val (.int (11 : Int32)), .val (.int (1 : Int32))] [(.int (1 : Int32))])) _
      refine XS.goto X91.here hx rfl (pc0 := 129) (pc' := 133) rfl (hb hby at_129) (by decide) (by decide) ?_
      show Steps p.tables e below (T91.setTop (mkF m 133 #[.val (.int p0), .val (.ref b1), .val (.int (11 : Int32)), .val (.int (1 : Int32))] [(.int (1 : Int32))])) _
      exact retN X91 hx (t := .boolean) Bd.returns (by simp) (hb hby at_133) hr
    · show Q0 Z p0 w_0 w_1 w_2 w_3 w_4 w_5 w_6 w_7 w_8 w_9 w_10 w_11 w_12 w_13 m_c m_w m_a h0 n0 _ T91.heap _
      rw [e91]
      exact ⟨rfl, N91⟩
  · skip
    obtain rfl : kk = (12 : Int32) := own_eq.mpr hk
    have hc93 : ¬ ((12 : Int32) < (11 : Int32)) := by decide
    obtain ⟨cl94, Ar94, -, Sz94, Nn94, Hh94, -⟩ := id V43
    have hin94 : ¬ ((12 : Int32) < 0 ∨ cl94.slots.size ≤ ((12 : Int32)).toNatClampNeg) := inb_of Sz94 ⟨by decide, by decide⟩
    have hat94 : cl94.slots[((12 : Int32)).toNatClampNeg]? = some (.ref w_12) := Hh94 12 (by rw [Sz94]; decide)
    obtain ⟨cq95, kq95, q95a, q95b, q95c⟩ := isOf hZ e43 (E_12.keep K43)
    obtain ⟨_, _, ⟨T95, L95, k95, n95⟩, -, X95, ⟨Lc95, hQ95, l95, y95, z95⟩, st95⟩ := X43.virtualBack hx (y := (⟨"com/example/vestwright/vestwright/model/history/EventKind", "milestone", "()Z"⟩ : MethodName)) (z := (⟨"com/example/vestwright/vestwright/model/history/EventKind", "milestone", "()Z"⟩ : MethodName)) hown (mvT hZ (hw _ (List.mem_of_getElem? (i := 33) rfl))) (mvT hZ (hw _ (List.mem_of_getElem? (i := 34) rfl))) (notFace_of_selects (args := #[]) (mvT hZ (hw _ (List.mem_of_getElem? (i := 36) rfl)))) (mvT hZ (hw _ (List.mem_of_getElem? (i := 36) rfl))) (mvT hZ (hw _ (List.mem_of_getElem? (i := 35) rfl))) (by decide) (backOf (W := 0) (rm1s l Z a0 hw [] w_12 m_w h43 n0 Z43 (own_f0 F_12 K43)) hZ (hw _ (List.mem_of_getElem? (i := 37) rfl)) (hw _ (List.mem_of_getElem? (i := 3) rfl)) (by decide) (by decide)) q95a q95c (g := (mkF m 121 #[.val (.int p0), .val (.ref b1), .val (.int (12 : Int32)), .val (.int (1 : Int32))] [(.ref w_12)])) rfl (by rw [hml]; rfl) (Steps.refl _) (argsL := []) (rest := []) (lenOf pd_0 rfl) rfl (by show 2 * 0 + _ ≤ _; exact Nat.le_of_eq rfl) (hb hby at_121) (fun _ _ => ⟨rfl, e43, (by decide : 1 + 0 ≤ _), (by decide : 14 + 0 ≤ _)⟩)
    dsimp only [Pt.U, Pt.locs, Pt.cells, Pt.slots] at X95 l95 y95 z95 st95 hQ95
    subst l95 y95 z95
    obtain ⟨rfl, Nq95, e95⟩ := hQ95
    have N95 := Fr.app N43 Nq95
    have hc96 : (1 : Int32) = (1 : Int32) := by decide
    obtain ⟨fs, hr, hrun, hended, hW, hsame⟩ := X95.leave (v := some (.int (1 : Int32))) (fun h => by rw [Bd.returns] at h; cases h)
    refine ⟨_, _, pre0 _ (pre44 _ ?_), hrun, hended, _, _, rfl, ?_, ⟨_, rfl⟩, hW, hsame.mono (by decide) (by decide)⟩
    · skip
      show Steps p.tables e below (T43.setTop (mkF m 106 #[.val (.int p0), .val (.ref b1), .val (.int (12 : Int32)), .unset] [])) _
      refine XS.iloadN X43.here hx rfl (hb hby at_106) rfl ?_
      show Steps p.tables e below (T43.setTop (mkF m 107 #[.val (.int p0), .val (.ref b1), .val (.int (12 : Int32)), .unset] [(.int (12 : Int32))])) _
      refine XS.bipush X43.here hx rfl (hb hby at_107) ?_
      show Steps p.tables e below (T43.setTop (mkF m 109 #[.val (.int p0), .val (.ref b1), .val (.int (12 : Int32)), .unset] [(.int (11 : Int32)), (.int (12 : Int32))])) _
      refine XS.icmpNo X43.here hx rfl (hb hby at_109) rfl (flt hc93).1 ?_
      show Steps p.tables e below (T43.setTop (mkF m 112 #[.val (.int p0), .val (.ref b1), .val (.int (12 : Int32)), .unset] [])) _
      refine XS.iconst X43.here hx rfl (hb hby at_112) ?_
      show Steps p.tables e below (T43.setTop (mkF m 113 #[.val (.int p0), .val (.ref b1), .val (.int (12 : Int32)), .unset] [(.int (1 : Int32))])) _
      refine XS.goto X43.here hx rfl (pc0 := 113) (pc' := 117) rfl (hb hby at_113) (by decide) (by decide) ?_
      show Steps p.tables e below (T43.setTop (mkF m 117 #[.val (.int p0), .val (.ref b1), .val (.int (12 : Int32)), .unset] [(.int (1 : Int32))])) _
      refine XS.istoreN X43.here hx rfl (hb hby at_117) rfl (l' := #[.val (.int p0), .val (.ref b1), .val (.int (12 : Int32)), .val (.int (1 : Int32))]) rfl ?_
      show Steps p.tables e below (T43.setTop (mkF m 118 #[.val (.int p0), .val (.ref b1), .val (.int (12 : Int32)), .val (.int (1 : Int32))] [])) _
      refine XS.aloadN X43.here hx rfl (hb hby at_118) rfl rfl ?_
      show Steps p.tables e below (T43.setTop (mkF m 119 #[.val (.int p0), .val (.ref b1), .val (.int (12 : Int32)), .val (.int (1 : Int32))] [(.ref b1)])) _
      refine XS.iloadN X43.here hx rfl (hb hby at_119) rfl ?_
      show Steps p.tables e below (T43.setTop (mkF m 120 #[.val (.int p0), .val (.ref b1), .val (.int (12 : Int32)), .val (.int (1 : Int32))] [(.int (12 : Int32)), (.ref b1)])) _
      refine X43.aaload hx (j := (12 : Int32)) (v := (.ref w_12)) (by rw [e43]; exact Ar94.1) (State.isArrayOf_alike hZ.alike Ar94.2.1) rfl Ar94.2.2 hin94 hat94 (g := (mkF m 120 #[.val (.int p0), .val (.ref b1), .val (.int (12 : Int32)), .val (.int (1 : Int32))] [(.int (12 : Int32)), (.ref b1)])) rfl rfl (hb hby at_120) _ ?_
      show Steps p.tables e below (T43.setTop (mkF m 121 #[.val (.int p0), .val (.ref b1), .val (.int (12 : Int32)), .val (.int (1 : Int32))] [(.ref w_12)])) _
      refine st95.trans ?_
      show Steps p.tables e below (T95.setTop (mkF m 124 #[.val (.int p0), .val (.ref b1), .val (.int (12 : Int32)), .val (.int (1 : Int32))] [(.int (1 : Int32))])) _
      refine XS.iloadN X95.here hx rfl (hb hby at_124) rfl ?_
      show Steps p.tables e below (T95.setTop (mkF m 125 #[.val (.int p0), .val (.ref b1), .val (.int (12 : Int32)), .val (.int (1 : Int32))] [(.int (1 : Int32)), (.int (1 : Int32))])) _
      refine XS.icmpNo X95.here hx rfl (hb hby at_125) rfl (teq hc96).2 ?_
      show Steps p.tables e below (T95.setTop (mkF m 128 #[.val (.int p0), .val (.ref b1), .val (.int (12 : Int32)), .val (.int (1 : Int32))] [])) _
      refine XS.iconst X95.here hx rfl (hb hby at_128) ?_
      show Steps p.tables e below (T95.setTop (mkF m 129 #[.val (.int p0), .val (.ref b1), .val (.int (12 : Int32)), .val (.int (1 : Int32))] [(.int (1 : Int32))])) _
      refine XS.goto X95.here hx rfl (pc0 := 129) (pc' := 133) rfl (hb hby at_129) (by decide) (by decide) ?_
      show Steps p.tables e below (T95.setTop (mkF m 133 #[.val (.int p0), .val (.ref b1), .val (.int (12 : Int32)), .val (.int (1 : Int32))] [(.int (1 : Int32))])) _
      exact retN X95 hx (t := .boolean) Bd.returns (by simp) (hb hby at_133) hr
    · show Q0 Z p0 w_0 w_1 w_2 w_3 w_4 w_5 w_6 w_7 w_8 w_9 w_10 w_11 w_12 w_13 m_c m_w m_a h0 n0 _ T95.heap _
      rw [e95]
      exact ⟨rfl, N95⟩
  · skip
    obtain rfl : kk = (13 : Int32) := own_eq.mpr hk
    have hc97 : ¬ ((13 : Int32) < (11 : Int32)) := by decide
    obtain ⟨cl98, Ar98, -, Sz98, Nn98, Hh98, -⟩ := id V43
    have hin98 : ¬ ((13 : Int32) < 0 ∨ cl98.slots.size ≤ ((13 : Int32)).toNatClampNeg) := inb_of Sz98 ⟨by decide, by decide⟩
    have hat98 : cl98.slots[((13 : Int32)).toNatClampNeg]? = some (.ref w_13) := Hh98 13 (by rw [Sz98]; decide)
    obtain ⟨cq99, kq99, q99a, q99b, q99c⟩ := isOf hZ e43 (E_13.keep K43)
    obtain ⟨_, _, ⟨T99, L99, k99, n99⟩, -, X99, ⟨Lc99, hQ99, l99, y99, z99⟩, st99⟩ := X43.virtualBack hx (y := (⟨"com/example/vestwright/vestwright/model/history/EventKind", "milestone", "()Z"⟩ : MethodName)) (z := (⟨"com/example/vestwright/vestwright/model/history/EventKind", "milestone", "()Z"⟩ : MethodName)) hown (mvT hZ (hw _ (List.mem_of_getElem? (i := 33) rfl))) (mvT hZ (hw _ (List.mem_of_getElem? (i := 34) rfl))) (notFace_of_selects (args := #[]) (mvT hZ (hw _ (List.mem_of_getElem? (i := 36) rfl)))) (mvT hZ (hw _ (List.mem_of_getElem? (i := 36) rfl))) (mvT hZ (hw _ (List.mem_of_getElem? (i := 35) rfl))) (by decide) (backOf (W := 0) (rm1s l Z a0 hw [] w_13 m_a h43 n0 Z43 (own_f0 F_13 K43)) hZ (hw _ (List.mem_of_getElem? (i := 37) rfl)) (hw _ (List.mem_of_getElem? (i := 3) rfl)) (by decide) (by decide)) q99a q99c (g := (mkF m 121 #[.val (.int p0), .val (.ref b1), .val (.int (13 : Int32)), .val (.int (1 : Int32))] [(.ref w_13)])) rfl (by rw [hml]; rfl) (Steps.refl _) (argsL := []) (rest := []) (lenOf pd_0 rfl) rfl (by show 2 * 0 + _ ≤ _; exact Nat.le_of_eq rfl) (hb hby at_121) (fun _ _ => ⟨rfl, e43, (by decide : 1 + 0 ≤ _), (by decide : 14 + 0 ≤ _)⟩)
    dsimp only [Pt.U, Pt.locs, Pt.cells, Pt.slots] at X99 l99 y99 z99 st99 hQ99
    subst l99 y99 z99
    obtain ⟨rfl, Nq99, e99⟩ := hQ99
    have N99 := Fr.app N43 Nq99
    have hc100 : (1 : Int32) = (1 : Int32) := by decide
    obtain ⟨fs, hr, hrun, hended, hW, hsame⟩ := X99.leave (v := some (.int (1 : Int32))) (fun h => by rw [Bd.returns] at h; cases h)
    refine ⟨_, _, pre0 _ (pre44 _ ?_), hrun, hended, _, _, rfl, ?_, ⟨_, rfl⟩, hW, hsame.mono (by decide) (by decide)⟩
    · skip
      show Steps p.tables e below (T43.setTop (mkF m 106 #[.val (.int p0), .val (.ref b1), .val (.int (13 : Int32)), .unset] [])) _
      refine XS.iloadN X43.here hx rfl (hb hby at_106) rfl ?_
      show Steps p.tables e below (T43.setTop (mkF m 107 #[.val (.int p0), .val (.ref b1), .val (.int (13 : Int32)), .unset] [(.int (13 : Int32))])) _
      refine XS.bipush X43.here hx rfl (hb hby at_107) ?_
      show Steps p.tables e below (T43.setTop (mkF m 109 #[.val (.int p0), .val (.ref b1), .val (.int (13 : Int32)), .unset] [(.int (11 : Int32)), (.int (13 : Int32))])) _
      refine XS.icmpNo X43.here hx rfl (hb hby at_109) rfl (flt hc97).1 ?_
      show Steps p.tables e below (T43.setTop (mkF m 112 #[.val (.int p0), .val (.ref b1), .val (.int (13 : Int32)), .unset] [])) _
      refine XS.iconst X43.here hx rfl (hb hby at_112) ?_
      show Steps p.tables e below (T43.setTop (mkF m 113 #[.val (.int p0), .val (.ref b1), .val (.int (13 : Int32)), .unset] [(.int (1 : Int32))])) _
      refine XS.goto X43.here hx rfl (pc0 := 113) (pc' := 117) rfl (hb hby at_113) (by decide) (by decide) ?_
      show Steps p.tables e below (T43.setTop (mkF m 117 #[.val (.int p0), .val (.ref b1), .val (.int (13 : Int32)), .unset] [(.int (1 : Int32))])) _
      refine XS.istoreN X43.here hx rfl (hb hby at_117) rfl (l' := #[.val (.int p0), .val (.ref b1), .val (.int (13 : Int32)), .val (.int (1 : Int32))]) rfl ?_
      show Steps p.tables e below (T43.setTop (mkF m 118 #[.val (.int p0), .val (.ref b1), .val (.int (13 : Int32)), .val (.int (1 : Int32))] [])) _
      refine XS.aloadN X43.here hx rfl (hb hby at_118) rfl rfl ?_
      show Steps p.tables e below (T43.setTop (mkF m 119 #[.val (.int p0), .val (.ref b1), .val (.int (13 : Int32)), .val (.int (1 : Int32))] [(.ref b1)])) _
      refine XS.iloadN X43.here hx rfl (hb hby at_119) rfl ?_
      show Steps p.tables e below (T43.setTop (mkF m 120 #[.val (.int p0), .val (.ref b1), .val (.int (13 : Int32)), .val (.int (1 : Int32))] [(.int (13 : Int32)), (.ref b1)])) _
      refine X43.aaload hx (j := (13 : Int32)) (v := (.ref w_13)) (by rw [e43]; exact Ar98.1) (State.isArrayOf_alike hZ.alike Ar98.2.1) rfl Ar98.2.2 hin98 hat98 (g := (mkF m 120 #[.val (.int p0), .val (.ref b1), .val (.int (13 : Int32)), .val (.int (1 : Int32))] [(.int (13 : Int32)), (.ref b1)])) rfl rfl (hb hby at_120) _ ?_
      show Steps p.tables e below (T43.setTop (mkF m 121 #[.val (.int p0), .val (.ref b1), .val (.int (13 : Int32)), .val (.int (1 : Int32))] [(.ref w_13)])) _
      refine st99.trans ?_
      show Steps p.tables e below (T99.setTop (mkF m 124 #[.val (.int p0), .val (.ref b1), .val (.int (13 : Int32)), .val (.int (1 : Int32))] [(.int (1 : Int32))])) _
      refine XS.iloadN X99.here hx rfl (hb hby at_124) rfl ?_
      show Steps p.tables e below (T99.setTop (mkF m 125 #[.val (.int p0), .val (.ref b1), .val (.int (13 : Int32)), .val (.int (1 : Int32))] [(.int (1 : Int32)), (.int (1 : Int32))])) _
      refine XS.icmpNo X99.here hx rfl (hb hby at_125) rfl (teq hc100).2 ?_
      show Steps p.tables e below (T99.setTop (mkF m 128 #[.val (.int p0), .val (.ref b1), .val (.int (13 : Int32)), .val (.int (1 : Int32))] [])) _
      refine XS.iconst X99.here hx rfl (hb hby at_128) ?_
      show Steps p.tables e below (T99.setTop (mkF m 129 #[.val (.int p0), .val (.ref b1), .val (.int (13 : Int32)), .val (.int (1 : Int32))] [(.int (1 : Int32))])) _
      refine XS.goto X99.here hx rfl (pc0 := 129) (pc' := 133) rfl (hb hby at_129) (by decide) (by decide) ?_
      show Steps p.tables e below (T99.setTop (mkF m 133 #[.val (.int p0), .val (.ref b1), .val (.int (13 : Int32)), .val (.int (1 : Int32))] [(.int (1 : Int32))])) _
      exact retN X99 hx (t := .boolean) Bd.returns (by simp) (hb hby at_133) hr
    · show Q0 Z p0 w_0 w_1 w_2 w_3 w_4 w_5 w_6 w_7 w_8 w_9 w_10 w_11 w_12 w_13 m_c m_w m_a h0 n0 _ T99.heap _
      rw [e99]
      exact ⟨rfl, N99⟩
set_option maxRecDepth 65536 in
set_option maxHeartbeats 40000000 in
theorem comes_1 {Post : Tables → Env → Array Value → State → Outcome → State → Prop} (hpost : ∀ tb e args s v u, (limb_1_1.after args s (.returned v) u = true ∧ limb_1_2.after args s (.returned v) u = true ∧ True) → FrameEnd s (.returned v) u (Jvm.fieldLocs frame_1_writes args s ++ Jvm.arrayLocs frame_1_arrays args s ++ Jvm.staticLocs frame_1_statics s) 16 128 → Post tb e args s (.returned v) u) :
    ArmFor flags0 classFile x code maxLocals ret World_1 tables_1 room_1 Calls_1 rest_1 Pre_1 Post := by
  intro l hfl _ _ p e ha hc hk s m args below hf hA hF happ hP
  obtain ⟨hcalls, hrest, hpre⟩ := hP
  obtain ⟨-, -, -, hnamed, -, -, -, hat⟩ := (Spec.applies_iff hf).mp happ
  obtain ⟨hg, hn⟩ := and_e (Cond.before_iff.mp (show (Jvm.Cond.and given_1 narrow_1).before args s = true from hpre))
  obtain ⟨g1, g2⟩ := and_e hg
  obtain ⟨g3, g4⟩ := and_e hn
  obtain ⟨g5, g6⟩ := and_e g4
  obtain ⟨g7, g8⟩ := and_e g6
  obtain ⟨g9, g10⟩ := and_e g8
  obtain ⟨g11, g12⟩ := and_e g10
  obtain ⟨g13, g14⟩ := and_e g12
  obtain ⟨g15, g16⟩ := and_e g14
  obtain ⟨g17, g18⟩ := and_e g16
  obtain ⟨g19, g20⟩ := and_e g18
  obtain ⟨g21, g22⟩ := and_e g20
  obtain ⟨g23, g24⟩ := and_e g22
  obtain ⟨g25, g26⟩ := and_e g24
  obtain ⟨g27, g28⟩ := and_e g26
  obtain ⟨g29, g30⟩ := and_e g28
  obtain ⟨g31, g32⟩ := and_e g30
  obtain ⟨g33, g34⟩ := and_e g32
  obtain ⟨g35, g36⟩ := and_e g34
  obtain ⟨g37, g38⟩ := and_e g36
  obtain ⟨g39, g40⟩ := and_e g38
  obtain ⟨g41, g42⟩ := and_e g40
  obtain ⟨g43, g44⟩ := and_e g42
  obtain ⟨g45, g46⟩ := and_e g44
  obtain ⟨g47, g48⟩ := and_e g46
  obtain ⟨g49, g50⟩ := and_e g48
  obtain ⟨g51, g52⟩ := and_e g50
  obtain ⟨g53, g54⟩ := and_e g52
  obtain ⟨g55, g56⟩ := and_e g54
  obtain ⟨g57, g58⟩ := and_e g56
  obtain ⟨g59, g60⟩ := and_e g58
  obtain ⟨g61, g62⟩ := and_e g60
  obtain ⟨w0, rfl⟩ : ∃ w0 : Value, args = #[w0] := by
    have hs : args.size = 1 := by simpa [Cond.value, given_1] using g1
    obtain ⟨L⟩ := args
    match L, hs with
    | [w0], _ => exact ⟨w0, rfl⟩
  have hw := fun d (hd : d ∈ tables_1) => atoms_spec (ws := Jvm.Cond.code x code maxLocals ret :: tables_1) hat d (List.mem_cons_of_mem _ hd)
  have hfit : Fit s := fun {y c} hc i hi => by
    obtain ⟨ha, rfl⟩ := Array.getElem?_eq_some_iff.mp hc
    have q := List.all_eq_true.mp ((Array.all_eq_true_iff_forall_mem.mp hF) _ (Array.getElem_mem ha)) i (List.mem_range.mpr hi)
    simpa [Array.getElem?_eq_getElem hi] using q
  obtain ⟨i0, ei0⟩ := is_v g2
  obtain rfl : w0 = (.int i0) := Option.some.inj ei0
  obtain ⟨w_0, ev_0⟩ := exa_v g3
  have E_0 : Exa s s.heap w_0 "com/example/vestwright/vestwright/model/history/EventKind" := Exa.start ev_0 g3
  have S_0 : Sta s s.heap "com/example/vestwright/vestwright/model/history/EventKind" "TERMINATION" "Lcom/example/vestwright/vestwright/model/history/EventKind;" (.ref w_0) := Sta.start ev_0 (Or.inr ⟨(hw _ (List.mem_of_getElem? (i := 3) rfl)), (hw _ (List.mem_of_getElem? (i := 4) rfl))⟩)
  obtain ⟨w_1, ev_1⟩ := exa_v g5
  have E_1 : Exa s s.heap w_1 "com/example/vestwright/vestwright/model/history/EventKind" := Exa.start ev_1 g5
  have S_1 : Sta s s.heap "com/example/vestwright/vestwright/model/history/EventKind" "REHIRE" "Lcom/example/vestwright/vestwright/model/history/EventKind;" (.ref w_1) := Sta.start ev_1 (Or.inr ⟨(hw _ (List.mem_of_getElem? (i := 3) rfl)), (hw _ (List.mem_of_getElem? (i := 7) rfl))⟩)
  obtain ⟨w_2, ev_2⟩ := exa_v g7
  have E_2 : Exa s s.heap w_2 "com/example/vestwright/vestwright/model/history/EventKind" := Exa.start ev_2 g7
  have S_2 : Sta s s.heap "com/example/vestwright/vestwright/model/history/EventKind" "TARGETS_SET" "Lcom/example/vestwright/vestwright/model/history/EventKind;" (.ref w_2) := Sta.start ev_2 (Or.inr ⟨(hw _ (List.mem_of_getElem? (i := 3) rfl)), (hw _ (List.mem_of_getElem? (i := 9) rfl))⟩)
  obtain ⟨w_3, ev_3⟩ := exa_v g9
  have E_3 : Exa s s.heap w_3 "com/example/vestwright/vestwright/model/history/EventKind" := Exa.start ev_3 g9
  have S_3 : Sta s s.heap "com/example/vestwright/vestwright/model/history/EventKind" "RESULTS_CERTIFIED" "Lcom/example/vestwright/vestwright/model/history/EventKind;" (.ref w_3) := Sta.start ev_3 (Or.inr ⟨(hw _ (List.mem_of_getElem? (i := 3) rfl)), (hw _ (List.mem_of_getElem? (i := 11) rfl))⟩)
  obtain ⟨w_4, ev_4⟩ := exa_v g11
  have E_4 : Exa s s.heap w_4 "com/example/vestwright/vestwright/model/history/EventKind" := Exa.start ev_4 g11
  have S_4 : Sta s s.heap "com/example/vestwright/vestwright/model/history/EventKind" "FIGURE_DETERMINED" "Lcom/example/vestwright/vestwright/model/history/EventKind;" (.ref w_4) := Sta.start ev_4 (Or.inr ⟨(hw _ (List.mem_of_getElem? (i := 3) rfl)), (hw _ (List.mem_of_getElem? (i := 13) rfl))⟩)
  obtain ⟨w_5, ev_5⟩ := exa_v g13
  have E_5 : Exa s s.heap w_5 "com/example/vestwright/vestwright/model/history/EventKind" := Exa.start ev_5 g13
  have S_5 : Sta s s.heap "com/example/vestwright/vestwright/model/history/EventKind" "CHANGE_OF_CONTROL" "Lcom/example/vestwright/vestwright/model/history/EventKind;" (.ref w_5) := Sta.start ev_5 (Or.inr ⟨(hw _ (List.mem_of_getElem? (i := 3) rfl)), (hw _ (List.mem_of_getElem? (i := 15) rfl))⟩)
  obtain ⟨w_6, ev_6⟩ := exa_v g15
  have E_6 : Exa s s.heap w_6 "com/example/vestwright/vestwright/model/history/EventKind" := Exa.start ev_6 g15
  have S_6 : Sta s s.heap "com/example/vestwright/vestwright/model/history/EventKind" "TRANSACTION" "Lcom/example/vestwright/vestwright/model/history/EventKind;" (.ref w_6) := Sta.start ev_6 (Or.inr ⟨(hw _ (List.mem_of_getElem? (i := 3) rfl)), (hw _ (List.mem_of_getElem? (i := 17) rfl))⟩)
  obtain ⟨w_7, ev_7⟩ := exa_v g17
  have E_7 : Exa s s.heap w_7 "com/example/vestwright/vestwright/model/history/EventKind" := Exa.start ev_7 g17
  have S_7 : Sta s s.heap "com/example/vestwright/vestwright/model/history/EventKind" "CORPORATE_EVENT" "Lcom/example/vestwright/vestwright/model/history/EventKind;" (.ref w_7) := Sta.start ev_7 (Or.inr ⟨(hw _ (List.mem_of_getElem? (i := 3) rfl)), (hw _ (List.mem_of_getElem? (i := 19) rfl))⟩)
  obtain ⟨w_8, ev_8⟩ := exa_v g19
  have E_8 : Exa s s.heap w_8 "com/example/vestwright/vestwright/model/history/EventKind" := Exa.start ev_8 g19
  have S_8 : Sta s s.heap "com/example/vestwright/vestwright/model/history/EventKind" "BALANCE" "Lcom/example/vestwright/vestwright/model/history/EventKind;" (.ref w_8) := Sta.start ev_8 (Or.inr ⟨(hw _ (List.mem_of_getElem? (i := 3) rfl)), (hw _ (List.mem_of_getElem? (i := 21) rfl))⟩)
  obtain ⟨w_9, ev_9⟩ := exa_v g21
  have E_9 : Exa s s.heap w_9 "com/example/vestwright/vestwright/model/history/EventKind" := Exa.start ev_9 g21
  have S_9 : Sta s s.heap "com/example/vestwright/vestwright/model/history/EventKind" "DISTRIBUTION" "Lcom/example/vestwright/vestwright/model/history/EventKind;" (.ref w_9) := Sta.start ev_9 (Or.inr ⟨(hw _ (List.mem_of_getElem? (i := 3) rfl)), (hw _ (List.mem_of_getElem? (i := 23) rfl))⟩)
  obtain ⟨w_10, ev_10⟩ := exa_v g23
  have E_10 : Exa s s.heap w_10 "com/example/vestwright/vestwright/model/history/EventKind" := Exa.start ev_10 g23
  have S_10 : Sta s s.heap "com/example/vestwright/vestwright/model/history/EventKind" "UNITS_SETTLED" "Lcom/example/vestwright/vestwright/model/history/EventKind;" (.ref w_10) := Sta.start ev_10 (Or.inr ⟨(hw _ (List.mem_of_getElem? (i := 3) rfl)), (hw _ (List.mem_of_getElem? (i := 25) rfl))⟩)
  obtain ⟨w_11, ev_11⟩ := exa_v g25
  have E_11 : Exa s s.heap w_11 "com/example/vestwright/vestwright/model/history/EventKind" := Exa.start ev_11 g25
  have S_11 : Sta s s.heap "com/example/vestwright/vestwright/model/history/EventKind" "PARENT_CHANGE_OF_CONTROL" "Lcom/example/vestwright/vestwright/model/history/EventKind;" (.ref w_11) := Sta.start ev_11 (Or.inr ⟨(hw _ (List.mem_of_getElem? (i := 3) rfl)), (hw _ (List.mem_of_getElem? (i := 27) rfl))⟩)
  obtain ⟨w_12, ev_12⟩ := exa_v g27
  have E_12 : Exa s s.heap w_12 "com/example/vestwright/vestwright/model/history/EventKind" := Exa.start ev_12 g27
  have S_12 : Sta s s.heap "com/example/vestwright/vestwright/model/history/EventKind" "SUCCESSION_PLANNING" "Lcom/example/vestwright/vestwright/model/history/EventKind;" (.ref w_12) := Sta.start ev_12 (Or.inr ⟨(hw _ (List.mem_of_getElem? (i := 3) rfl)), (hw _ (List.mem_of_getElem? (i := 29) rfl))⟩)
  obtain ⟨w_13, ev_13⟩ := exa_v g29
  have E_13 : Exa s s.heap w_13 "com/example/vestwright/vestwright/model/history/EventKind" := Exa.start ev_13 g29
  have S_13 : Sta s s.heap "com/example/vestwright/vestwright/model/history/EventKind" "RELEASE_IRREVOCABLE" "Lcom/example/vestwright/vestwright/model/history/EventKind;" (.ref w_13) := Sta.start ev_13 (Or.inr ⟨(hw _ (List.mem_of_getElem? (i := 3) rfl)), (hw _ (List.mem_of_getElem? (i := 31) rfl))⟩)
  obtain ⟨m_c, ev_mc⟩ := exa_v g49
  obtain ⟨m_w, ev_mw⟩ := exa_v g35
  obtain ⟨m_a, ev_ma⟩ := exa_v g39
  have F_0 : Fld s s.heap w_0 "com/example/vestwright/vestwright/model/history/EventKind" "scope" "Lcom/example/vestwright/vestwright/model/history/MilestoneScope;" .null := Fld.start ((fld_at ev_0).symm.trans (null_v g31))
  have F_1 : Fld s s.heap w_1 "com/example/vestwright/vestwright/model/history/EventKind" "scope" "Lcom/example/vestwright/vestwright/model/history/MilestoneScope;" .null := Fld.start ((fld_at ev_1).symm.trans (null_v g57))
  have F_2 : Fld s s.heap w_2 "com/example/vestwright/vestwright/model/history/EventKind" "scope" "Lcom/example/vestwright/vestwright/model/history/MilestoneScope;" .null := Fld.start ((fld_at ev_2).symm.trans (null_v g47))
  have F_3 : Fld s s.heap w_3 "com/example/vestwright/vestwright/model/history/EventKind" "scope" "Lcom/example/vestwright/vestwright/model/history/MilestoneScope;" .null := Fld.start ((fld_at ev_3).symm.trans (null_v g33))
  have F_4 : Fld s s.heap w_4 "com/example/vestwright/vestwright/model/history/EventKind" "scope" "Lcom/example/vestwright/vestwright/model/history/MilestoneScope;" .null := Fld.start ((fld_at ev_4).symm.trans (null_v g43))
  have F_5 : Fld s s.heap w_5 "com/example/vestwright/vestwright/model/history/EventKind" "scope" "Lcom/example/vestwright/vestwright/model/history/MilestoneScope;" .null := Fld.start ((fld_at ev_5).symm.trans (null_v g61))
  have F_6 : Fld s s.heap w_6 "com/example/vestwright/vestwright/model/history/EventKind" "scope" "Lcom/example/vestwright/vestwright/model/history/MilestoneScope;" .null := Fld.start ((fld_at ev_6).symm.trans (null_v g62))
  have F_7 : Fld s s.heap w_7 "com/example/vestwright/vestwright/model/history/EventKind" "scope" "Lcom/example/vestwright/vestwright/model/history/MilestoneScope;" .null := Fld.start ((fld_at ev_7).symm.trans (null_v g45))
  have F_8 : Fld s s.heap w_8 "com/example/vestwright/vestwright/model/history/EventKind" "scope" "Lcom/example/vestwright/vestwright/model/history/MilestoneScope;" .null := Fld.start ((fld_at ev_8).symm.trans (null_v g55))
  have F_9 : Fld s s.heap w_9 "com/example/vestwright/vestwright/model/history/EventKind" "scope" "Lcom/example/vestwright/vestwright/model/history/MilestoneScope;" .null := Fld.start ((fld_at ev_9).symm.trans (null_v g59))
  have F_10 : Fld s s.heap w_10 "com/example/vestwright/vestwright/model/history/EventKind" "scope" "Lcom/example/vestwright/vestwright/model/history/MilestoneScope;" .null := Fld.start ((fld_at ev_10).symm.trans (null_v g53))
  have F_11 : Fld s s.heap w_11 "com/example/vestwright/vestwright/model/history/EventKind" "scope" "Lcom/example/vestwright/vestwright/model/history/MilestoneScope;" (.ref m_c) := Fld.start ((fld_at ev_11).symm.trans (own_eqR ev_mc g51))
  have F_12 : Fld s s.heap w_12 "com/example/vestwright/vestwright/model/history/EventKind" "scope" "Lcom/example/vestwright/vestwright/model/history/MilestoneScope;" (.ref m_w) := Fld.start ((fld_at ev_12).symm.trans (own_eqR ev_mw g37))
  have F_13 : Fld s s.heap w_13 "com/example/vestwright/vestwright/model/history/EventKind" "scope" "Lcom/example/vestwright/vestwright/model/history/MilestoneScope;" (.ref m_a) := Fld.start ((fld_at ev_13).symm.trans (own_eqR ev_ma g41))
  obtain ⟨n, o, h1, h2, h3, _, L, rfl, ⟨rfl, N⟩, hq⟩ := rm0 l s _ hw tables_1 i0 w_0 w_1 w_2 w_3 w_4 w_5 w_6 w_7 w_8 w_9 w_10 w_11 w_12 w_13 m_c m_w m_a s.heap s.heap.size (Nat.le_refl _) E_0 E_1 E_2 E_3 E_4 E_5 E_6 E_7 E_8 E_9 E_10 E_11 E_12 E_13 S_0 S_1 S_2 S_3 S_4 S_5 S_6 S_7 S_8 S_9 S_10 S_11 S_12 S_13 F_0 F_1 F_2 F_3 F_4 F_5 F_6 F_7 F_8 F_9 F_10 F_11 F_12 F_13 p e ha hc hk s m _ below hf ((Spec.applies_iff_loose hf).mp happ).1 ⟨rfl, State.Warmed39.refl s, rfl⟩ trivial
  refine ⟨n, _, h1, h2, h3, hpost _ _ _ _ _ _ ⟨Cond.after_iff.mpr rfl, Cond.after_iff.mpr (eq_i res_at (Term.int_eval (1)) rfl), trivial⟩ ⟨hq.1, hq.2.1, (hq.2.2.sift fun y hy => Or.inr (N y hy)).mono (by decide) (by decide)⟩⟩
theorem main_1_1 : Claimed_1_1 := comes_1 fun _ _ _ _ _ _ h hF => ⟨h.1, hF⟩
theorem main_1_2 : Claimed_1_2 := comes_1 fun _ _ _ _ _ _ h hF => ⟨h.2.1, hF⟩
end Jvm.Pilot.@@N@@
namespace Jvm.Pilot.@@N@@
open Jvm Jvm.ClassFile Sem Op Lib Jvm.Free Jvm.Stand Jvm.Pilot.@@N@@.Jvm.D
/-! MADE BY PROGRAM (witnessworld.py) out of the Statement's table words and the real class files: 15 classes; the members and pool entries that the words name. The judged class is class 1, her method 1. -/
namespace start1
open Jvm.ClassFile
def u (s : String) : CpInfo := .utf8 (stringToUtf16 s)
/-- a pool by its gaps: so many unusable entries, then the entry; so many at the end -/
def gap : Nat → List CpInfo → List CpInfo
  | 0, r => r
  | n + 1, r => .unusable :: gap n r
def poolList (es : List (Nat × CpInfo)) (last : Nat) : List CpInfo := es.foldr (fun e r => gap e.1 (e.2 :: r)) (gap last [])
def pool (es : List (Nat × CpInfo)) (last : Nat) : Array CpInfo := ⟨poolList es last⟩
def fileOf (pool : Array CpInfo) (this : Nat) (attrs : Array Attribute := #[]) (ms : Array MethodInfo := #[]) (fl : Nat := 33) (sup : Nat := 0) (ifs : Array Nat := #[]) (fds : Array FieldInfo := #[]) : ClassFile where
  minorVersion := 0
  majorVersion := 65
  constantPool := pool
  accessFlags := fl
  thisClass := this
  superClass := sup
  interfaces := ifs
  fields := fds
  methods := ms
  attributes := attrs
def plain (name : String) (sup : Option ClassId) : Class where
  name := name
  kind := .ordinary
  loader := none
  accessFlags := 33
  super := sup
  interfaces := #[]
  cf := none
  fields := #[]
  methods := #[]
  instanceTypes := #[]
  staticTypes := #[]
  resolved := #[]
  callSites := []
  init := .initialized
  statics := none
  mirror := none

def pool0 : Array CpInfo := pool [(5, u "<init>"), (0, u "()V"), (1, .class_ 10), (1, u "java/lang/Object")] 113

def k0m0 : Method := { name := "<init>", desc := "()V", sig := { parameters := [], returnType := none }, accessFlags := 1, code := none }
/-- java/lang/Object -/
def k0 : Class := { plain "java/lang/Object" none with
  accessFlags := 33
  interfaces := #[]
  cf := some (fileOf pool0 8 #[] #[{ accessFlags := 1, nameIndex := 5, descriptorIndex := 6, attributes := #[] }] 33 0 #[] #[])
  fields := #[]
  methods := #[k0m0]
  instanceTypes := #[]
  staticTypes := #[]
  resolved := Array.replicate 124 none
  statics := none }

def pool1 : Array CpInfo := pool [(2, .class_ 4), (1, u "java/lang/Object"), (0, u "<init>"), (0, u "()V"), (0, .class_ 8), (0, u "com/example/vestwright/vestwright/model/history/EventKind"), (0, .fieldref 7 10), (0, .nameAndType 11 12), (0, u "TERMINATION"), (0, u "Lcom/example/vestwright/vestwright/model/history/EventKind;"), (0, .fieldref 7 14), (0, .nameAndType 15 12), (0, u "REHIRE"), (0, .fieldref 7 17), (0, .nameAndType 18 12), (0, u "TARGETS_SET"), (0, .fieldref 7 20), (0, .nameAndType 21 12), (0, u "RESULTS_CERTIFIED"), (0, .fieldref 7 23), (0, .nameAndType 24 12), (0, u "FIGURE_DETERMINED"), (0, .fieldref 7 26), (0, .nameAndType 27 12), (0, u "CHANGE_OF_CONTROL"), (0, .fieldref 7 29), (0, .nameAndType 30 12), (0, u "TRANSACTION"), (0, .fieldref 7 32), (0, .nameAndType 33 12), (0, u "CORPORATE_EVENT"), (0, .fieldref 7 35), (0, .nameAndType 36 12), (0, u "BALANCE"), (0, .fieldref 7 38), (0, .nameAndType 39 12), (0, u "DISTRIBUTION"), (0, .fieldref 7 41), (0, .nameAndType 42 12), (0, u "UNITS_SETTLED"), (0, .fieldref 7 44), (0, .nameAndType 45 12), (0, u "PARENT_CHANGE_OF_CONTROL"), (0, .fieldref 7 47), (0, .nameAndType 48 12), (0, u "SUCCESSION_PLANNING"), (0, .fieldref 7 50), (0, .nameAndType 51 12), (0, u "RELEASE_IRREVOCABLE"), (0, .integer 2147483647), (0, .methodref 7 54), (0, .nameAndType 55 56), (0, u "milestone"), (0, u "()Z"), (0, .class_ 58), (0, u "com/example/vestwright/vestwright/model/history/EventKindMilestonePinLaw"), (2, u "law"), (0, u "(I)Z")] 5

def k1m0 : Method := { name := "<init>", desc := "()V", sig := { parameters := [], returnType := none }, accessFlags := 1, code := none }
def k1c1 : Code := { maxStack := 4, maxLocals := 4, code := code, exceptionTable := #[], attributes := #[] }
def k1m1 : Method := { name := "law", desc := "(I)Z", sig := { parameters := [.int], returnType := some .boolean }, accessFlags := 9, code := some k1c1 }
/-- com/example/vestwright/vestwright/model/history/EventKindMilestonePinLaw -/
def k1 : Class := { plain "com/example/vestwright/vestwright/model/history/EventKindMilestonePinLaw" (some 0) with
  accessFlags := 49
  interfaces := #[]
  cf := some (fileOf pool1 57 #[] #[{ accessFlags := 1, nameIndex := 5, descriptorIndex := 6, attributes := #[] }, { accessFlags := 9, nameIndex := 61, descriptorIndex := 62, attributes := #[] }] 49 2 #[] #[])
  fields := #[]
  methods := #[k1m0, k1m1]
  instanceTypes := #[]
  staticTypes := #[]
  resolved := Array.replicate 68 none
  statics := none }

def pool2 : Array CpInfo := pool [(1, .class_ 2), (0, u "java/lang/constant/Constable"), (0, .class_ 4), (0, u "java/lang/Object")] 6

/-- java/lang/constant/Constable -/
def k2 : Class := { plain "java/lang/constant/Constable" (some 0) with
  accessFlags := 1537
  interfaces := #[]
  cf := some (fileOf pool2 1 #[] #[] 1537 3 #[] #[])
  fields := #[]
  methods := #[]
  instanceTypes := #[]
  staticTypes := #[]
  resolved := Array.replicate 11 none
  statics := none }

def pool3 : Array CpInfo := pool [(1, .class_ 2), (0, u "java/lang/Comparable"), (0, .class_ 4), (0, u "java/lang/Object")] 7

/-- java/lang/Comparable -/
def k3 : Class := { plain "java/lang/Comparable" (some 0) with
  accessFlags := 1537
  interfaces := #[]
  cf := some (fileOf pool3 1 #[] #[] 1537 3 #[] #[])
  fields := #[]
  methods := #[]
  instanceTypes := #[]
  staticTypes := #[]
  resolved := Array.replicate 12 none
  statics := none }

def pool4 : Array CpInfo := pool [(1, .class_ 2), (0, u "java/io/Serializable"), (0, .class_ 4), (0, u "java/lang/Object")] 2

/-- java/io/Serializable -/
def k4 : Class := { plain "java/io/Serializable" (some 0) with
  accessFlags := 1537
  interfaces := #[]
  cf := some (fileOf pool4 1 #[] #[] 1537 3 #[] #[])
  fields := #[]
  methods := #[]
  instanceTypes := #[]
  staticTypes := #[]
  resolved := Array.replicate 7 none
  statics := none }

def pool5 : Array CpInfo := pool [(2, .class_ 4), (1, u "java/lang/Enum"), (0, u "name"), (0, u "Ljava/lang/String;"), (2, u "ordinal"), (0, u "I"), (1, .class_ 14), (1, u "java/lang/Object"), (4, u "hash"), (86, .class_ 108), (1, u "java/lang/Enum$EnumDesc"), (2, .class_ 112), (0, u "java/lang/constant/Constable"), (0, .class_ 114), (0, u "java/lang/Comparable"), (0, .class_ 116), (0, u "java/io/Serializable")] 87

/-- java/lang/Enum -/
def k5 : Class := { plain "java/lang/Enum" (some 0) with
  accessFlags := 1057
  interfaces := #[2, 3, 4]
  cf := some (fileOf pool5 2 #[.nestMembers #[106]] #[] 1057 12 #[111, 113, 115] #[{ accessFlags := 18, nameIndex := 5, descriptorIndex := 6, attributes := #[] }, { accessFlags := 18, nameIndex := 9, descriptorIndex := 10, attributes := #[] }, { accessFlags := 2, nameIndex := 19, descriptorIndex := 10, attributes := #[] }])
  fields := #[{ name := "name", type := (.object "java/lang/String"), accessFlags := 18, slot := 0, constantValue := 0 }, { name := "ordinal", type := .int, accessFlags := 18, slot := 1, constantValue := 0 }, { name := "hash", type := .int, accessFlags := 2, slot := 2, constantValue := 0 }]
  methods := #[]
  instanceTypes := #[(.object "java/lang/String"), .int, .int]
  staticTypes := #[]
  resolved := Array.replicate 204 none
  statics := none }

def pool6 : Array CpInfo := pool [(1, .class_ 2), (0, u "com/example/vestwright/vestwright/model/Keyword"), (0, .class_ 4), (0, u "java/lang/Object")] 4

/-- com/example/vestwright/vestwright/model/Keyword -/
def k6 : Class := { plain "com/example/vestwright/vestwright/model/Keyword" (some 0) with
  accessFlags := 1537
  interfaces := #[]
  cf := some (fileOf pool6 1 #[] #[] 1537 3 #[] #[])
  fields := #[]
  methods := #[]
  instanceTypes := #[]
  staticTypes := #[]
  resolved := Array.replicate 9 none
  statics := none }

def pool7 : Array CpInfo := pool [(1, .class_ 2), (0, u "com/example/vestwright/vestwright/model/history/EventKind"), (2, u "TERMINATION"), (0, u "Lcom/example/vestwright/vestwright/model/history/EventKind;"), (2, u "REHIRE"), (2, u "TARGETS_SET"), (2, u "RESULTS_CERTIFIED"), (2, u "FIGURE_DETERMINED"), (2, u "CHANGE_OF_CONTROL"), (2, u "TRANSACTION"), (2, u "CORPORATE_EVENT"), (2, u "BALANCE"), (2, u "DISTRIBUTION"), (2, u "UNITS_SETTLED"), (2, u "PARENT_CHANGE_OF_CONTROL"), (2, u "SUCCESSION_PLANNING"), (2, u "RELEASE_IRREVOCABLE"), (2, u "$VALUES"), (0, u "[Lcom/example/vestwright/vestwright/model/history/EventKind;"), (6, .class_ 58), (1, u "java/lang/Enum"), (8, u "keyword"), (0, u "Ljava/lang/String;"), (0, .fieldref 1 70), (0, .nameAndType 71 72), (0, u "scope"), (0, u "Lcom/example/vestwright/vestwright/model/history/MilestoneScope;"), (60, .class_ 134), (0, u "com/example/vestwright/vestwright/model/Keyword"), (8, u "milestone"), (0, u "()Z")] 7

def k7c0 : Code := { maxStack := 1, maxLocals := 1, code := prog_62_method_5_code, exceptionTable := #[], attributes := #[] }
def k7m0 : Method := { name := "milestone", desc := "()Z", sig := { parameters := [], returnType := some .boolean }, accessFlags := 1, code := some k7c0 }
/-- com/example/vestwright/vestwright/model/history/EventKind -/
def k7 : Class := { plain "com/example/vestwright/vestwright/model/history/EventKind" (some 5) with
  accessFlags := 16433
  interfaces := #[6]
  cf := some (fileOf pool7 1 #[] #[{ accessFlags := 1, nameIndex := 143, descriptorIndex := 144, attributes := #[] }] 16433 56 #[133] #[{ accessFlags := 16409, nameIndex := 5, descriptorIndex := 6, attributes := #[] }, { accessFlags := 16409, nameIndex := 9, descriptorIndex := 6, attributes := #[] }, { accessFlags := 16409, nameIndex := 12, descriptorIndex := 6, attributes := #[] }, { accessFlags := 16409, nameIndex := 15, descriptorIndex := 6, attributes := #[] }, { accessFlags := 16409, nameIndex := 18, descriptorIndex := 6, attributes := #[] }, { accessFlags := 16409, nameIndex := 21, descriptorIndex := 6, attributes := #[] }, { accessFlags := 16409, nameIndex := 24, descriptorIndex := 6, attributes := #[] }, { accessFlags := 16409, nameIndex := 27, descriptorIndex := 6, attributes := #[] }, { accessFlags := 16409, nameIndex := 30, descriptorIndex := 6, attributes := #[] }, { accessFlags := 16409, nameIndex := 33, descriptorIndex := 6, attributes := #[] }, { accessFlags := 16409, nameIndex := 36, descriptorIndex := 6, attributes := #[] }, { accessFlags := 16409, nameIndex := 39, descriptorIndex := 6, attributes := #[] }, { accessFlags := 16409, nameIndex := 42, descriptorIndex := 6, attributes := #[] }, { accessFlags := 16409, nameIndex := 45, descriptorIndex := 6, attributes := #[] }, { accessFlags := 18, nameIndex := 67, descriptorIndex := 68, attributes := #[] }, { accessFlags := 18, nameIndex := 71, descriptorIndex := 72, attributes := #[] }, { accessFlags := 4122, nameIndex := 48, descriptorIndex := 49, attributes := #[] }])
  fields := #[{ name := "TERMINATION", type := (.object "com/example/vestwright/vestwright/model/history/EventKind"), accessFlags := 16409, slot := 0, constantValue := 0 }, { name := "REHIRE", type := (.object "com/example/vestwright/vestwright/model/history/EventKind"), accessFlags := 16409, slot := 1, constantValue := 0 }, { name := "TARGETS_SET", type := (.object "com/example/vestwright/vestwright/model/history/EventKind"), accessFlags := 16409, slot := 2, constantValue := 0 }, { name := "RESULTS_CERTIFIED", type := (.object "com/example/vestwright/vestwright/model/history/EventKind"), accessFlags := 16409, slot := 3, constantValue := 0 }, { name := "FIGURE_DETERMINED", type := (.object "com/example/vestwright/vestwright/model/history/EventKind"), accessFlags := 16409, slot := 4, constantValue := 0 }, { name := "CHANGE_OF_CONTROL", type := (.object "com/example/vestwright/vestwright/model/history/EventKind"), accessFlags := 16409, slot := 5, constantValue := 0 }, { name := "TRANSACTION", type := (.object "com/example/vestwright/vestwright/model/history/EventKind"), accessFlags := 16409, slot := 6, constantValue := 0 }, { name := "CORPORATE_EVENT", type := (.object "com/example/vestwright/vestwright/model/history/EventKind"), accessFlags := 16409, slot := 7, constantValue := 0 }, { name := "BALANCE", type := (.object "com/example/vestwright/vestwright/model/history/EventKind"), accessFlags := 16409, slot := 8, constantValue := 0 }, { name := "DISTRIBUTION", type := (.object "com/example/vestwright/vestwright/model/history/EventKind"), accessFlags := 16409, slot := 9, constantValue := 0 }, { name := "UNITS_SETTLED", type := (.object "com/example/vestwright/vestwright/model/history/EventKind"), accessFlags := 16409, slot := 10, constantValue := 0 }, { name := "PARENT_CHANGE_OF_CONTROL", type := (.object "com/example/vestwright/vestwright/model/history/EventKind"), accessFlags := 16409, slot := 11, constantValue := 0 }, { name := "SUCCESSION_PLANNING", type := (.object "com/example/vestwright/vestwright/model/history/EventKind"), accessFlags := 16409, slot := 12, constantValue := 0 }, { name := "RELEASE_IRREVOCABLE", type := (.object "com/example/vestwright/vestwright/model/history/EventKind"), accessFlags := 16409, slot := 13, constantValue := 0 }, { name := "keyword", type := (.object "java/lang/String"), accessFlags := 18, slot := 3, constantValue := 0 }, { name := "scope", type := (.object "com/example/vestwright/vestwright/model/history/MilestoneScope"), accessFlags := 18, slot := 4, constantValue := 0 }, { name := "$VALUES", type := (.array (.object "com/example/vestwright/vestwright/model/history/EventKind")), accessFlags := 4122, slot := 14, constantValue := 0 }]
  methods := #[k7m0]
  instanceTypes := #[(.object "java/lang/String"), .int, .int, (.object "java/lang/String"), (.object "com/example/vestwright/vestwright/model/history/MilestoneScope")]
  staticTypes := #[(.object "com/example/vestwright/vestwright/model/history/EventKind"), (.object "com/example/vestwright/vestwright/model/history/EventKind"), (.object "com/example/vestwright/vestwright/model/history/EventKind"), (.object "com/example/vestwright/vestwright/model/history/EventKind"), (.object "com/example/vestwright/vestwright/model/history/EventKind"), (.object "com/example/vestwright/vestwright/model/history/EventKind"), (.object "com/example/vestwright/vestwright/model/history/EventKind"), (.object "com/example/vestwright/vestwright/model/history/EventKind"), (.object "com/example/vestwright/vestwright/model/history/EventKind"), (.object "com/example/vestwright/vestwright/model/history/EventKind"), (.object "com/example/vestwright/vestwright/model/history/EventKind"), (.object "com/example/vestwright/vestwright/model/history/EventKind"), (.object "com/example/vestwright/vestwright/model/history/EventKind"), (.object "com/example/vestwright/vestwright/model/history/EventKind"), (.array (.object "com/example/vestwright/vestwright/model/history/EventKind"))]
  resolved := Array.replicate 152 none
  statics := some 0 }

def pool8 : Array CpInfo := pool [(1, .class_ 2), (0, u "com/example/vestwright/vestwright/model/history/MilestoneScope"), (2, u "COMPANY"), (0, u "Lcom/example/vestwright/vestwright/model/history/MilestoneScope;"), (2, u "WHILE_EMPLOYED"), (2, u "AFTER_TERMINATION"), (2, u "$VALUES"), (0, u "[Lcom/example/vestwright/vestwright/model/history/MilestoneScope;"), (6, .class_ 25), (1, u "java/lang/Enum")] 25

/-- com/example/vestwright/vestwright/model/history/MilestoneScope -/
def k8 : Class := { plain "com/example/vestwright/vestwright/model/history/MilestoneScope" (some 5) with
  accessFlags := 16432
  interfaces := #[]
  cf := some (fileOf pool8 1 #[] #[] 16432 23 #[] #[{ accessFlags := 16409, nameIndex := 5, descriptorIndex := 6, attributes := #[] }, { accessFlags := 16409, nameIndex := 9, descriptorIndex := 6, attributes := #[] }, { accessFlags := 16409, nameIndex := 12, descriptorIndex := 6, attributes := #[] }, { accessFlags := 4122, nameIndex := 15, descriptorIndex := 16, attributes := #[] }])
  fields := #[{ name := "COMPANY", type := (.object "com/example/vestwright/vestwright/model/history/MilestoneScope"), accessFlags := 16409, slot := 0, constantValue := 0 }, { name := "WHILE_EMPLOYED", type := (.object "com/example/vestwright/vestwright/model/history/MilestoneScope"), accessFlags := 16409, slot := 1, constantValue := 0 }, { name := "AFTER_TERMINATION", type := (.object "com/example/vestwright/vestwright/model/history/MilestoneScope"), accessFlags := 16409, slot := 2, constantValue := 0 }, { name := "$VALUES", type := (.array (.object "com/example/vestwright/vestwright/model/history/MilestoneScope")), accessFlags := 4122, slot := 3, constantValue := 0 }]
  methods := #[]
  instanceTypes := #[(.object "java/lang/String"), .int, .int]
  staticTypes := #[(.object "com/example/vestwright/vestwright/model/history/MilestoneScope"), (.object "com/example/vestwright/vestwright/model/history/MilestoneScope"), (.object "com/example/vestwright/vestwright/model/history/MilestoneScope"), (.array (.object "com/example/vestwright/vestwright/model/history/MilestoneScope"))]
  resolved := Array.replicate 51 none
  statics := some 1 }

def pool9 : Array CpInfo := pool [(1, u "java/lang/Cloneable"), (0, .class_ 1), (0, u "java/lang/Object"), (0, .class_ 3)] 3

/-- java/lang/Cloneable -/
def k9 : Class := { plain "java/lang/Cloneable" (some 0) with
  accessFlags := 1537
  interfaces := #[]
  cf := some (fileOf pool9 2 #[] #[] 1537 4 #[] #[])
  fields := #[]
  methods := #[]
  instanceTypes := #[]
  staticTypes := #[]
  resolved := Array.replicate 8 none
  statics := none }

/-- the primitive byte -/
def k10 : Class := { plain "byte" none with kind := .primitive 'B', accessFlags := 0x411 }
/-- [B -/
def k11 : Class := { plain "[B" (some 0) with kind := .array 10 .byte, interfaces := #[9, 4], accessFlags := 1041 }

/-- the primitive int -/
def k12 : Class := { plain "int" none with kind := .primitive 'I', accessFlags := 0x411 }
/-- [I -/
def k13 : Class := { plain "[I" (some 0) with kind := .array 12 .int, interfaces := #[9, 4], accessFlags := 1041 }

/-- [Lcom/example/vestwright/vestwright/model/history/EventKind; -/
def k14 : Class := { plain "[Lcom/example/vestwright/vestwright/model/history/EventKind;" (some 0) with kind := .array 7 (.object "com/example/vestwright/vestwright/model/history/EventKind"), interfaces := #[9, 4], accessFlags := 1041 }

def heap : Heap := #[{ cls := 7, slots := #[.ref 2, .ref 3, .ref 4, .ref 5, .ref 6, .ref 7, .ref 8, .ref 9, .ref 10, .ref 11, .ref 12, .ref 13, .ref 14, .ref 15, .null], vm := .statics 7 },
  { cls := 8, slots := #[.ref 16, .ref 17, .ref 18, .null], vm := .statics 8 },
  { cls := 7, slots := #[.null, .int 0, .int 0, .null, .null], vm := .none },
  { cls := 7, slots := #[.null, .int 1, .int 0, .null, .null], vm := .none },
  { cls := 7, slots := #[.null, .int 2, .int 0, .null, .null], vm := .none },
  { cls := 7, slots := #[.null, .int 3, .int 0, .null, .null], vm := .none },
  { cls := 7, slots := #[.null, .int 4, .int 0, .null, .null], vm := .none },
  { cls := 7, slots := #[.null, .int 5, .int 0, .null, .null], vm := .none },
  { cls := 7, slots := #[.null, .int 6, .int 0, .null, .null], vm := .none },
  { cls := 7, slots := #[.null, .int 7, .int 0, .null, .null], vm := .none },
  { cls := 7, slots := #[.null, .int 8, .int 0, .null, .null], vm := .none },
  { cls := 7, slots := #[.null, .int 9, .int 0, .null, .null], vm := .none },
  { cls := 7, slots := #[.null, .int 10, .int 0, .null, .null], vm := .none },
  { cls := 7, slots := #[.null, .int 11, .int 0, .null, .ref 16], vm := .none },
  { cls := 7, slots := #[.null, .int 12, .int 0, .null, .ref 17], vm := .none },
  { cls := 7, slots := #[.null, .int 13, .int 0, .null, .ref 18], vm := .none },
  { cls := 8, slots := #[.null, .int 0, .int 0], vm := .none },
  { cls := 8, slots := #[.null, .int 1, .int 0], vm := .none },
  { cls := 8, slots := #[.null, .int 2, .int 0], vm := .none }]
def classes : Array Class := #[k0, k1, k2, k3, k4, k5, k6, k7, k8, k9, k10, k11, k12, k13, k14]
def interned : List (Array UInt16 × Addr) := []
def slotsUsed : Nat := 98
def theMethod : MethodId := ⟨1, 1⟩
def args0 : Array Value := #[.int 5]
def aboutOver (below : List Frame) : State where
  vm := { classes := classes, interned := interned.toArray }
  heap := heap
  slotsUsed := slotsUsed
  threads := #[{ frames := .invoking theMethod args0 :: below }]
def below0 : List Frame := [.native { method := ⟨0, 0⟩, args := #[] }]
def about1 : State := aboutOver below0
def p0 : Program := .bare "" "" ""
def e0 : Env := launch0.env 0 0 0
theorem w_frames : about1.frames = Frame.invoking theMethod args0 :: below0 := rfl
set_option maxRecDepth 65536 in
theorem w_args : argsFit about1.vm theMethod args0 = true := by decide +kernel
set_option maxRecDepth 65536 in
theorem w_heap : heapFits about1 = true := by decide +kernel
set_option maxRecDepth 65536 in
theorem w_runnable : about1.curStatus? = some .runnable := by decide +kernel
set_option maxRecDepth 65536 in
theorem w_alone : about1.alone = true := by decide +kernel
set_option maxRecDepth 65536 in
theorem w_named : about1.methodNamed? x = some theMethod := by decide +kernel
set_option maxRecDepth 65536 in
theorem w_hears : about1.hears theMethod below0 = true := by decide +kernel
set_option maxRecDepth 65536 in
theorem w_ripe : about1.ripe theMethod args0 below0 = true := by decide +kernel
theorem w_running : about1.status = .running := rfl
set_option maxRecDepth 65536 in
theorem w_room : about1.hasRoom e0.platform room_1 = true :=
  launch0.hasRoom_least _ room_1 (by decide +kernel) (by decide +kernel) (by decide +kernel) (by decide +kernel) (by decide +kernel) (by decide +kernel)
theorem allAtoms_all (ts : List Jvm.Cond) (a : Array Jvm.Value) (st : Jvm.State) : (allAtoms ts).before a st = ts.all (fun c => c.before a st) := by
  induction ts with
  | nil => rfl
  | cons c t ih =>
    show (Jvm.Cond.and c (allAtoms t)).before a st = _
    rw [Jvm.Cond.before_and, ih, List.all_cons]
def words1 : List Jvm.Cond := Jvm.Cond.code x code maxLocals ret :: tables_1
/-- a 'code' word, met by the world's own term for the bytes: nothing is compared byte by byte -/
theorem code_word {y : MethodName} {bytes : ByteArray} {mx : Nat} {rt : Option FieldType} {a : Array Value} {s : State} {m : MethodId} {meth : Method} {c : Code} (h1 : s.methodNamed? y = some m) (h2 : s.vm.method? m = some meth) (h3 : meth.code = some c) (h4 : c.code = bytes)
    (h5 : (c.maxLocals == mx && c.exceptionTable.isEmpty && decide (c.maxStack ≤ mostOperands) && decide (meth.sig.returnType = rt) && !meth.locks && decide (parseMethodDescriptor y.desc = some meth.sig)) = true) : (Jvm.Cond.code y bytes mx rt).before a s = true := by
  simp only [Bool.and_eq_true, beq_iff_eq, Bool.not_eq_true', decide_eq_true_eq] at h5
  obtain ⟨⟨⟨⟨⟨g1, g2⟩, g3⟩, g4⟩, g5⟩, g6⟩ := h5
  simp [Cond.before, Cond.holds, Cond.value, h1, h2, h3, h4, g1, g2, g3, g4, g5, g6]
def isCode : Jvm.Cond → Bool
  | .code _ _ _ _ => true
  | _ => false
theorem all_split {L : List Jvm.Cond} {P : Jvm.Cond → Bool} (h1 : L.all (fun c => isCode c || P c) = true) (h2 : ∀ c ∈ L.filter isCode, P c = true) : L.all P = true := by
  refine List.all_eq_true.mpr fun c hc => ?_
  have h := List.all_eq_true.mp h1 c hc
  rcases Bool.eq_false_or_eq_true (isCode c) with hi | hi
  · exact h2 c (List.mem_filter.mpr ⟨hc, hi⟩)
  · simpa [hi] using h
set_option maxRecDepth 65536 in
theorem w_c0 : (Jvm.Cond.code x code maxLocals ret).before args0 about1 = true := code_word (m := ⟨1, 1⟩) (meth := k1m1) (c := k1c1) (by decide +kernel) rfl rfl rfl (by decide +kernel)
set_option maxRecDepth 65536 in
theorem w_c1 : (Jvm.Cond.code ({ cls := "com/example/vestwright/vestwright/model/history/EventKind", name := "milestone", desc := "()Z" } : Jvm.MethodName) prog_62_method_5_code (1 : Nat) (Option.some Jvm.ClassFile.FieldType.boolean)).before args0 about1 = true := code_word (m := ⟨7, 0⟩) (meth := k7m0) (c := k7c0) (by decide +kernel) rfl rfl rfl (by decide +kernel)
def codes1 : List Jvm.Cond := [Jvm.Cond.code x code maxLocals ret, Jvm.Cond.code ({ cls := "com/example/vestwright/vestwright/model/history/EventKind", name := "milestone", desc := "()Z" } : Jvm.MethodName) prog_62_method_5_code (1 : Nat) (Option.some Jvm.ClassFile.FieldType.boolean)]
set_option maxRecDepth 65536 in
theorem codes_eq : words1.filter isCode = codes1 := rfl
theorem w_codes : ∀ c ∈ words1.filter isCode, c.before args0 about1 = true := by
  rw [codes_eq]
  intro c hc
  simp only [codes1, List.mem_cons, List.not_mem_nil, or_false] at hc
  rcases hc with rfl | rfl
  · exact w_c0
  · exact w_c1
set_option maxRecDepth 65536 in
theorem w_t1 : (words1.take 24).all (fun c => isCode c || c.before args0 about1) = true := by decide +kernel
set_option maxRecDepth 65536 in
theorem w_t2 : (words1.drop 24).all (fun c => isCode c || c.before args0 about1) = true := by decide +kernel
theorem w_tables : (allAtoms (Jvm.Cond.code x code maxLocals ret :: tables_1)).before args0 about1 = true := by
  rw [allAtoms_all]
  show words1.all (fun c => c.before args0 about1) = true
  refine all_split ?_ w_codes
  rw [← List.take_append_drop 24 words1, List.all_append, w_t1, w_t2]
  rfl
set_option maxRecDepth 65536 in
theorem w_case : (Jvm.Cond.and given_1 narrow_1).before args0 about1 = true := by decide +kernel
theorem w_applies : (headSpec (Jvm.Cond.code x code maxLocals ret :: tables_1) room_1).applies x e0.platform about1 = true :=
  (Spec.applies_iff w_frames).mpr ⟨w_running, w_runnable, w_alone, w_named, w_hears, w_ripe, w_room, w_tables⟩
theorem atStart : AtStart classFile x code maxLocals ret World_1 tables_1 room_1 Calls_1 rest_1 Pre_1 launch0 p0 e0 about1 theMethod args0 below0 :=
  ⟨lists_1, trivial, launch0.admits_env _ _ _, launch0.least_env, fairChoices_fair.cas, fairChoices_fair.clock, w_frames, w_args, w_heap, w_applies, trivial, trivial, w_case⟩
end start1
theorem witness_1 : WitnessClaimed_1 := ⟨start1.p0, start1.e0, start1.about1, start1.theMethod, start1.args0, start1.below0, start1.atStart⟩
end Jvm.Pilot.@@N@@
