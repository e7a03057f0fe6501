import JvmDerived
import JvmDerived.Pilot.@@N@@Statement
import JvmDerived.Pilot.@@N@@Code
set_option linter.unusedVariables false
set_option linter.unusedSimpArgs false
namespace Jvm.RoadKit
open Sem ClassFile Op Lib Jvm.Stand Jvm.Free Jvm.LawKit
section New
variable {p : Program} {l : Launch} {e : Env} {R : Room} {s : State} {m : MethodId} {args : Array Value} {below : List Frame} {meth : Method} {c : Code} {T : State} {locs : List Loc} {cells slots : Nat}
theorem retI (X : Stand p l e R s m args below meth c T locs cells slots) (hx : p.tables.exec = Jvm.exec) {pc : Nat} {Ls : Array Slot} {z : Int32} {rest : List Value} (hret : meth.sig.returnType = some .int) (hd : decode c.code pc = .ok (.ireturn, 1)) {fs : List Frame}
    (hl : ∀ (f : JFrame) (acts : List Action), f.method = m → f.locked = none → f.entered = [] → (doReturn e (T.setTop f) acts (some (.int z))).1 = T.setFrames fs) : Steps p.tables e below (T.setTop (mkF m pc Ls (.int z :: rest))) (T.setFrames fs) := by
  have hm' : T.vm.method? m = some meth := X.method'
  have hn : narrow .int (.int z) = .int z := rfl
  show Steps p.tables e below (T.setTop { method := m, pc := pc, locals := Ls, stack := _ :: rest, locked := none }) _
  jvm_step X.here [X.here.top, hx, hd, hm', hret, hn]
  first | (intro acts; rw [hl _ acts rfl rfl rfl]) | rw [hl _ _ rfl rfl rfl]
  exact Steps.refl _
end New
end Jvm.RoadKit
/- laws to paste: Road.backV, Road.lenW, Road.chN, Road.empW, Road.codOf (cut by pick.py; bodies as the Statement names them) -/
namespace Jvm.Pilot.@@N@@
namespace StrChars
open Jvm Sem ClassFile Op Lib Jvm.Stand Jvm.Free.XT Jvm.Free.ALB Jvm.Free.JM Jvm.Free
open Jvm.Lib.Cold (StaticIs)
/-- a char array whose places are chars -/
def Ch (a : Addr) (A : Cell) (U : State) : Prop := Arr .char a A U ∧ Typed .char A
theorem Ch.mv {a : Addr} {A : Cell} {U U' : State} (h : Ch a A U) (hal : U.vm.Alike U'.vm) (hh : U'.heap = U.heap) : Ch a A U' := ⟨h.1.mv hal hh, h.2⟩
theorem Ch.keep {a : Addr} {A : Cell} {U U' : State} (h : Ch a A U) (hal : U.vm.Alike U'.vm) (hk : U'.heap[a]? = some A) : Ch a A U' := ⟨h.1.keep hal hk, h.2⟩
/-- what place i of a char[]'s cell holds -/
def cv (A : Cell) (i : Nat) : Int32 := match A.slots[i]? with | some (.int x) => x | _ => 0
theorem Ch.get {a : Addr} {A : Cell} {U : State} (h : Ch a A U) {i : Nat} (hi : i < A.slots.size) : A.slots[i]? = some (.int (cv A i)) := by
  have e := Array.getElem?_eq_getElem hi
  have f := h.2 i _ e
  unfold cv; rw [e]
  generalize A.slots[i] = v at f
  cases v <;> simp [fits] at f ⊢
/-- the byte that i2b leaves of a char -/
def lo8 (x : Int32) : Int32 := x.toInt8.toInt32
theorem fits_lo8 (y : Int32) : fits .byte (.int (lo8 y)) = true := by
  have h1 := y.toInt8.le_toInt
  have h2 := y.toInt8.toInt_lt
  simp only [lo8, fits, Bool.and_eq_true, decide_eq_true_eq, Int32.le_iff_toInt_le, Int8.toInt_toInt32, show (-128 : Int32).toInt = -128 from by decide, show (127 : Int32).toInt = 127 from by decide]
  omega
/-- A' is A but that each place j of lo .. hi - 1 holds f j -/
def Laid (A A' : Cell) (lo hi : Nat) (f : Nat → Value) : Prop := A'.cls = A.cls ∧ A'.vm = A.vm ∧ A'.slots.size = A.slots.size ∧ ∀ i, A'.slots[i]? = if lo ≤ i ∧ i < hi then some (f i) else A.slots[i]?
theorem Laid.zero (A : Cell) (lo : Nat) (f : Nat → Value) : Laid A A lo (lo + 0) f := ⟨rfl, rfl, rfl, fun i => by rw [if_neg (by omega)]⟩
theorem Laid.step {A Ak : Cell} {lo k : Nat} {f : Nat → Value} {v : Value} (h : Laid A Ak lo k f) (hlo : lo ≤ k) (hk : k < Ak.slots.size) (hv : v = f k) : Laid A (Ak.setSlot k v) lo (k + 1) f := by
  refine ⟨h.1, h.2.1, by simpa [Cell.setSlot] using h.2.2.1, fun i => ?_⟩
  by_cases e : k = i
  · subst e; rw [Cell.slots_setSlot_self v hk, if_pos (by omega), hv]
  · rw [Cell.slots_setSlot_ne v e, h.2.2.2 i]
    by_cases q : lo ≤ i ∧ i < k
    · rw [if_pos q, if_pos (by omega)]
    · rw [if_neg q, if_neg (by omega)]
def U16 : String := "java/lang/StringUTF16"
namespace Cmp5
def yN : MethodName := ⟨"java/lang/StringUTF16", "compress", "([CI[BII)I"⟩
abbrev yB : ByteArray := jdk_52_method_21_code
theorem d0 : decode yB 0 = .ok (.iconst 0, 1) := by decide +kernel
theorem d1 : decode yB 1 = .ok (.istore 5, 2) := by decide +kernel
theorem d3 : decode yB 3 = .ok (.iload 5, 2) := by decide +kernel
theorem d5 : decode yB 5 = .ok (.iload 4, 2) := by decide +kernel
theorem d7 : decode yB 7 = .ok (.if_icmp (.ge) 37, 3) := by decide +kernel
theorem d10 : decode yB 10 = .ok (.aload_n 0, 1) := by decide +kernel
theorem d11 : decode yB 11 = .ok (.iload_n 1, 1) := by decide +kernel
theorem d12 : decode yB 12 = .ok (.caload, 1) := by decide +kernel
theorem d13 : decode yB 13 = .ok (.istore 6, 2) := by decide +kernel
theorem d15 : decode yB 15 = .ok (.iload 6, 2) := by decide +kernel
theorem d17 : decode yB 17 = .ok (.sipush 255, 3) := by decide +kernel
theorem d20 : decode yB 20 = .ok (.if_icmp (.le) 6, 3) := by decide +kernel
theorem d26 : decode yB 26 = .ok (.aload_n 2, 1) := by decide +kernel
theorem d27 : decode yB 27 = .ok (.iload_n 3, 1) := by decide +kernel
theorem d28 : decode yB 28 = .ok (.iload 6, 2) := by decide +kernel
theorem d30 : decode yB 30 = .ok (.i2b, 1) := by decide +kernel
theorem d31 : decode yB 31 = .ok (.bastore, 1) := by decide +kernel
theorem d32 : decode yB 32 = .ok (.iinc 1 1, 3) := by decide +kernel
theorem d35 : decode yB 35 = .ok (.iinc 3 1, 3) := by decide +kernel
theorem d38 : decode yB 38 = .ok (.iinc 5 1, 3) := by decide +kernel
theorem d41 : decode yB 41 = .ok (.goto (-38), 3) := by decide +kernel
theorem d44 : decode yB 44 = .ok (.iload 4, 2) := by decide +kernel
theorem d46 : decode yB 46 = .ok (.ireturn, 1) := by decide +kernel
def site : List Cond := []
def tab : Cond := tabOf yN yB 7 (some .int) site
def P (b : Addr) (A : Cell) (d : Addr) (B : Cell) (o q len : Nat) (args : Array Value) (s : State) : Prop := args = #[.ref b, .int (Int32.ofNat o), .ref d, .int (Int32.ofNat q), .int (Int32.ofNat len)] ∧ Ch b A s ∧ Arr .byte d B s ∧ b ≠ d ∧ o + len ≤ A.slots.size ∧ q + len ≤ B.slots.size ∧ ∀ i, i < len → ¬ 255 < cv A (o + i)
def E (b : Addr) (A : Cell) (d : Addr) (B : Cell) (o q len : Nat) (r : Option Value) (s u : State) : Prop := r = some (.int (Int32.ofNat len)) ∧ ∃ B', Put d B' s u ∧ Laid B B' q (q + len) (fun j => Value.int (lo8 (cv A (o + (j - q)))))
/-- no char of the range above 255: len; the places written hold each char's low byte -/
theorem law (l : Launch) (b : Addr) (A : Cell) (d : Addr) (B : Cell) (o q len : Nat) : Law l yN 5 5 0 0 yB 7 (some .int) site (P b A d B o q len) (E b A d B o q len) (copyLocs d q len) 0 0 := by
  refine Law.of_walk (plainFor_of_name (by decide +kernel)) (by decide +kernel) (by decide +kernel) (by decide) (fun _ _ h => by rw [h.1]; rfl) (fun _ U U' hal hh h => ⟨h.1, h.2.1.mv hal hh, h.2.2.1.mv hal hh, h.2.2.2⟩) (fun r U U' V V' h1 hal h2 h => ⟨h.1, h.2.elim fun B' q => ⟨B', q.1.mv h1 h2, q.2⟩⟩) ?_
  intro p e s m args below meth c s₁ X0 hexec hbytes hml hret hlk hnm hown hh0 W hP
  obtain ⟨rfl, hA, hB, hne, l1, l2, hp⟩ := hP
  have c1 : Steps p.tables e below (s₁.setTop (entryFrame m #[.ref b, .int (Int32.ofNat o), .ref d, .int (Int32.ofNat q), .int (Int32.ofNat len)] 7)) (s₁.setTop (mkF m 0 #[.val (.ref b), .val (.int (Int32.ofNat o)), .val (.ref d), .val (.int (Int32.ofNat q)), .val (.int (Int32.ofNat len)), .unset, .unset] [])) := entry rfl
  have hA0 := hA.1.mv X0.warmed.alike hh0
  have hB0 := hB.mv X0.warmed.alike hh0
  have a31 := hA.1.2.2.2
  have c2 : Steps p.tables e below (s₁.setTop (entryFrame m #[.ref b, .int (Int32.ofNat o), .ref d, .int (Int32.ofNat q), .int (Int32.ofNat len)] 7)) (s₁.setTop (mkF m 3 #[.val (.ref b), .val (.int (Int32.ofNat o)), .val (.ref d), .val (.int (Int32.ofNat q)), .val (.int (Int32.ofNat len)), .val (.int 0), .unset] [])) := c1.trans (by
    refine iconstV X0.here hexec rfl 0 (hb hbytes d0) (by decide) ?_
    refine XS.istore X0.here hexec rfl (hb hbytes d1) rfl rfl ?_
    exact Steps.refl _)
  have loop : ∀ (r i : Nat), i + r = len → ∀ (z : Slot), (z = .unset ∨ ∃ w, z = .val w ∧ w.category = 1) → ∀ (Tl : State) (Bk : Cell), Stand p l e { frames := 0, locals := 0, cells := 0, slots := 0 } s m #[.ref b, .int (Int32.ofNat o), .ref d, .int (Int32.ofNat q), .int (Int32.ofNat len)] below meth c Tl ([] ++ copyLocs d q i) 0 0 → Put d Bk s₁ Tl → Laid B Bk q (q + i) (fun j => Value.int (lo8 (cv A (o + (j - q))))) →
      Steps p.tables e below (s₁.setTop (entryFrame m #[.ref b, .int (Int32.ofNat o), .ref d, .int (Int32.ofNat q), .int (Int32.ofNat len)] 7)) (Tl.setTop (mkF m 3 #[.val (.ref b), .val (.int (Int32.ofNat (o + i))), .val (.ref d), .val (.int (Int32.ofNat (q + i))), .val (.int (Int32.ofNat len)), .val (.int (Int32.ofNat i)), z] [])) → ∃ (T' : State) (B' : Cell) (z' : Slot), Stand p l e { frames := 0, locals := 0, cells := 0, slots := 0 } s m #[.ref b, .int (Int32.ofNat o), .ref d, .int (Int32.ofNat q), .int (Int32.ofNat len)] below meth c T' ([] ++ copyLocs d q len) 0 0 ∧ Put d B' s₁ T' ∧ Laid B B' q (q + len) (fun j => Value.int (lo8 (cv A (o + (j - q))))) ∧
      Steps p.tables e below (s₁.setTop (entryFrame m #[.ref b, .int (Int32.ofNat o), .ref d, .int (Int32.ofNat q), .int (Int32.ofNat len)] 7)) (T'.setTop (mkF m 3 #[.val (.ref b), .val (.int (Int32.ofNat (o + len))), .val (.ref d), .val (.int (Int32.ofNat (q + len))), .val (.int (Int32.ofNat len)), .val (.int (Int32.ofNat len)), z'] [])) := by
    intro r
    induction r with
    | zero =>
      intro i hi z hz Tl Bk Xl pl fl cl
      have hil : i = len := by omega
      rw [hil] at Xl fl cl
      exact ⟨Tl, Bk, z, Xl, pl, fl, cl⟩
    | succ r ih =>
      intro i hi z hz Tl Bk Xl pl fl cl
      have all := X0.warmed.alike.symm.trans Xl.warmed.alike
      have hAl := hA0.keep all (pl.other hne hA0.1)
      have hBk := hB0.like all pl.1 fl.1 fl.2.1 fl.2.2.1
      have hlt : q + i < Bk.slots.size := by rw [fl.2.2.1]; omega
      have c3 : Steps p.tables e below (s₁.setTop (entryFrame m #[.ref b, .int (Int32.ofNat o), .ref d, .int (Int32.ofNat q), .int (Int32.ofNat len)] 7)) (Tl.setTop (mkF m 12 #[.val (.ref b), .val (.int (Int32.ofNat (o + i))), .val (.ref d), .val (.int (Int32.ofNat (q + i))), .val (.int (Int32.ofNat len)), .val (.int (Int32.ofNat i)), z] [.int (Int32.ofNat (o + i)), .ref b])) := cl.trans (by
        refine XS.iload Xl.here hexec rfl (hb hbytes d3) rfl ?_
        refine XS.iload Xl.here hexec rfl (hb hbytes d5) rfl ?_
        refine XS.icmpNo Xl.here hexec rfl (hb hbytes d7) rfl (ii_ge_f (lt32 (by omega) (by omega))) ?_
        refine XS.aloadN Xl.here hexec rfl (hb hbytes d10) rfl rfl ?_
        refine XS.iloadN Xl.here hexec rfl (hb hbytes d11) rfl ?_
        exact Steps.refl _)
      have c4 : Steps p.tables e below (s₁.setTop (entryFrame m #[.ref b, .int (Int32.ofNat o), .ref d, .int (Int32.ofNat q), .int (Int32.ofNat len)] 7)) (Tl.setTop (mkF m 13 #[.val (.ref b), .val (.int (Int32.ofNat (o + i))), .val (.ref d), .val (.int (Int32.ofNat (q + i))), .val (.int (Int32.ofNat len)), .val (.int (Int32.ofNat i)), z] [.int (cv A (o + i))])) := c3.trans (by
        refine Xl.aget hexec hAl rfl (hA.get (i := o + i) (by omega)) rfl rfl (hb hbytes d12) ?_
        exact Steps.refl _)
      have c5 : Steps p.tables e below (s₁.setTop (entryFrame m #[.ref b, .int (Int32.ofNat o), .ref d, .int (Int32.ofNat q), .int (Int32.ofNat len)] 7)) (Tl.setTop (mkF m 15 #[.val (.ref b), .val (.int (Int32.ofNat (o + i))), .val (.ref d), .val (.int (Int32.ofNat (q + i))), .val (.int (Int32.ofNat len)), .val (.int (Int32.ofNat i)), .val (.int (cv A (o + i)))] [])) := c4.trans (by
        refine XS.istoreS Xl.here hexec rfl (hb hbytes d13) rfl rfl hz ?_
        exact Steps.refl _)
      have c6 : Steps p.tables e below (s₁.setTop (entryFrame m #[.ref b, .int (Int32.ofNat o), .ref d, .int (Int32.ofNat q), .int (Int32.ofNat len)] 7)) (Tl.setTop (mkF m 31 #[.val (.ref b), .val (.int (Int32.ofNat (o + i))), .val (.ref d), .val (.int (Int32.ofNat (q + i))), .val (.int (Int32.ofNat len)), .val (.int (Int32.ofNat i)), .val (.int (cv A (o + i)))] [.int (lo8 (cv A (o + i))), .int (Int32.ofNat (q + i)), .ref d])) := c5.trans (by
        refine XS.iload Xl.here hexec rfl (hb hbytes d15) rfl ?_
        refine sipushV Xl.here hexec rfl 255 (hb hbytes d17) (by decide) ?_
        refine XS.icmpYes Xl.here hexec rfl (pc0 := 20) rfl (hb hbytes d20) rfl (ii_le_t (hp i (by omega))) (by decide) rfl ?_
        refine XS.aloadN Xl.here hexec rfl (hb hbytes d26) rfl rfl ?_
        refine XS.iloadN Xl.here hexec rfl (hb hbytes d27) rfl ?_
        refine XS.iload Xl.here hexec rfl (hb hbytes d28) rfl ?_
        refine i2b Xl.here hexec rfl (hb hbytes d30) rfl ?_
        exact Steps.refl _)
      obtain ⟨T7, X7, p7, st7⟩ := Xl.aput hexec hBk rfl hlt rfl (fits_lo8 (cv A (o + i))) (g := (mkF m 31 #[.val (.ref b), .val (.int (Int32.ofNat (o + i))), .val (.ref d), .val (.int (Int32.ofNat (q + i))), .val (.int (Int32.ofNat len)), .val (.int (Int32.ofNat i)), .val (.int (cv A (o + i)))] [.int (lo8 (cv A (o + i))), .int (Int32.ofNat (q + i)), .ref d])) rfl (rest := []) rfl (hb hbytes d31)
      have c8 : Steps p.tables e below (s₁.setTop (entryFrame m #[.ref b, .int (Int32.ofNat o), .ref d, .int (Int32.ofNat q), .int (Int32.ofNat len)] 7)) (T7.setTop (mkF m 32 #[.val (.ref b), .val (.int (Int32.ofNat (o + i))), .val (.ref d), .val (.int (Int32.ofNat (q + i))), .val (.int (Int32.ofNat len)), .val (.int (Int32.ofNat i)), .val (.int (cv A (o + i)))] [])) := c6.trans (st7 _ (Steps.refl _))
      have c9 : Steps p.tables e below (s₁.setTop (entryFrame m #[.ref b, .int (Int32.ofNat o), .ref d, .int (Int32.ofNat q), .int (Int32.ofNat len)] 7)) (T7.setTop (mkF m 3 #[.val (.ref b), .val (.int (Int32.ofNat (o + i) + 1)), .val (.ref d), .val (.int (Int32.ofNat (q + i) + 1)), .val (.int (Int32.ofNat len)), .val (.int (Int32.ofNat i + 1)), .val (.int (cv A (o + i)))] [])) := c8.trans (by
        refine iincV X7.here hexec rfl 1 (hb hbytes d32) (by decide) rfl rfl ?_
        refine iincV X7.here hexec rfl 1 (hb hbytes d35) (by decide) rfl rfl ?_
        refine iincV X7.here hexec rfl 1 (hb hbytes d38) (by decide) rfl rfl ?_
        refine XS.goto X7.here hexec rfl (pc0 := 41) rfl (hb hbytes d41) (by decide) rfl ?_
        exact Steps.refl _)
      have c10 : Steps p.tables e below (s₁.setTop (entryFrame m #[.ref b, .int (Int32.ofNat o), .ref d, .int (Int32.ofNat q), .int (Int32.ofNat len)] 7)) (T7.setTop (mkF m 3 #[.val (.ref b), .val (.int (Int32.ofNat (o + (i + 1)))), .val (.ref d), .val (.int (Int32.ofNat (q + (i + 1)))), .val (.int (Int32.ofNat len)), .val (.int (Int32.ofNat (i + 1))), .val (.int (cv A (o + i)))] [])) := by
        have := c9
        rw [succ32, succ32, succ32] at this
        exact this
      exact ih (i + 1) (by omega) _ (Or.inr ⟨_, rfl, rfl⟩) T7 _ (by rw [copyLocs_step, ← List.append_assoc]; exact X7) (pl.trans p7) (fl.step (by omega) hlt (by simp)) c10
  obtain ⟨T9, B9, z9, X9, p9, f9, g9⟩ := loop len 0 (by omega) .unset (Or.inl rfl) s₁ B (by simpa [copyLocs] using X0) ⟨hB0.1, fun _ _ => rfl, rfl⟩ (Laid.zero _ _ _) c2
  have c11 : Steps p.tables e below (s₁.setTop (entryFrame m #[.ref b, .int (Int32.ofNat o), .ref d, .int (Int32.ofNat q), .int (Int32.ofNat len)] 7)) (T9.setTop (mkF m 46 #[.val (.ref b), .val (.int (Int32.ofNat (o + len))), .val (.ref d), .val (.int (Int32.ofNat (q + len))), .val (.int (Int32.ofNat len)), .val (.int (Int32.ofNat len)), z9] [.int (Int32.ofNat len)])) := g9.trans (by
    refine XS.iload X9.here hexec rfl (hb hbytes d3) rfl ?_
    refine XS.iload X9.here hexec rfl (hb hbytes d5) rfl ?_
    refine XS.icmpYes X9.here hexec rfl (pc0 := 7) rfl (hb hbytes d7) rfl (ii_ge_t (nlt32 (by omega) (Nat.le_refl _))) (by decide) rfl ?_
    refine XS.iload X9.here hexec rfl (hb hbytes d44) rfl ?_
    exact Steps.refl _)
  exact ⟨T9, some (.int (Int32.ofNat len)), _, _, _, X9, by simp, rfl, rfl, (fun h => by cases h), ⟨rfl, B9, p9.from hh0, f9⟩, fun fs hl => c11.trans (X9.ireturnOut hexec hret rfl (Or.inl rfl) (hb hbytes d46) hl)⟩
end Cmp5
namespace Cmp3
def yN : MethodName := ⟨"java/lang/StringUTF16", "compress", "([CII)[B"⟩
abbrev yB : ByteArray := jdk_52_method_16_code
theorem d0 : decode yB 0 = .ok (.iload_n 2, 1) := by decide +kernel
theorem d1 : decode yB 1 = .ok (.newarray .byte, 2) := by decide +kernel
theorem d3 : decode yB 3 = .ok (.astore_n 3, 1) := by decide +kernel
theorem d4 : decode yB 4 = .ok (.aload_n 0, 1) := by decide +kernel
theorem d5 : decode yB 5 = .ok (.iload_n 1, 1) := by decide +kernel
theorem d6 : decode yB 6 = .ok (.aload_n 3, 1) := by decide +kernel
theorem d7 : decode yB 7 = .ok (.iconst 0, 1) := by decide +kernel
theorem d8 : decode yB 8 = .ok (.iload_n 2, 1) := by decide +kernel
theorem d9 : decode yB 9 = .ok (.invokestatic 115, 3) := by decide +kernel
theorem d12 : decode yB 12 = .ok (.istore 4, 2) := by decide +kernel
theorem d14 : decode yB 14 = .ok (.iload 4, 2) := by decide +kernel
theorem d16 : decode yB 16 = .ok (.iload_n 2, 1) := by decide +kernel
theorem d17 : decode yB 17 = .ok (.if_icmp (.eq) 40, 3) := by decide +kernel
theorem d57 : decode yB 57 = .ok (.aload_n 3, 1) := by decide +kernel
theorem d58 : decode yB 58 = .ok (.areturn, 1) := by decide +kernel
def site : List Cond := [.arrayClass .byte, Cmp5.tab] ++ staticW U16 115 Cmp5.yN
def tab : Cond := tabOf yN yB 6 (some (.array .byte)) site
def P (b : Addr) (A : Cell) (o len : Nat) (args : Array Value) (s : State) : Prop := args = #[.ref b, .int (Int32.ofNat o), .int (Int32.ofNat len)] ∧ Ch b A s ∧ o + len ≤ A.slots.size ∧ len ≤ 536870912 ∧ ∀ i, i < len → ¬ 255 < cv A (o + i)
def E (b : Addr) (A : Cell) (o len : Nat) (r : Option Value) (s u : State) : Prop := NewArr .byte "[B" len (fun j => .int (lo8 (cv A (o + j)))) r s u ∧ u.heap.size = s.heap.size + 1
/-- no char of the range above 255: a new byte[] of their low bytes -/
theorem law (l : Launch) (b : Addr) (A : Cell) (o len : Nat) : Law l yN 3 3 1 18 yB 6 (some (.array .byte)) site (P b A o len) (E b A o len) [] 1 len := by
  refine Law.of_walk (plainFor_of_name (by decide +kernel)) (by decide +kernel) (by decide +kernel) (by decide) (fun _ _ h => by rw [h.1]; rfl) (fun _ U U' hal hh h => ⟨h.1, h.2.1.mv hal hh, h.2.2⟩) (fun r U U' V V' h1 hal h2 h => ⟨NewArr.mv r U U' V V' h1 hal h2 h.1, by rw [h1, h2]; exact h.2⟩) ?_
  intro p e s m args below meth c s₁ X0 hexec hbytes hml hret hlk hnm hown hh0 W hP
  obtain ⟨rfl, hA, l1, l2, hp⟩ := hP
  have a31 := hA.1.2.2.2
  have c1 : Steps p.tables e below (s₁.setTop (entryFrame m #[.ref b, .int (Int32.ofNat o), .int (Int32.ofNat len)] 6)) (s₁.setTop (mkF m 0 #[.val (.ref b), .val (.int (Int32.ofNat o)), .val (.int (Int32.ofNat len)), .unset, .unset, .unset] [])) := entry rfl
  have c2 : Steps p.tables e below (s₁.setTop (entryFrame m #[.ref b, .int (Int32.ofNat o), .int (Int32.ofNat len)] 6)) (s₁.setTop (mkF m 1 #[.val (.ref b), .val (.int (Int32.ofNat o)), .val (.int (Int32.ofNat len)), .unset, .unset, .unset] [.int (Int32.ofNat len)])) := c1.trans (by
    refine XS.iloadN X0.here hexec rfl (hb hbytes d0) rfl ?_
    exact Steps.refl _)
  obtain ⟨T3, B3, X3, ba3, bs3, bv3, bh3, bf3, st3⟩ := X0.anew hexec (atype := .byte) (wk W (.arrayClass .byte)) rfl (by show len * 1 ≤ _; omega) (by omega) (g := (mkF m 1 #[.val (.ref b), .val (.int (Int32.ofNat o)), .val (.int (Int32.ofNat len)), .unset, .unset, .unset] [.int (Int32.ofNat len)])) rfl (hb hbytes d1) (rest := []) rfl (Nat.le_refl _) (by show 0 + len ≤ len; omega)
  rw [hh0] at ba3 st3
  have kp3 : XT.Kept s T3 := (XT.Kept.of_eq hh0).push bh3
  have hA3 := hA.keep X3.warmed.alike (kp3 _ _ hA.1.1)
  have hne : b ≠ s.heap.size := hA.1.ne
  have c4 : Steps p.tables e below (s₁.setTop (entryFrame m #[.ref b, .int (Int32.ofNat o), .int (Int32.ofNat len)] 6)) (T3.setTop (mkF m 3 #[.val (.ref b), .val (.int (Int32.ofNat o)), .val (.int (Int32.ofNat len)), .unset, .unset, .unset] [.ref s.heap.size])) := c2.trans (st3 _ (Steps.refl _))
  have c5 : Steps p.tables e below (s₁.setTop (entryFrame m #[.ref b, .int (Int32.ofNat o), .int (Int32.ofNat len)] 6)) (T3.setTop (mkF m 9 #[.val (.ref b), .val (.int (Int32.ofNat o)), .val (.int (Int32.ofNat len)), .val (.ref s.heap.size), .unset, .unset] [.int (Int32.ofNat len), .int 0, .ref s.heap.size, .int (Int32.ofNat o), .ref b])) := c4.trans (by
    refine XS.astoreN X3.here hexec rfl (hb hbytes d3) rfl rfl rfl ?_
    refine XS.aloadN X3.here hexec rfl (hb hbytes d4) rfl rfl ?_
    refine XS.iloadN X3.here hexec rfl (hb hbytes d5) rfl ?_
    refine XS.aloadN X3.here hexec rfl (hb hbytes d6) rfl rfl ?_
    refine iconstV X3.here hexec rfl 0 (hb hbytes d7) (by decide) ?_
    refine XS.iloadN X3.here hexec rfl (hb hbytes d8) rfl ?_
    exact Steps.refl _)
  obtain ⟨v6, T6, X6, E6, g6⟩ := X3.callS hexec (Cmp5.law l b A s.heap.size B3 o 0 len) hown (wks W (staticW U16 115 Cmp5.yN)) (wk W Cmp5.tab) (W := 0) (Nat.le_of_ble_eq_true rfl) (Nat.le_of_ble_eq_true rfl) (Nat.le_refl _) (by show 0 + len + 0 ≤ len; omega) (g := (mkF m 9 #[.val (.ref b), .val (.int (Int32.ofNat o)), .val (.int (Int32.ofNat len)), .val (.ref s.heap.size), .unset, .unset] [.int (Int32.ofNat len), .int (Int32.ofNat 0), .ref s.heap.size, .int (Int32.ofNat o), .ref b])) rfl (by rw [hml]; rfl) c5 (argsL := [.ref b, .int (Int32.ofNat o), .ref s.heap.size, .int (Int32.ofNat 0), .int (Int32.ofNat len)]) (rest := []) rfl rfl (by show 2 * 0 + 0 ≤ _; decide) (hb hbytes d9) (⟨rfl, hA3, ba3, hne, l1, by rw [bs3]; simp, hp⟩)
  obtain ⟨rfl, B6, p6, f6⟩ := E6
  have c7 : Steps p.tables e below (s₁.setTop (entryFrame m #[.ref b, .int (Int32.ofNat o), .int (Int32.ofNat len)] 6)) (T6.setTop (mkF m 12 #[.val (.ref b), .val (.int (Int32.ofNat o)), .val (.int (Int32.ofNat len)), .val (.ref s.heap.size), .unset, .unset] [.int (Int32.ofNat len)])) := g6
  have c8 : Steps p.tables e below (s₁.setTop (entryFrame m #[.ref b, .int (Int32.ofNat o), .int (Int32.ofNat len)] 6)) (T6.setTop (mkF m 58 #[.val (.ref b), .val (.int (Int32.ofNat o)), .val (.int (Int32.ofNat len)), .val (.ref s.heap.size), .val (.int (Int32.ofNat len)), .unset] [.ref s.heap.size])) := c7.trans (by
    refine XS.istore X6.here hexec rfl (hb hbytes d12) rfl rfl ?_
    refine XS.iload X6.here hexec rfl (hb hbytes d14) rfl ?_
    refine XS.iloadN X6.here hexec rfl (hb hbytes d16) rfl ?_
    refine XS.icmpYes X6.here hexec rfl (pc0 := 17) rfl (hb hbytes d17) rfl (ii_eq_t rfl) (by decide) rfl ?_
    refine XS.aloadN X6.here hexec rfl (hb hbytes d57) rfl rfl ?_
    exact Steps.refl _)
  have X8 := X6.wide (L' := []) (cells' := 1) (slots' := len) (fun x hx hlt => by
    simp only [List.nil_append, copyLocs, List.mem_map, List.mem_range] at hx
    obtain ⟨i, -, rfl⟩ := hx
    exact absurd hlt (Nat.lt_irrefl _)) (Nat.le_refl _) (by omega)
  exact ⟨T6, some (.ref s.heap.size), _, _, _, X8, rfl, rfl, rfl, (fun h => by cases h), ⟨⟨rfl, B6, ba3.like (X3.warmed.alike.symm.trans X6.warmed.alike) p6.1 f6.1 f6.2.1 f6.2.2.1, f6.2.1.trans bv3, by rw [X6.warmed.alike.findClass, f6.1]; exact bf3, by rw [f6.2.2.1, bs3]; simp, fun j hj => by rw [f6.2.2.2 j, if_pos (by omega)]; rfl, kp3.put p6 (Nat.le_refl _)⟩, by rw [p6.2.2, bh3, hh0]; simp⟩, fun fs hl => c8.trans (X8.areturnOut hexec rfl hret rfl (hb hbytes d58) hl)⟩
end Cmp3
namespace CodL
def yN : MethodName := ⟨"java/lang/StringUTF16", "coderFromArrayLen", "([BI)B"⟩
abbrev yB : ByteArray := jdk_52_method_15_code
theorem d0 : decode yB 0 = .ok (.iload_n 1, 1) := by decide +kernel
theorem d1 : decode yB 1 = .ok (.aload_n 0, 1) := by decide +kernel
theorem d2 : decode yB 2 = .ok (.arraylength, 1) := by decide +kernel
theorem d3 : decode yB 3 = .ok (.isub, 1) := by decide +kernel
theorem d4 : decode yB 4 = .ok (.bipush 31, 2) := by decide +kernel
theorem d6 : decode yB 6 = .ok (.iushr, 1) := by decide +kernel
theorem d7 : decode yB 7 = .ok (.i2b, 1) := by decide +kernel
theorem d8 : decode yB 8 = .ok (.ireturn, 1) := by decide +kernel
def site : List Cond := []
def tab : Cond := tabOf yN yB 2 (some .byte) site
def P (d : Addr) (B : Cell) (args : Array Value) (s : State) : Prop := args = #[.ref d, .int (Int32.ofNat B.slots.size)] ∧ Arr .byte d B s
def E (r : Option Value) (s u : State) : Prop := XT.PureE (some (.int 0)) r s u
/-- an array as long as the number of chars: LATIN1 -/
theorem law (l : Launch) (d : Addr) (B : Cell) : Law l yN 2 2 0 0 yB 2 (some .byte) site (P d B) E [] 0 0 := by
  refine Law.of_walk (plainFor_of_name (by decide +kernel)) (by decide +kernel) (by decide +kernel) (by decide) (fun _ _ h => by rw [h.1]; rfl) (fun _ U U' hal hh h => ⟨h.1, h.2.mv hal hh⟩) (fun r U U' V V' h1 hal h2 h => XT.PureE.mv r U U' V V' h1 hal h2 h) ?_
  intro p e s m args below meth c s₁ X0 hexec hbytes hml hret hlk hnm hown hh0 W hP
  obtain ⟨rfl, hB⟩ := hP
  have hB0 := hB.mv X0.warmed.alike hh0
  have c1 : Steps p.tables e below (s₁.setTop (entryFrame m #[.ref d, .int (Int32.ofNat B.slots.size)] 2)) (s₁.setTop (mkF m 0 #[.val (.ref d), .val (.int (Int32.ofNat B.slots.size))] [])) := entry rfl
  have c2 : Steps p.tables e below (s₁.setTop (entryFrame m #[.ref d, .int (Int32.ofNat B.slots.size)] 2)) (s₁.setTop (mkF m 2 #[.val (.ref d), .val (.int (Int32.ofNat B.slots.size))] [.ref d, .int (Int32.ofNat B.slots.size)])) := c1.trans (by
    refine XS.iloadN X0.here hexec rfl (hb hbytes d0) rfl ?_
    refine XS.aloadN X0.here hexec rfl (hb hbytes d1) rfl rfl ?_
    exact Steps.refl _)
  have c3 : Steps p.tables e below (s₁.setTop (entryFrame m #[.ref d, .int (Int32.ofNat B.slots.size)] 2)) (s₁.setTop (mkF m 8 #[.val (.ref d), .val (.int (Int32.ofNat B.slots.size))] [.int (lo8 (ushr (Int32.ofNat B.slots.size - Int32.ofNat B.slots.size) 31))])) := c2.trans (by
    refine X0.alen hexec hB0 rfl rfl (hb hbytes d2) ?_
    refine XS.isub X0.here hexec rfl (hb hbytes d3) rfl ?_
    refine bipushV X0.here hexec rfl 31 (hb hbytes d4) (by decide) ?_
    refine iushr X0.here hexec rfl (hb hbytes d6) rfl ?_
    refine i2b X0.here hexec rfl (hb hbytes d7) rfl ?_
    exact Steps.refl _)
  have e0 : lo8 (ushr (Int32.ofNat B.slots.size - Int32.ofNat B.slots.size) 31) = 0 := by rw [Int32.sub_self]; decide
  rw [e0] at c3
  exact ⟨s₁, some (.int 0), _, _, _, X0, rfl, rfl, rfl, (fun h => by cases h), ⟨rfl, hh0⟩, fun fs hl => c3.trans (X0.ireturnOut hexec hret rfl (Or.inr (Or.inr (Or.inl rfl))) (hb hbytes d8) hl)⟩
end CodL
/-- the String at a is Latin-1 over a new byte[] (the heap's one new cell): the low bytes of the len chars of A from o on; every cell but a is kept -/
def Got (a : Addr) (D : Cell) (fV fC : Field) (A : Cell) (o len : Nat) (r : Option Value) (s u : State) : Prop := r = none ∧ ∃ D' V : Cell, Blank "java/lang/String" a D' u ∧ Same D D' [fV.slot, fC.slot] ∧ D'.slots[fV.slot]? = some (.ref s.heap.size) ∧ D'.slots[fC.slot]? = some (.int 0) ∧ Arr .byte s.heap.size V u ∧ V.vm = .none ∧ u.vm.findClass "[B" = some V.cls ∧ V.slots.size = len ∧ (∀ j, j < len → V.slots[j]? = some (.int (lo8 (cv A (o + j))))) ∧ (∀ (y : Addr) (c : Cell), y ≠ a → s.heap[y]? = some c → u.heap[y]? = some c) ∧ u.heap.size = s.heap.size + 1
theorem Got.mv {a : Addr} {D A : Cell} {fV fC : Field} {o len : Nat} : ∀ r (U U' V V' : State), U'.heap = U.heap → V.vm.Alike V'.vm → V'.heap = V.heap → Got a D fV fC A o len r U V → Got a D fV fC A o len r U' V' :=
  fun r U U' V V' h1 hal h2 ⟨e0, D', X, a1, a2, a3, a4, a5, a6, a7, a8, a9, a10, a11⟩ => ⟨e0, D', X, a1.mv hal h2, a2, by rw [h1]; exact a3, a4, by rw [h1]; exact a5.mv hal h2, a6, by rw [hal.findClass]; exact a7, a8, a9, by rw [h1, h2]; exact a10, by rw [h1, h2]; exact a11⟩
namespace New4
def yN : MethodName := ⟨"java/lang/String", "<init>", "([CIILjava/lang/Void;)V"⟩
abbrev yB : ByteArray := jdk_42_method_149_code
theorem d0 : decode yB 0 = .ok (.aload_n 0, 1) := by decide +kernel
theorem d1 : decode yB 1 = .ok (.invokespecial 1, 3) := by decide +kernel
theorem d4 : decode yB 4 = .ok (.iload_n 3, 1) := by decide +kernel
theorem d5 : decode yB 5 = .ok (.ifCond (.ne) 22, 3) := by decide +kernel
theorem d27 : decode yB 27 = .ok (.getstatic 38, 3) := by decide +kernel
theorem d30 : decode yB 30 = .ok (.ifCond (.eq) 28, 3) := by decide +kernel
theorem d33 : decode yB 33 = .ok (.aload_n 1, 1) := by decide +kernel
theorem d34 : decode yB 34 = .ok (.iload_n 2, 1) := by decide +kernel
theorem d35 : decode yB 35 = .ok (.iload_n 3, 1) := by decide +kernel
theorem d36 : decode yB 36 = .ok (.invokestatic 177, 3) := by decide +kernel
theorem d39 : decode yB 39 = .ok (.astore 5, 2) := by decide +kernel
theorem d41 : decode yB 41 = .ok (.aload_n 0, 1) := by decide +kernel
theorem d42 : decode yB 42 = .ok (.aload 5, 2) := by decide +kernel
theorem d44 : decode yB 44 = .ok (.iload_n 3, 1) := by decide +kernel
theorem d45 : decode yB 45 = .ok (.invokestatic 47, 3) := by decide +kernel
theorem d48 : decode yB 48 = .ok (.putfield 15, 3) := by decide +kernel
theorem d51 : decode yB 51 = .ok (.aload_n 0, 1) := by decide +kernel
theorem d52 : decode yB 52 = .ok (.aload 5, 2) := by decide +kernel
theorem d54 : decode yB 54 = .ok (.putfield 9, 3) := by decide +kernel
theorem d57 : decode yB 57 = .ok (.return_, 1) := by decide +kernel
def site : List Cond := [.fieldLink "java/lang/String" 38 "java/lang/String" "COMPACT_STRINGS" "Z", Cmp3.tab, CodL.tab, .laysFinal "java/lang/String" "java/lang/String" "value" "[B", .fieldLink "java/lang/String" 9 "java/lang/String" "value" "[B", .laysFinal "java/lang/String" "java/lang/String" "coder" "B", .fieldLink "java/lang/String" 15 "java/lang/String" "coder" "B"] ++ objW "java/lang/String" 1 ++ staticW "java/lang/String" 177 Cmp3.yN ++ staticW "java/lang/String" 47 CodL.yN
def tab : Cond := tabOf yN yB 6 none site
def P (a : Addr) (D : Cell) (fV fC : Field) (b : Addr) (A : Cell) (z : Int32) (o len : Nat) (args : Array Value) (s : State) : Prop := args = #[.ref a, .ref b, .int (Int32.ofNat o), .int (Int32.ofNat len), .null] ∧ Blank "java/lang/String" a D s ∧ Found "java/lang/String" "value" "[B" fV s ∧ Found "java/lang/String" "coder" "B" fC s ∧ Ch b A s ∧ StaticIs s "java/lang/String" "COMPACT_STRINGS" "Z" (.int z) ∧ ¬ z = 0 ∧ 0 < len ∧ o + len ≤ A.slots.size ∧ len ≤ 536870912 ∧ ∀ i, i < len → ¬ 255 < cv A (o + i)
def E (a : Addr) (D : Cell) (fV fC : Field) (A : Cell) (o len : Nat) (r : Option Value) (s u : State) : Prop := Got a D fV fC A o len r s u
/-- len > 0, no char of the range above 255: a Latin-1 String of their low bytes -/
theorem law (l : Launch) (a : Addr) (D : Cell) (fV fC : Field) (b : Addr) (A : Cell) (z : Int32) (o len : Nat) : Law l yN 5 4 2 35 yB 6 none site (P a D fV fC b A z o len) (E a D fV fC A o len) [⟨a, fC.slot⟩, ⟨a, fV.slot⟩] 1 len := by
  refine Law.of_walk (plainFor_of_name (by decide +kernel)) (by decide +kernel) (by decide +kernel) (by decide) (fun _ _ h => by rw [h.1]; rfl) (fun _ U U' hal hh h => ⟨h.1, h.2.1.mv hal hh, h.2.2.1.al hal, h.2.2.2.1.al hal, h.2.2.2.2.1.mv hal hh, h.2.2.2.2.2.1.there hal hh, h.2.2.2.2.2.2⟩) (fun r U U' V V' h1 hal h2 h => Got.mv r U U' V V' h1 hal h2 h) ?_
  intro p e s m args below meth c s₁ X0 hexec hbytes hml hret hlk hnm hown hh0 W hP
  obtain ⟨rfl, hB, f1, f2, hA, s1, hz, l0, l1, l2, hp⟩ := hP
  have a31 := hA.1.2.2.2
  have c1 : Steps p.tables e below (s₁.setTop (entryFrame m #[.ref a, .ref b, .int (Int32.ofNat o), .int (Int32.ofNat len), .null] 6)) (s₁.setTop (mkF m 0 #[.val (.ref a), .val (.ref b), .val (.int (Int32.ofNat o)), .val (.int (Int32.ofNat len)), .val .null, .unset] [])) := entry rfl
  have c2 : Steps p.tables e below (s₁.setTop (entryFrame m #[.ref a, .ref b, .int (Int32.ofNat o), .int (Int32.ofNat len), .null] 6)) (s₁.setTop (mkF m 1 #[.val (.ref a), .val (.ref b), .val (.int (Int32.ofNat o)), .val (.int (Int32.ofNat len)), .val .null, .unset] [.ref a])) := c1.trans (by
    refine XS.aloadN X0.here hexec rfl (hb hbytes d0) rfl rfl ?_
    exact Steps.refl _)
  obtain ⟨T3, X3, q3, st3⟩ := X0.oinit hexec hown (wks W (objW "java/lang/String" 1)) (g := (mkF m 1 #[.val (.ref a), .val (.ref b), .val (.int (Int32.ofNat o)), .val (.int (Int32.ofNat len)), .val .null, .unset] [.ref a])) rfl (by rw [hml]; rfl) (rest := []) rfl (hb hbytes d1) (W := 0) (by show 2 * 0 + 0 ≤ _; decide) (Nat.le_of_ble_eq_true rfl) (Nat.le_of_ble_eq_true rfl)
  have hh3 := q3.trans hh0
  have c4 : Steps p.tables e below (s₁.setTop (entryFrame m #[.ref a, .ref b, .int (Int32.ofNat o), .int (Int32.ofNat len), .null] 6)) (T3.setTop (mkF m 27 #[.val (.ref a), .val (.ref b), .val (.int (Int32.ofNat o)), .val (.int (Int32.ofNat len)), .val .null, .unset] [])) := (c2.trans (st3 _ (Steps.refl _))).trans (by
    refine XS.iloadN X3.here hexec rfl (hb hbytes d4) rfl ?_
    refine XS.ifYes X3.here hexec rfl (pc0 := 5) rfl (hb hbytes d5) rfl (i0_ne_t (nz32 (by omega) l0)) (by decide) rfl ?_
    exact Steps.refl _)
  obtain ⟨T5, X5, q5, st5⟩ := X3.sget hexec hown (wk W (.fieldLink "java/lang/String" 38 "java/lang/String" "COMPACT_STRINGS" "Z")) s1 (fun _ _ h => by rw [hh3]; exact h) (g := (mkF m 27 #[.val (.ref a), .val (.ref b), .val (.int (Int32.ofNat o)), .val (.int (Int32.ofNat len)), .val .null, .unset] [])) rfl (hb hbytes d27)
  have hh5 := q5.trans hh3
  have c6 : Steps p.tables e below (s₁.setTop (entryFrame m #[.ref a, .ref b, .int (Int32.ofNat o), .int (Int32.ofNat len), .null] 6)) (T5.setTop (mkF m 30 #[.val (.ref a), .val (.ref b), .val (.int (Int32.ofNat o)), .val (.int (Int32.ofNat len)), .val .null, .unset] [.int z])) := c4.trans (st5 _ (Steps.refl _))
  have c7 : Steps p.tables e below (s₁.setTop (entryFrame m #[.ref a, .ref b, .int (Int32.ofNat o), .int (Int32.ofNat len), .null] 6)) (T5.setTop (mkF m 36 #[.val (.ref a), .val (.ref b), .val (.int (Int32.ofNat o)), .val (.int (Int32.ofNat len)), .val .null, .unset] [.int (Int32.ofNat len), .int (Int32.ofNat o), .ref b])) := c6.trans (by
    refine XS.ifNo X5.here hexec rfl (hb hbytes d30) rfl (i0_eq_f hz) ?_
    refine XS.aloadN X5.here hexec rfl (hb hbytes d33) rfl rfl ?_
    refine XS.iloadN X5.here hexec rfl (hb hbytes d34) rfl ?_
    refine XS.iloadN X5.here hexec rfl (hb hbytes d35) rfl ?_
    exact Steps.refl _)
  obtain ⟨v8, T8, X8, E8, g8⟩ := X5.callS hexec (Cmp3.law l b A o len) hown (wks W (staticW "java/lang/String" 177 Cmp3.yN)) (wk W Cmp3.tab) (W := 0) (Nat.le_of_ble_eq_true rfl) (Nat.le_of_ble_eq_true rfl) (Nat.le_refl _) (by show 0 + len ≤ len; omega) (g := (mkF m 36 #[.val (.ref a), .val (.ref b), .val (.int (Int32.ofNat o)), .val (.int (Int32.ofNat len)), .val .null, .unset] [.int (Int32.ofNat len), .int (Int32.ofNat o), .ref b])) rfl (by rw [hml]; rfl) c7 (argsL := [.ref b, .int (Int32.ofNat o), .int (Int32.ofNat len)]) (rest := []) rfl rfl (by show 2 * 0 + 0 ≤ _; decide) (hb hbytes d36) (⟨rfl, hA.mv X5.warmed.alike hh5, l1, l2, hp⟩)
  obtain ⟨e8, z8⟩ := E8
  obtain ⟨rfl, N, n1, n2, n3, n4, n5, n6⟩ := NewArr.mv _ T5 s _ _ hh5.symm (Vm.Alike.refl _) rfl e8
  rw [hh5] at z8
  have hB1 := hB.keep X8.warmed.alike (n6 _ _ hB.1)
  have hne : s.heap.size ≠ a := (Nat.ne_of_lt (Array.getElem?_eq_some_iff.mp hB.1).1).symm
  have c9 : Steps p.tables e below (s₁.setTop (entryFrame m #[.ref a, .ref b, .int (Int32.ofNat o), .int (Int32.ofNat len), .null] 6)) (T8.setTop (mkF m 39 #[.val (.ref a), .val (.ref b), .val (.int (Int32.ofNat o)), .val (.int (Int32.ofNat len)), .val .null, .unset] [.ref s.heap.size])) := g8
  have c10 : Steps p.tables e below (s₁.setTop (entryFrame m #[.ref a, .ref b, .int (Int32.ofNat o), .int (Int32.ofNat len), .null] 6)) (T8.setTop (mkF m 45 #[.val (.ref a), .val (.ref b), .val (.int (Int32.ofNat o)), .val (.int (Int32.ofNat len)), .val .null, .val (.ref s.heap.size)] [.int (Int32.ofNat N.slots.size), .ref s.heap.size, .ref a])) := by
    have hc : Steps p.tables e below (s₁.setTop (entryFrame m #[.ref a, .ref b, .int (Int32.ofNat o), .int (Int32.ofNat len), .null] 6)) (T8.setTop (mkF m 45 #[.val (.ref a), .val (.ref b), .val (.int (Int32.ofNat o)), .val (.int (Int32.ofNat len)), .val .null, .val (.ref s.heap.size)] [.int (Int32.ofNat len), .ref s.heap.size, .ref a])) := c9.trans (by
      refine XS.astore X8.here hexec rfl (hb hbytes d39) rfl rfl rfl ?_
      refine XS.aloadN X8.here hexec rfl (hb hbytes d41) rfl rfl ?_
      refine XS.aload X8.here hexec rfl (hb hbytes d42) rfl rfl ?_
      refine XS.iloadN X8.here hexec rfl (hb hbytes d44) rfl ?_
      exact Steps.refl _)
    rw [n4]; exact hc
  obtain ⟨v11, T11, X11, E11, g11⟩ := X8.callS hexec (CodL.law l s.heap.size N) hown (wks W (staticW "java/lang/String" 47 CodL.yN)) (wk W CodL.tab) (W := 1) (Nat.le_of_ble_eq_true rfl) (Nat.le_of_ble_eq_true rfl) (Nat.le_refl _) (by show 0 + len + 0 ≤ len; omega) (g := (mkF m 45 #[.val (.ref a), .val (.ref b), .val (.int (Int32.ofNat o)), .val (.int (Int32.ofNat len)), .val .null, .val (.ref s.heap.size)] [.int (Int32.ofNat N.slots.size), .ref s.heap.size, .ref a])) rfl (by rw [hml]; rfl) c10 (argsL := [.ref s.heap.size, .int (Int32.ofNat N.slots.size)]) (rest := [.ref a]) rfl rfl (by show 2 * 0 + (1 + 0) ≤ _; decide) (hb hbytes d45) (⟨rfl, n1⟩)
  obtain ⟨rfl, q11⟩ := E11
  have hB11 := hB1.mv (X8.warmed.alike.symm.trans X11.warmed.alike) q11
  have c12 : Steps p.tables e below (s₁.setTop (entryFrame m #[.ref a, .ref b, .int (Int32.ofNat o), .int (Int32.ofNat len), .null] 6)) (T11.setTop (mkF m 48 #[.val (.ref a), .val (.ref b), .val (.int (Int32.ofNat o)), .val (.int (Int32.ofNat len)), .val .null, .val (.ref s.heap.size)] [.int 0, .ref a])) := g11
  obtain ⟨T13, X13, p13, bl13, sl13, st13⟩ := X11.finit hexec hown (wk W (.fieldLink "java/lang/String" 15 "java/lang/String" "coder" "B")) (Or.inr ⟨_, (wk W (.laysFinal "java/lang/String" "java/lang/String" "coder" "B"))⟩) (Or.inl ⟨rfl, hnm⟩) f2 (Or.inl rfl) hB11 (t := .byte) (by decide +kernel) rfl (g := (mkF m 48 #[.val (.ref a), .val (.ref b), .val (.int (Int32.ofNat o)), .val (.int (Int32.ofNat len)), .val .null, .val (.ref s.heap.size)] [.int 0, .ref a])) rfl (rest := []) rfl (hb hbytes d48)
  have c14 : Steps p.tables e below (s₁.setTop (entryFrame m #[.ref a, .ref b, .int (Int32.ofNat o), .int (Int32.ofNat len), .null] 6)) (T13.setTop (mkF m 54 #[.val (.ref a), .val (.ref b), .val (.int (Int32.ofNat o)), .val (.int (Int32.ofNat len)), .val .null, .val (.ref s.heap.size)] [.ref s.heap.size, .ref a])) := (c12.trans (st13 _ (Steps.refl _))).trans (by
    refine XS.aloadN X13.here hexec rfl (hb hbytes d51) rfl rfl ?_
    refine XS.aload X13.here hexec rfl (hb hbytes d52) rfl rfl ?_
    exact Steps.refl _)
  obtain ⟨T15, X15, p15, bl15, sl15, st15⟩ := X13.finit hexec hown (wk W (.fieldLink "java/lang/String" 9 "java/lang/String" "value" "[B")) (Or.inr ⟨_, (wk W (.laysFinal "java/lang/String" "java/lang/String" "value" "[B"))⟩) (Or.inl ⟨rfl, hnm⟩) f1 (Or.inl rfl) bl13 (t := (.array .byte)) (by decide +kernel) rfl (g := (mkF m 54 #[.val (.ref a), .val (.ref b), .val (.int (Int32.ofNat o)), .val (.int (Int32.ofNat len)), .val .null, .val (.ref s.heap.size)] [.ref s.heap.size, .ref a])) rfl (rest := []) rfl (hb hbytes d54)
  have c16 : Steps p.tables e below (s₁.setTop (entryFrame m #[.ref a, .ref b, .int (Int32.ofNat o), .int (Int32.ofNat len), .null] 6)) (T15.setTop (mkF m 57 #[.val (.ref a), .val (.ref b), .val (.int (Int32.ofNat o)), .val (.int (Int32.ofNat len)), .val .null, .val (.ref s.heap.size)] [])) := c14.trans (st15 _ (Steps.refl _))
  have ap := apart (Or.inr ⟨_, (wk W (.laysFinal "java/lang/String" "java/lang/String" "value" "[B"))⟩) (Or.inr ⟨_, (wk W (.laysFinal "java/lang/String" "java/lang/String" "coder" "B"))⟩) f1 f2 (t₁ := .array .byte) (t₂ := .byte) (by decide +kernel) (by decide +kernel) (by decide)
  have al := X8.warmed.alike.symm.trans X15.warmed.alike
  have n7 : T11.heap[s.heap.size]? = some N := by rw [q11]; exact n1.1
  exact ⟨T15, none, _, _, _, X15, by simp, rfl, by omega, (fun _ => rfl), ⟨rfl, _, N, bl15, ((Same.refl D _).set _ (by simp)).set _ (by simp), sl15, (Cell.slots_setSlot_ne _ ap).trans sl13, n1.keep al (p15.other hne (p13.other hne n7)), n2, by rw [al.findClass]; exact n3, n4, n5, fun y c h1 h2 => p15.other h1 (p13.other h1 (by rw [q11]; exact n6 y c h2)), by rw [p15.2.2, p13.2.2, q11]; exact z8⟩, fun fs hl => c16.trans (X15.returnOut hexec hret (hb hbytes d57) hl)⟩
end New4
namespace New1
def yN : MethodName := ⟨"java/lang/String", "<init>", "([C)V"⟩
abbrev yB : ByteArray := jdk_42_method_3_code
theorem d0 : decode yB 0 = .ok (.aload_n 0, 1) := by decide +kernel
theorem d1 : decode yB 1 = .ok (.aload_n 1, 1) := by decide +kernel
theorem d2 : decode yB 2 = .ok (.iconst 0, 1) := by decide +kernel
theorem d3 : decode yB 3 = .ok (.aload_n 1, 1) := by decide +kernel
theorem d4 : decode yB 4 = .ok (.arraylength, 1) := by decide +kernel
theorem d5 : decode yB 5 = .ok (.aconst_null, 1) := by decide +kernel
theorem d6 : decode yB 6 = .ok (.invokespecial 27, 3) := by decide +kernel
theorem d9 : decode yB 9 = .ok (.return_, 1) := by decide +kernel
def site : List Cond := [New4.tab] ++ initW "java/lang/String" 27 New4.yN
def tab : Cond := tabOf yN yB 2 none site
def P (a : Addr) (D : Cell) (fV fC : Field) (b : Addr) (A : Cell) (z : Int32) (args : Array Value) (s : State) : Prop := args = #[.ref a, .ref b] ∧ Blank "java/lang/String" a D s ∧ Found "java/lang/String" "value" "[B" fV s ∧ Found "java/lang/String" "coder" "B" fC s ∧ Ch b A s ∧ StaticIs s "java/lang/String" "COMPACT_STRINGS" "Z" (.int z) ∧ ¬ z = 0 ∧ 0 < A.slots.size ∧ A.slots.size ≤ 536870912 ∧ ∀ i, i < A.slots.size → ¬ 255 < cv A i
def E (a : Addr) (D : Cell) (fV fC : Field) (A : Cell) (r : Option Value) (s u : State) : Prop := Got a D fV fC A 0 A.slots.size r s u
/-- new String(chars), not empty, no char above 255: a Latin-1 String of their low bytes -/
theorem law (l : Launch) (a : Addr) (D : Cell) (fV fC : Field) (b : Addr) (A : Cell) (z : Int32) : Law l yN 2 1 3 52 yB 2 none site (P a D fV fC b A z) (E a D fV fC A) [⟨a, fC.slot⟩, ⟨a, fV.slot⟩] 1 A.slots.size := by
  refine Law.of_walk (plainFor_of_name (by decide +kernel)) (by decide +kernel) (by decide +kernel) (by decide) (fun _ _ h => by rw [h.1]; rfl) (fun _ U U' hal hh h => ⟨h.1, h.2.1.mv hal hh, h.2.2.1.al hal, h.2.2.2.1.al hal, h.2.2.2.2.1.mv hal hh, h.2.2.2.2.2.1.there hal hh, h.2.2.2.2.2.2⟩) (fun r U U' V V' h1 hal h2 h => Got.mv r U U' V V' h1 hal h2 h) ?_
  intro p e s m args below meth c s₁ X0 hexec hbytes hml hret hlk hnm hown hh0 W hP
  obtain ⟨rfl, hB, f1, f2, hA, s1, hz, l0, l2, hp⟩ := hP
  have c1 : Steps p.tables e below (s₁.setTop (entryFrame m #[.ref a, .ref b] 2)) (s₁.setTop (mkF m 0 #[.val (.ref a), .val (.ref b)] [])) := entry rfl
  have c2 : Steps p.tables e below (s₁.setTop (entryFrame m #[.ref a, .ref b] 2)) (s₁.setTop (mkF m 6 #[.val (.ref a), .val (.ref b)] [.null, .int (Int32.ofNat A.slots.size), .int 0, .ref b, .ref a])) := c1.trans (by
    refine XS.aloadN X0.here hexec rfl (hb hbytes d0) rfl rfl ?_
    refine XS.aloadN X0.here hexec rfl (hb hbytes d1) rfl rfl ?_
    refine iconstV X0.here hexec rfl 0 (hb hbytes d2) (by decide) ?_
    refine XS.aloadN X0.here hexec rfl (hb hbytes d3) rfl rfl ?_
    refine X0.alen hexec (hA.1.mv X0.warmed.alike hh0) rfl rfl (hb hbytes d4) ?_
    refine XS.aconstNull X0.here hexec rfl (hb hbytes d5) ?_
    exact Steps.refl _)
  obtain ⟨v3, T3, X3, E3, g3⟩ := X0.callN hexec (New4.law l a D fV fC b A z 0 A.slots.size) rfl hown (wks W (initW "java/lang/String" 27 New4.yN)) (W New4.tab (by simp only [site, List.mem_cons, List.mem_append, true_or, or_true])) (W := 0) (Nat.le_of_ble_eq_true rfl) (Nat.le_of_ble_eq_true rfl) (Nat.le_refl _) (by show 0 + A.slots.size ≤ A.slots.size; omega) (g := (mkF m 6 #[.val (.ref a), .val (.ref b)] [.null, .int (Int32.ofNat A.slots.size), .int (Int32.ofNat 0), .ref b, .ref a])) rfl (by rw [hml]; rfl) c2 (argsL := [.ref b, .int (Int32.ofNat 0), .int (Int32.ofNat A.slots.size), .null]) (rest := []) rfl rfl (by show 2 * 0 + 0 ≤ _; decide) (hb hbytes d6) (⟨rfl, hB.mv X0.warmed.alike hh0, f1.al X0.warmed.alike, f2.al X0.warmed.alike, hA.mv X0.warmed.alike hh0, s1.there X0.warmed.alike hh0, hz, l0, by omega, l2, fun i hi => by rw [Nat.zero_add]; exact hp i hi⟩)
  have e0 := Got.mv _ s₁ s _ _ hh0.symm (Vm.Alike.refl _) rfl E3
  obtain rfl := e0.1
  have c4 : Steps p.tables e below (s₁.setTop (entryFrame m #[.ref a, .ref b] 2)) (T3.setTop (mkF m 9 #[.val (.ref a), .val (.ref b)] [])) := g3
  exact ⟨T3, none, _, _, _, X3, by simp, rfl, by omega, (fun _ => rfl), e0, fun fs hl => c4.trans (X3.returnOut hexec hret (hb hbytes d9) hl)⟩
theorem pays {l : Launch} {R : Room} {p : Program} {e : Env} {below : List Frame} {s : State} {sargs : Array Value} {len W : Nat} (a : Addr) (D : Cell) (fV fC : Field) (b : Addr) (A : Cell) (z : Int32) (htab : tab.before sargs s = true) (hfr : 4 ≤ R.frames) (hlo : W + 65 ≤ R.locals) :
    Back l R p e below s sargs yN len W (fun A₁ a₁ => A₁.cells + 1 ≤ R.cells ∧ A₁.slots + A.slots.size ≤ R.slots ∧ P a D fV fC b A z a₁ A₁.U) (fun A₁ _ v₁ B₁ => E a D fV fC A v₁ A₁.U B₁.U ∧ B₁.locs = A₁.locs ++ [⟨a, fC.slot⟩, ⟨a, fV.slot⟩] ∧ B₁.cells = A₁.cells + 1 ∧ B₁.slots = A₁.slots + A.slots.size) :=
  (law l a D fV fC b A z).pays htab hfr (by omega)
end New1
/-- the byte, read back as charAt reads it, is the char -/
theorem lo8_mask {x : Int32} (h0 : ¬ x < 0) (h1 : ¬ 255 < x) : lo8 x &&& 255 = x := by
  have t : ∀ k : Fin 256, lo8 (Int32.ofNat k.val) &&& 255 = Int32.ofNat k.val := by decide +kernel
  rw [Int32.lt_iff_toInt_lt] at h0 h1
  have e0 : (0 : Int32).toInt = 0 := rfl
  have e1 : (255 : Int32).toInt = 255 := rfl
  obtain ⟨k, hk⟩ : ∃ k : Nat, x.toInt = k := ⟨x.toInt.toNat, by omega⟩
  have hx : x = Int32.ofNat k := Int32.toInt_inj.mp (by rw [hk, Int32.toInt_ofNat_small (by omega)])
  rw [hx]
  exact t ⟨k, by omega⟩
end StrChars
namespace StrChars.Road
open Jvm Sem ClassFile Op Lib Jvm.Stand Jvm.Free Jvm.Free.XT
open Jvm.Lib.Cold (StaticIs)
abbrev ST : String := "java/lang/String"
/-- every table word that New1's law asks, flat -/
abbrev words : List Jvm.Cond := [.code New1.yN New1.yB 2 none, .initialized ST, .methodLink ST 27 New4.yN, .instanceMethod New4.yN,
  .code New4.yN New4.yB 6 none, .fieldLink ST 38 ST "COMPACT_STRINGS" "Z", .laysFinal ST ST "value" "[B", .fieldLink ST 9 ST "value" "[B", .laysFinal ST ST "coder" "B", .fieldLink ST 15 ST "coder" "B",
  .methodLink ST 1 Lib.objectInit, .instanceMethod Lib.objectInit, .code Lib.objectInit ⟨#[0xb1]⟩ 1 none, .methodLink ST 177 Cmp3.yN, .static Cmp3.yN, .methodLink ST 47 CodL.yN, .static CodL.yN,
  .code Cmp3.yN Cmp3.yB 6 (some (.array .byte)), .initialized U16, .arrayClass .byte, .methodLink U16 115 Cmp5.yN, .static Cmp5.yN, .code Cmp5.yN Cmp5.yB 7 (some .int), .code CodL.yN CodL.yB 2 (some .byte)]
theorem tab_of {a : Array Value} {s : State} (h : ∀ w ∈ words, w.before a s = true) : New1.tab.before a s = true := by
  have h5 : Cmp5.tab.before a s = true := unparts (wk h (.code Cmp5.yN Cmp5.yB 7 (some .int))) (wks h (.initialized Cmp5.yN.cls :: Cmp5.site))
  have hc : CodL.tab.before a s = true := unparts (wk h (.code CodL.yN CodL.yB 2 (some .byte))) (wks h (.initialized CodL.yN.cls :: CodL.site))
  have q5 : ∀ w ∈ Cmp5.tab :: words, w.before a s = true := fun w hw => (List.mem_cons.mp hw).elim (fun e => e ▸ h5) (h w)
  have h3 : Cmp3.tab.before a s = true := unparts (wk q5 (.code Cmp3.yN Cmp3.yB 6 (some (.array .byte)))) (wks q5 (.initialized Cmp3.yN.cls :: Cmp3.site))
  have q3 : ∀ w ∈ Cmp3.tab :: CodL.tab :: words, w.before a s = true := fun w hw => (List.mem_cons.mp hw).elim (fun e => e ▸ h3) fun hw => (List.mem_cons.mp hw).elim (fun e => e ▸ hc) (h w)
  have h4 : New4.tab.before a s = true := unparts (wk q3 (.code New4.yN New4.yB 6 none)) (wks q3 (.initialized New4.yN.cls :: New4.site))
  have q4 : ∀ w ∈ New4.tab :: words, w.before a s = true := fun w hw => (List.mem_cons.mp hw).elim (fun e => e ▸ h4) (h w)
  exact unparts (wk q4 (.code New1.yN New1.yB 2 none)) (wks q4 (.initialized New1.yN.cls :: New1.site))
/-- the words ride from the start Z to the walk's own state -/
theorem moved {Z s : State} {a0 args : Array Value} (hZ : Z.Warmed39 s.vm) (hw : ∀ d ∈ words, d.before a0 Z = true) : ∀ d ∈ words, d.before args s = true := fun d hd => by
  have q := hw d hd
  have t : ∀ d ∈ words, d = .arrayClass .byte ∨ (d.onTables && d.keepsFace) = true := by decide +kernel
  rcases t d hd with rfl | t
  · exact RoadKit.mvA hZ q
  · exact RoadKit.mv hZ q t
/-- WHAT COMES BACK, over the tables of the start Z: h the heap at the call, h' behind it -/
def Q (Z : State) (x : Addr) (A : Cell) (h : Heap) (v : Option Value) (h' : Heap) (L : List Loc) : Prop := v = none ∧ (∀ y ∈ L, y.base = x) ∧ RoadKit.Keep h h' [x] ∧ h'.size = h.size + 1 ∧ RoadKit.Exa Z h' x ST ∧ RoadKit.Fld Z h' x ST "value" "[B" (.ref h.size) ∧ RoadKit.Fld Z h' x ST "coder" "B" (.int 0) ∧
  (∃ V : Cell, RoadKit.Arr Z h' h.size V .byte ∧ V.vm = .none ∧ Z.vm.findClass "[B" = some V.cls ∧ V.slots.size = A.slots.size ∧ ∀ j, j < A.slots.size → V.slots[j]? = some (.int (lo8 (cv A j)))) ∧
  ∀ (O n d : String) (w : Value), RoadKit.Fld Z h x O n d w → RoadKit.slotOf Z O n d ≠ RoadKit.slotOf Z ST "value" "[B" → RoadKit.slotOf Z O n d ≠ RoadKit.slotOf Z ST "coder" "B" → RoadKit.Fld Z h' x O n d w
/-- **new String(chars) AT A CALL, IN THE ROAD'S FORM**: for specialBack behind newO: x the fresh String, b the char[] with the cell A -/
theorem back {p : Program} {l : Launch} {e : Env} {R : Room} {s : State} {args : Array Value} {below : List Frame} {len W : Nat} {Z : State} {a0 : Array Value} {h : Heap} (hZ : Z.Warmed39 s.vm) (hw : ∀ d ∈ words, d.before a0 Z = true) {kI : Nat} (wi : (Jvm.Cond.instantiable ST kI).before a0 Z = true)
    {x b : Addr} {A : Cell} {z : Int32} {v0 c0 : Value} (E : RoadKit.Exa Z h x ST) (V : RoadKit.Fld Z h x ST "value" "[B" v0) (C : RoadKit.Fld Z h x ST "coder" "B" c0) (K : RoadKit.Arr Z h b A .char) (hty : Typed .char A) (S : RoadKit.Sta Z h ST "COMPACT_STRINGS" "Z" (.int z)) (hz : ¬ z = 0)
    (l0 : 0 < A.slots.size) (l2 : A.slots.size ≤ 536870912) (hp : ∀ i, i < A.slots.size → ¬ 255 < cv A i) (hfr : 4 ≤ R.frames) (hlo : W + 65 ≤ R.locals) :
    Back l R p e below s args New1.yN len W (fun P a => a = #[.ref x, .ref b] ∧ P.U.heap = h ∧ P.cells + 1 ≤ R.cells ∧ P.slots + A.slots.size ≤ R.slots)
      (fun P _ v B => ∃ L, Q Z x A h v B.U.heap L ∧ B.locs = P.locs ++ L ∧ B.cells = P.cells + 1 ∧ B.slots = P.slots + A.slots.size) := by
  intro m meth c P g ig mk a X hg hsize hdg hW hn hp'
  obtain ⟨rfl, rfl, r1, r2⟩ := hp'
  have al : Z.vm.Alike P.U.vm := hZ.alike.trans X.warmed.alike
  obtain ⟨D, cfV, kV, iV, fV, hD, gV, stV, knV, obV, asV, slV⟩ := id V
  obtain ⟨D', cfC, kC, iC, fC, hD', gC, stC, -, -, asC, slC⟩ := id C
  cases hD.symm.trans hD'
  obtain ⟨D2, kD, e1, e2, e3, e4, e5⟩ := id E
  cases hD.symm.trans e1
  obtain ⟨c2, k2, i1, i2, i3, -⟩ := Cond.instantiable_spec wi
  cases e2.symm.trans i1
  cases e3.symm.trans i2
  obtain ⟨kU, u1, u2⟩ := al.2.2 _ _ e3
  have hB : Blank ST x D P.U := ⟨hD, ⟨knV, fun q hq => by rw [hq] at obV; cases obV⟩, by rw [al.findClass]; exact e2, kU, u1, by rw [u2]; exact i3, by rw [u2]; exact e5 i3⟩
  have F1 : Found ST "value" "[B" fV P.U := ⟨SBG.found_only al ⟨cfV, kV, iV, gV⟩, stV⟩
  have F2 : Found ST "coder" "B" fC P.U := ⟨SBG.found_only al ⟨cfC, kC, iC, gC⟩, stC⟩
  have hA : Ch b A P.U := ⟨⟨K.1, State.isArrayOf_alike al K.2.1, K.2.2, by omega⟩, hty⟩
  have hS : StaticIs P.U ST "COMPACT_STRINGS" "Z" (.int z) := by
    obtain ⟨cfS, iS, kS, fS, st, cS, t1, t2, t3, t4, t5, t6, t7⟩ := S
    exact StaticIs.there (s := { Z with heap := P.U.heap }) ⟨cfS, iS, kS, fS, st, cS, t1, t2, t3, t4, t5, (fun q => by rw [q] at t6; cases t6), t7⟩ al rfl
  obtain ⟨v, B, X', ⟨⟨hv, E', V', q1, q2, q3, q4, q5, q6, q7, q8, q9, q10, q11⟩, hl, hc, hs⟩, st⟩ := New1.pays x D fV fC b A z (tab_of (moved hZ hw)) hfr hlo m meth c P g ig mk _ X hg hsize hdg hW hn ⟨r1, r2, rfl, hB, F1, F2, hA, hS, hz, l0, l2, hp⟩
  have al' : Z.vm.Alike B.U.vm := hZ.alike.trans X'.warmed.alike
  have hsz : E'.slots.size = D.slots.size := by
    obtain ⟨-, -, -, kB, w1, w2, w3⟩ := q1
    obtain ⟨kB', y1, y2⟩ := al'.2.2 _ _ e3
    rw [q2.2.1] at w1
    cases w1.symm.trans y1
    rw [w3, e5 i3, y2]
  refine ⟨v, B, X', ⟨_, ⟨hv, ?_, ⟨by omega, fun y cy hy hn' => q10 y cy (by simpa using hn') hy, fun y cy hy => ?_⟩, q11, ⟨E', _, q1.1, by rw [q2.2.1]; exact e2, by rw [q2.2.1]; exact e3, by rw [q2.1]; exact obV, fun _ => by rw [hsz]; exact e5 i3⟩,
    ⟨E', cfV, kV, iV, fV, q1.1, gV, stV, by rw [q2.1]; exact knV, by rw [q2.1]; exact obV, by rw [q2.2.1]; exact asV, q3⟩, ⟨E', cfC, kC, iC, fC, q1.1, gC, stC, by rw [q2.1]; exact knV, by rw [q2.1]; exact obV, by rw [q2.2.1]; exact asC, q4⟩,
    ⟨V', ⟨q5.1, State.isArrayOf_alike al'.symm q5.2.1, q5.2.2.1⟩, q6, by rw [← al'.findClass]; exact q7, q8, fun j hj => by have := q9 j hj; rwa [Nat.zero_add] at this⟩, fun O n d w F n1 n2 => ?_⟩, hl, hc, hs⟩, st⟩
  · intro y hy
    simp only [List.mem_cons, List.not_mem_nil, or_false] at hy
    rcases hy with rfl | rfl <;> rfl
  · by_cases q : y = x
    · subst q
      cases hD.symm.trans hy
      exact ⟨E', q1.1, q2.2.1, q2.1, hsz⟩
    · exact ⟨cy, q10 y cy q hy, rfl, rfl, rfl⟩
  · obtain ⟨D3, cf, k, i, f, g1, g2, g3, g4, g5, g6, g7⟩ := F
    cases hD.symm.trans g1
    simp only [RoadKit.slotOf, g2, gV, gC, Option.map_some, Option.getD_some] at n1 n2
    exact ⟨E', cf, k, i, f, q1.1, g2, g3, by rw [q2.1]; exact g4, by rw [q2.1]; exact g5, by rw [q2.2.1]; exact g6, by rw [q2.2.2 f.slot (by simp [n1, n2])]; exact g7⟩
end StrChars.Road
namespace StrChars.Road
open Jvm Sem ClassFile Op Lib Jvm.Stand Jvm.Free Jvm.Free.XT
/-- WHAT COMES BACK, the byte[] as a list of values -/
def QA (Z : State) (x : Addr) (zn : Int32) (cs : List Int32) (h : Heap) (v : Option Value) (h' : Heap) (L : List Loc) : Prop := v = none ∧ (∀ y ∈ L, y.base = x) ∧ RoadKit.Keep h h' [x] ∧ h'.size = h.size + 1 ∧ RoadKit.Exa Z h' x ST ∧ RoadKit.Fld Z h' x ST "value" "[B" (.ref h.size) ∧ RoadKit.Fld Z h' x ST "coder" "B" (.int 0) ∧
  (∃ kb, Z.vm.findClass "[B" = some kb ∧ RoadKit.Arv Z h' h.size kb .byte zn (cs.map fun c => .int (lo8 c)) (.int 0)) ∧
  ∀ (O n d : String) (w : Value), RoadKit.Fld Z h x O n d w → RoadKit.slotOf Z O n d ≠ RoadKit.slotOf Z ST "value" "[B" → RoadKit.slotOf Z O n d ≠ RoadKit.slotOf Z ST "coder" "B" → RoadKit.Fld Z h' x O n d w
/-- **new String(chars) AT A CALL, THE ARRAYS AS LISTS**: the char[] at b holds cs, not empty, no char above 255 -/
theorem backArv {p : Program} {l : Launch} {e : Env} {R : Room} {s : State} {args : Array Value} {below : List Frame} {len W : Nat} {Z : State} {a0 : Array Value} {h : Heap} (hZ : Z.Warmed39 s.vm) (hw : ∀ d ∈ words, d.before a0 Z = true) {kI : Nat} (wi : (Jvm.Cond.instantiable ST kI).before a0 Z = true)
    {x b : Addr} {k : ClassId} {zn z : Int32} {cs : List Int32} {dv v0 c0 : Value} (E : RoadKit.Exa Z h x ST) (V : RoadKit.Fld Z h x ST "value" "[B" v0) (C : RoadKit.Fld Z h x ST "coder" "B" c0) (K : RoadKit.Arv Z h b k .char zn (cs.map Value.int) dv) (S : RoadKit.Sta Z h ST "COMPACT_STRINGS" "Z" (.int z)) (hz : ¬ z = 0)
    (hlen : zn.toNatClampNeg = cs.length) (h0 : 0 < cs.length) (hbig : cs.length ≤ 536870912) (hall : ∀ c ∈ cs, ¬ 255 < c) (hfr : 4 ≤ R.frames) (hlo : W + 65 ≤ R.locals) :
    Back l R p e below s args New1.yN len W (fun P a => a = #[.ref x, .ref b] ∧ P.U.heap = h ∧ P.cells + 1 ≤ R.cells ∧ P.slots + cs.length ≤ R.slots)
      (fun P _ v B => ∃ L, QA Z x zn cs h v B.U.heap L ∧ B.locs = P.locs ++ L ∧ B.cells = P.cells + 1 ∧ B.slots = P.slots + cs.length) := by
  obtain ⟨A, K1, K2, K3, K4, K5, K6⟩ := K
  have e : A.slots.size = cs.length := K3.trans hlen
  have hat : ∀ (i : Nat) (hi : i < cs.length), A.slots[i]? = some (.int cs[i]) := fun i hi => by rw [K5 i (by omega)]; simp [List.getD_eq_getElem?_getD, hi]
  have hcv : ∀ (i : Nat) (hi : i < cs.length), cv A i = cs[i] := fun i hi => by unfold cv; rw [hat i hi]
  have hty : Typed .char A := fun i v hv => by
    have hi : i < A.slots.size := (Array.getElem?_eq_some_iff.mp hv).1
    have q := K5 i hi
    rw [hv] at q
    rw [Option.some.inj q]
    exact K6 i hi
  refine Back.mono (back hZ hw wi E V C K1 hty S hz (by omega) (by omega) (fun i hi => by rw [hcv i (by omega)]; exact hall _ (List.getElem_mem _)) hfr hlo) (fun P a hp => ⟨hp.1, hp.2.1, hp.2.2.1, by rw [e]; exact hp.2.2.2⟩) (fun P a v B hp hq => ?_)
  obtain ⟨L, ⟨q1, q2, q3, q4, q5, q6, q7, ⟨V', v1, v2, v3, v4, v5⟩, q9⟩, hl, hc, hs⟩ := hq
  refine ⟨L, ⟨q1, q2, q3, q4, q5, q6, q7, ⟨V'.cls, v3, V', v1, rfl, by rw [v4, e, hlen], K4, fun i hi => ?_, fun i hi => ?_⟩, q9⟩, hl, hc, by rw [hs, e]⟩
  · have hi' : i < cs.length := by omega
    rw [v5 i (by omega), hcv i hi']; simp [List.getD_eq_getElem?_getD, hi']
  · have hi' : i < cs.length := by omega
    simp only [List.getD_eq_getElem?_getD, List.getElem?_map, List.getElem?_eq_getElem hi', Option.map_some, Option.getD_some]
    exact fits_lo8 _
end StrChars.Road
namespace StrChars.Road
open Jvm Sem ClassFile Op Lib Jvm.Stand Jvm.Free Jvm.Free.XT
/-- WHAT COMES BACK, in the writer's own shape -/
def QV (Z : State) (x : Addr) (N : Int32) (bs : List Int32) (h : Heap) (n0 : Nat) (v : Option Value) (h' : Heap) (L : List Loc) : Prop := v = none ∧ RoadKit.Fr n0 L ∧ RoadKit.Keep h h' [x] ∧ RoadKit.Exa Z h' x ST ∧ RoadKit.Fld Z h' x ST "coder" "B" (.int 0) ∧
  ∃ (t : Addr) (kb : ClassId), n0 ≤ t ∧ h.size ≤ t ∧ ¬ t = x ∧ RoadKit.Fld Z h' x ST "value" "[B" (.ref t) ∧ RoadKit.Arv Z h' t kb .byte N (bs.map Value.int) (.int 0)
/-- **new String(chars) AT A CALL, FOR THE WRITER**: a char[] of n known ints, each 0 to 255 -/
theorem backV {p : Program} {l : Launch} {e : Env} {R : Room} {s : State} {args : Array Value} {below : List Frame} {len W : Nat} {Z : State} {a0 : Array Value} {h : Heap} (hZ : Z.Warmed39 s.vm) (hw : ∀ d ∈ words, d.before a0 Z = true) {kI : Nat} (wi : (Jvm.Cond.instantiable ST kI).before a0 Z = true)
    {x b : Addr} {kC : ClassId} {cs bs : List Int32} {d v0 c0 : Value} {z N : Int32} {n n0 : Nat} (hx0 : n0 ≤ x) (hh0 : n0 ≤ h.size) (E : RoadKit.Exa Z h x ST) (V : RoadKit.Fld Z h x ST "value" "[B" v0) (C : RoadKit.Fld Z h x ST "coder" "B" c0) (K : RoadKit.Arv Z h b kC .char N (cs.map Value.int) d) (S : RoadKit.Sta Z h ST "COMPACT_STRINGS" "Z" (.int z)) (hz : ¬ z = 0)
    (hn : cs.length = n) (hN : N = Int32.ofNat n) (l0 : 0 < n) (l2 : n ≤ 4000) (hp : ∀ c ∈ cs, ¬ c < 0 ∧ ¬ (255 : Int32) < c) (hb : bs = cs.map (fun c => c.toInt8.toInt32)) (hfr : 4 ≤ R.frames) (hlo : W + 65 ≤ R.locals) :
    Back l R p e below s args (⟨"java/lang/String", "<init>", "([C)V"⟩ : MethodName) len W (fun P a => a = #[.ref x, .ref b] ∧ P.U.heap = h ∧ P.cells + 1 ≤ R.cells ∧ P.slots + n ≤ R.slots)
      (fun P _ v B => ∃ L, QV Z x N bs h n0 v B.U.heap L ∧ B.locs = P.locs ++ L ∧ B.cells = P.cells + 1 ∧ B.slots = P.slots + n) := by
  subst hn hN hb
  refine Back.mono (backArv hZ hw wi E V C K S hz (n32 (by omega)) l0 (by omega) (fun c hc => (hp c hc).2) hfr hlo) (fun P a hp => hp) (fun P a v B hp hq => ?_)
  obtain ⟨L, ⟨q1, q2, q3, q4, q5, q6, q7, ⟨kb, v1, v2⟩, q9⟩, hl, hc, hs⟩ := hq
  exact ⟨L, ⟨q1, fun y hy => by rw [q2 y hy]; exact hx0, q3, q5, q7, h.size, kb, hh0, Nat.le_refl _, Nat.ne_of_gt E.lt, q6, by rw [List.map_map]; exact v2⟩, hl, hc, hs⟩
end StrChars.Road
namespace StrChars
open Jvm Sem ClassFile Op Lib Jvm.Stand Jvm.Free.XT Jvm.Free.ALB Jvm.Free.JM Jvm.Free
open Jvm.Lib.Cold (StaticIs)
def hi8 (x : Int32) : Int32 := lo8 (x >>> ((8 : Int32) &&& 31))
/-- what StringUTF16.getChar makes of two bytes -/
def pairCh (u v : Int32) : Int32 := (((u &&& 255) <<< ((0 : Int32) &&& 31)) ||| ((v &&& 255) <<< ((8 : Int32) &&& 31))).toUInt32.toUInt16.toUInt32.toInt32
theorem shr0 (c : Int32) : c >>> ((0 : Int32) &&& 31) = c := by
  have e : ((0 : Int32) &&& 31) = 0 := by decide
  rw [e]
  apply Int32.toBitVec_inj.mp
  rw [Int32.toBitVec_shiftRight]
  have e1 : ((0 : Int32).toBitVec.smod 32) = 0#32 := by decide
  rw [e1, BitVec.sshiftRight_eq']
  exact BitVec.sshiftRight_zero
theorem lo8_and (x : Int32) : (lo8 x &&& 255).toBitVec.toNat = x.toBitVec.toNat % 256 := by
  have h : (lo8 x).toBitVec = (x.toBitVec.signExtend 8).signExtend 32 := by rw [lo8, Int8.toBitVec_toInt32, Int32.toBitVec_toInt8]
  rw [Int32.toBitVec_and, BitVec.toNat_and, h]
  have e : ((x.toBitVec.signExtend 8).signExtend 32).toNat % 256 = x.toBitVec.toNat % 256 := by
    rw [BitVec.toNat_signExtend]
    have hlt := x.toBitVec.isLt
    simp only [BitVec.toNat_setWidth, BitVec.toNat_signExtend]
    split <;> split <;> omega
  rw [← e]
  exact Nat.and_two_pow_sub_one_eq_mod _ 8
theorem pair_says {c : Int32} (h0 : ¬ c < 0) (h1 : ¬ 65535 < c) : pairCh (lo8 c) (hi8 c) = c := by
  rw [Int32.lt_iff_toInt_lt] at h0 h1
  have e0 : (0 : Int32).toInt = 0 := rfl
  have e1 : (65535 : Int32).toInt = 65535 := rfl
  have hc : c.toInt = c.toBitVec.toNat := by
    have := c.toBitVec.isLt
    have e : c.toInt = c.toBitVec.toInt := rfl
    rw [e] at h0 h1
    rw [e]
    rw [BitVec.toInt_eq_toNat_cond] at h0 h1 ⊢
    split at h0 <;> split <;> omega
  have hn : c.toBitVec.toNat < 65536 := by omega
  have a1 := lo8_and c
  have a2 : (hi8 c &&& 255).toBitVec.toNat = c.toBitVec.toNat / 256 := by
    rw [hi8, lo8_and]
    have e : ((8 : Int32) &&& 31) = 8 := by decide
    rw [e, Int32.toBitVec_shiftRight]
    have e2 : ((8 : Int32).toBitVec.smod 32) = 8#32 := by decide
    rw [e2, BitVec.sshiftRight_eq', BitVec.toNat_sshiftRight_of_msb_false (by rw [BitVec.msb_eq_false_iff_two_mul_lt]; omega)]
    show c.toBitVec.toNat >>> 8 % 256 = _
    rw [Nat.shiftRight_eq_div_pow]
    omega
  unfold pairCh
  apply Int32.toBitVec_inj.mp
  apply BitVec.eq_of_toNat_eq
  have f0 : ((0 : Int32) &&& 31) = 0 := by decide
  have f8 : ((8 : Int32) &&& 31) = 8 := by decide
  rw [f0, f8]
  have g : (((lo8 c &&& 255) <<< (0 : Int32)) ||| ((hi8 c &&& 255) <<< (8 : Int32))).toBitVec.toNat = c.toBitVec.toNat := by
    rw [Int32.toBitVec_or, Int32.toBitVec_shiftLeft, Int32.toBitVec_shiftLeft]
    have s0 : ((0 : Int32).toBitVec.smod 32) = 0#32 := by decide
    have s8 : ((8 : Int32).toBitVec.smod 32) = 8#32 := by decide
    rw [s0, s8, BitVec.toNat_or]
    simp only [BitVec.shiftLeft_eq', BitVec.toNat_shiftLeft, a1, a2]
    show (c.toBitVec.toNat % 256) <<< 0 % 2 ^ 32 ||| (c.toBitVec.toNat / 256) <<< 8 % 2 ^ 32 = _
    rw [Nat.shiftLeft_zero, Nat.mod_eq_of_lt (show c.toBitVec.toNat % 256 < 2 ^ 32 by omega), Nat.mod_eq_of_lt (show (c.toBitVec.toNat / 256) <<< 8 < 2 ^ 32 by rw [Nat.shiftLeft_eq]; omega), Nat.or_comm, ← Nat.shiftLeft_add_eq_or_of_lt (by omega), Nat.shiftLeft_eq]
    omega
  show BitVec.toNat (((((lo8 c &&& 255) <<< (0 : Int32)) ||| ((hi8 c &&& 255) <<< (8 : Int32))).toBitVec.setWidth 16).setWidth 32) = _
  rw [BitVec.toNat_setWidth, BitVec.toNat_setWidth, g]
  omega
end StrChars
namespace StrChars
open Jvm Sem ClassFile Op Lib Jvm.Stand Jvm.Free.XT Jvm.Free.ALB Jvm.Free.JM Jvm.Free
open Jvm.Lib.Cold (StaticIs)
theorem shr1 {n : Nat} (h : 2 * n < 2 ^ 31) : Int32.ofNat (2 * n) >>> ((1 : Int32) &&& 31) = Int32.ofNat n := by
  have e : ((1 : Int32) &&& 31) = 1 := by decide
  rw [e]
  apply Int32.toBitVec_inj.mp
  rw [Int32.toBitVec_shiftRight]
  have e1 : ((1 : Int32).toBitVec.smod 32) = 1#32 := by decide
  have hm : (BitVec.ofNat 32 (2 * n)).toNat = 2 * n := by rw [BitVec.toNat_ofNat, Nat.mod_eq_of_lt (by omega)]
  rw [e1, BitVec.sshiftRight_eq']
  apply BitVec.eq_of_toNat_eq
  show ((BitVec.ofNat 32 (2 * n)).sshiftRight 1).toNat = (BitVec.ofNat 32 n).toNat
  rw [BitVec.toNat_sshiftRight_of_msb_false (by rw [BitVec.msb_eq_false_iff_two_mul_lt, hm]; omega), hm, BitVec.toNat_ofNat, Nat.shiftRight_eq_div_pow]
  omega
/-- charAt's cast of a byte read back -/
def chr8 (u : Int32) : Int32 := (u &&& 255).toUInt32.toUInt16.toUInt32.toInt32
theorem chr8_lo8 {c : Int32} (h0 : ¬ c < 0) (h1 : ¬ 255 < c) : chr8 (lo8 c) = c := by
  have t : ∀ k : Fin 256, (Int32.ofNat k.val).toUInt32.toUInt16.toUInt32.toInt32 = Int32.ofNat k.val := by decide +kernel
  unfold chr8
  rw [lo8_mask h0 h1]
  rw [Int32.lt_iff_toInt_lt] at h0 h1
  have e0 : (0 : Int32).toInt = 0 := rfl
  have e1 : (255 : Int32).toInt = 255 := rfl
  obtain ⟨k, hk⟩ : ∃ k : Nat, c.toInt = k := ⟨c.toInt.toNat, by omega⟩
  have hx : c = Int32.ofNat k := Int32.toInt_inj.mp (by rw [hk, Int32.toInt_ofNat_small (by omega)])
  rw [hx]
  exact t ⟨k, by omega⟩
theorem narrow_ch {c : Int32} (h0 : ¬ c < 0) (h1 : ¬ 65535 < c) : narrow .char (.int c) = .int c := by
  have q : narrow .char (.int (pairCh (lo8 c) (hi8 c))) = .int (pairCh (lo8 c) (hi8 c)) := narrow_c _
  rwa [pair_says h0 h1] at q
/-- the array's cell V codes the n chars f 0 .. f (n - 1) by the coder cd, as the JDK does: coder 1 just where some char is above 255 -/
def Cod (cd : Int32) (n : Nat) (f : Nat → Int32) (V : Cell) : Prop := (cd = 0 ∧ V.slots.size = n ∧ ∀ j, j < n → V.slots[j]? = some (.int (lo8 (f j))) ∧ ¬ 255 < f j) ∨ (cd = 1 ∧ V.slots.size = 2 * n ∧ (∀ j, j < n → V.slots[2 * j]? = some (.int (lo8 (f j))) ∧ V.slots[2 * j + 1]? = some (.int (hi8 (f j)))) ∧ ∃ j, j < n ∧ 255 < f j)
theorem Cod.cd {cd : Int32} {n : Nat} {f : Nat → Int32} {V : Cell} (h : Cod cd n f V) : cd = 0 ∨ cd = 1 := h.imp (fun q => q.1) fun q => q.1
theorem Cod.len {cd : Int32} {n : Nat} {f : Nat → Int32} {V : Cell} (h : Cod cd n f V) (hs : V.slots.size < 2 ^ 31) : Int32.ofNat V.slots.size >>> (cd &&& 31) = Int32.ofNat n := by
  rcases h with ⟨rfl, h, -⟩ | ⟨rfl, h, -⟩
  · rw [shr0, h]
  · rw [h, shr1 (by omega)]
/-- **x is a String of the n chars f 0 .. f (n - 1)**, Latin-1 or UTF-16; its array at t has the cell V -/
def Txt (x t : Addr) (V : Cell) (cd : Int32) (n : Nat) (f : Nat → Int32) (U : State) : Prop := Exact "java/lang/String" x U ∧ Has x "java/lang/String" "value" "[B" (.ref t) U ∧ Has x "java/lang/String" "coder" "B" (.int cd) U ∧ XT.Arr .byte t V U ∧ Cod cd n f V ∧ ∀ j, j < n → ¬ f j < 0 ∧ ¬ 65535 < f j
theorem Txt.mv {x t : Addr} {V : Cell} {cd : Int32} {n : Nat} {f : Nat → Int32} {U U' : State} (h : Txt x t V cd n f U) (hal : U.vm.Alike U'.vm) (hh : U'.heap = U.heap) : Txt x t V cd n f U' := ⟨h.1.mv hal hh, h.2.1.mv hal hh, h.2.2.1.mv hal hh, h.2.2.2.1.mv hal hh, h.2.2.2.2⟩
namespace Cdr
def yN : MethodName := ⟨"java/lang/String", "coder", "()B"⟩
abbrev yB : ByteArray := jdk_42_method_152_code
theorem d0 : decode yB 0 = .ok (.getstatic 38, 3) := by decide +kernel
theorem d3 : decode yB 3 = .ok (.ifCond (.eq) 10, 3) := by decide +kernel
theorem d6 : decode yB 6 = .ok (.aload_n 0, 1) := by decide +kernel
theorem d7 : decode yB 7 = .ok (.getfield 15, 3) := by decide +kernel
theorem d10 : decode yB 10 = .ok (.goto 4, 3) := by decide +kernel
theorem d14 : decode yB 14 = .ok (.ireturn, 1) := by decide +kernel
def site : List Cond := [.fieldLink "java/lang/String" 38 "java/lang/String" "COMPACT_STRINGS" "Z", .fieldLink "java/lang/String" 15 "java/lang/String" "coder" "B"]
def tab : Cond := tabOf yN yB 1 (some .byte) site
def P (x : Addr) (cd z : Int32) (args : Array Value) (s : State) : Prop := args = #[.ref x] ∧ Has x "java/lang/String" "coder" "B" (.int cd) s ∧ (cd = 0 ∨ cd = 1) ∧ StaticIs s "java/lang/String" "COMPACT_STRINGS" "Z" (.int z) ∧ ¬ z = 0
def E (cd : Int32) (r : Option Value) (s u : State) : Prop := XT.PureE (some (.int cd)) r s u
theorem law (l : Launch) (x : Addr) (cd z : Int32) : Law l yN 1 0 0 0 yB 1 (some .byte) site (P x cd z) (E cd) [] 0 0 := by
  refine Law.of_walk (plainFor_of_name (by decide +kernel)) (by decide +kernel) (by decide +kernel) (by decide) (fun _ _ h => by rw [h.1]; rfl) (fun _ U U' hal hh h => ⟨h.1, h.2.1.mv hal hh, h.2.2.1, h.2.2.2.1.there hal hh, h.2.2.2.2⟩) (fun r U U' V V' h1 hal h2 h => XT.PureE.mv r U U' V V' h1 hal h2 h) ?_
  intro p e s m args below meth c s₁ X0 hexec hbytes hml hret hlk hnm hown hh0 W hP
  obtain ⟨rfl, hx, hc, s1, hz⟩ := hP
  have c1 : Steps p.tables e below (s₁.setTop (entryFrame m #[.ref x] 1)) (s₁.setTop (mkF m 0 #[.val (.ref x)] [])) := entry rfl
  obtain ⟨T2, X2, q2, st2⟩ := X0.sget hexec hown (wk W (.fieldLink "java/lang/String" 38 "java/lang/String" "COMPACT_STRINGS" "Z")) s1 (fun _ _ h => by rw [hh0]; exact h) (g := (mkF m 0 #[.val (.ref x)] [])) rfl (hb hbytes d0)
  have hh2 := q2.trans hh0
  have c3 : Steps p.tables e below (s₁.setTop (entryFrame m #[.ref x] 1)) (T2.setTop (mkF m 7 #[.val (.ref x)] [.ref x])) := (c1.trans (st2 _ (Steps.refl _))).trans (by
    refine XS.ifNo X2.here hexec rfl (hb hbytes d3) rfl (i0_eq_f hz) ?_
    refine XS.aloadN X2.here hexec rfl (hb hbytes d6) rfl rfl ?_
    exact Steps.refl _)
  obtain ⟨T4, X4, q4, st4⟩ := X2.hget hexec hown (wk W (.fieldLink "java/lang/String" 15 "java/lang/String" "coder" "B")) (hx.mv X2.warmed.alike hh2) (g := (mkF m 7 #[.val (.ref x)] [.ref x])) rfl (rest := []) rfl (hb hbytes d7)
  have c5 : Steps p.tables e below (s₁.setTop (entryFrame m #[.ref x] 1)) (T4.setTop (mkF m 14 #[.val (.ref x)] [.int cd])) := (c3.trans (st4 _ (Steps.refl _))).trans (by
    refine XS.goto X4.here hexec rfl (pc0 := 10) rfl (hb hbytes d10) (by decide) rfl ?_
    exact Steps.refl _)
  exact ⟨T4, some (.int cd), _, _, _, X4, rfl, rfl, rfl, (fun h => by cases h), ⟨rfl, q4.trans hh2⟩, fun fs hl => c5.trans (X4.ireturnOut hexec hret (by rcases hc with rfl | rfl <;> rfl) (Or.inr (Or.inr (Or.inl rfl))) (hb hbytes d14) hl)⟩
end Cdr
namespace Len
def yN : MethodName := ⟨"java/lang/String", "length", "()I"⟩
abbrev yB : ByteArray := jdk_42_method_54_code
theorem d0 : decode yB 0 = .ok (.aload_n 0, 1) := by decide +kernel
theorem d1 : decode yB 1 = .ok (.getfield 9, 3) := by decide +kernel
theorem d4 : decode yB 4 = .ok (.arraylength, 1) := by decide +kernel
theorem d5 : decode yB 5 = .ok (.aload_n 0, 1) := by decide +kernel
theorem d6 : decode yB 6 = .ok (.invokevirtual 335, 3) := by decide +kernel
theorem d9 : decode yB 9 = .ok (.ishr, 1) := by decide +kernel
theorem d10 : decode yB 10 = .ok (.ireturn, 1) := by decide +kernel
def site : List Cond := [.fieldLink "java/lang/String" 9 "java/lang/String" "value" "[B", Cdr.tab] ++ virtW "java/lang/String" 335 "java/lang/String" Cdr.yN Cdr.yN
def tab : Cond := tabOf yN yB 1 (some .int) site
def P (x t : Addr) (V : Cell) (cd : Int32) (n : Nat) (f : Nat → Int32) (z : Int32) (args : Array Value) (s : State) : Prop := args = #[.ref x] ∧ Txt x t V cd n f s ∧ StaticIs s "java/lang/String" "COMPACT_STRINGS" "Z" (.int z) ∧ ¬ z = 0
def E (n : Nat) (r : Option Value) (s u : State) : Prop := XT.PureE (some (.int (Int32.ofNat n))) r s u
/-- length() of a String of n chars, in either coding -/
theorem law (l : Launch) (x t : Addr) (V : Cell) (cd : Int32) (n : Nat) (f : Nat → Int32) (z : Int32) : Law l yN 1 0 1 13 yB 1 (some .int) site (P x t V cd n f z) (E n) [] 0 0 := by
  refine Law.of_walk (plainFor_of_name (by decide +kernel)) (by decide +kernel) (by decide +kernel) (by decide) (fun _ _ h => by rw [h.1]; rfl) (fun _ U U' hal hh h => ⟨h.1, h.2.1.mv hal hh, h.2.2.1.there hal hh, h.2.2.2⟩) (fun r U U' V V' h1 hal h2 h => XT.PureE.mv r U U' V V' h1 hal h2 h) ?_
  intro p e s m args below meth c s₁ X0 hexec hbytes hml hret hlk hnm hown hh0 W hP
  obtain ⟨rfl, hx, s1, hz⟩ := hP
  have v31 := hx.2.2.2.1.2.2.2
  have c1 : Steps p.tables e below (s₁.setTop (entryFrame m #[.ref x] 1)) (s₁.setTop (mkF m 1 #[.val (.ref x)] [.ref x])) := Steps.trans (entry rfl) (by
    show Steps p.tables e below (s₁.setTop (mkF m 0 #[.val (.ref x)] [])) _
    refine XS.aloadN X0.here hexec rfl (hb hbytes d0) rfl rfl ?_
    exact Steps.refl _)
  obtain ⟨T2, X2, q2, st2⟩ := X0.hget hexec hown (wk W (.fieldLink "java/lang/String" 9 "java/lang/String" "value" "[B")) (hx.mv X0.warmed.alike hh0).2.1 (g := (mkF m 1 #[.val (.ref x)] [.ref x])) rfl (rest := []) rfl (hb hbytes d1)
  have hh2 := q2.trans hh0
  have hx2 := hx.mv X2.warmed.alike hh2
  have c3 : Steps p.tables e below (s₁.setTop (entryFrame m #[.ref x] 1)) (T2.setTop (mkF m 6 #[.val (.ref x)] [.ref x, .int (Int32.ofNat V.slots.size)])) := (c1.trans (st2 _ (Steps.refl _))).trans (by
    refine X2.alen hexec hx2.2.2.2.1 rfl rfl (hb hbytes d4) ?_
    refine XS.aloadN X2.here hexec rfl (hb hbytes d5) rfl rfl ?_
    exact Steps.refl _)
  obtain ⟨v4, T4, X4, E4, g4⟩ := X2.callV hexec (Cdr.law l x cd z) hown (wks W (virtW "java/lang/String" 335 "java/lang/String" Cdr.yN Cdr.yN)) rfl (by decide) (wk W Cdr.tab) (W := 1) (Nat.le_of_ble_eq_true rfl) (Nat.le_of_ble_eq_true rfl) (Nat.le_refl _) (Nat.le_refl _) (hx2.1.fc X2.warmed.alike) hx2.1.is (g := (mkF m 6 #[.val (.ref x)] [.ref x, .int (Int32.ofNat V.slots.size)])) rfl (by rw [hml]; rfl) c3 (argsL := []) (rest := [.int (Int32.ofNat V.slots.size)]) rfl rfl (by show 2 * 0 + (1 + 0) ≤ _; decide) (hb hbytes d6) (⟨rfl, hx2.2.2.1, hx.2.2.2.2.1.cd, s1.there X2.warmed.alike hh2, hz⟩)
  obtain ⟨rfl, q4⟩ := E4
  have c5 : Steps p.tables e below (s₁.setTop (entryFrame m #[.ref x] 1)) (T4.setTop (mkF m 10 #[.val (.ref x)] [.int (Int32.ofNat V.slots.size >>> (cd &&& 31))])) := Steps.trans g4 (by
    refine ishr X4.here hexec rfl (hb hbytes d9) rfl ?_
    exact Steps.refl _)
  rw [hx.2.2.2.2.1.len v31] at c5
  exact ⟨T4, some (.int (Int32.ofNat n)), _, _, _, X4, rfl, rfl, rfl, (fun h => by cases h), ⟨rfl, q4.trans hh2⟩, fun fs hl => c5.trans (X4.ireturnOut hexec hret rfl (Or.inl rfl) (hb hbytes d10) hl)⟩
theorem pays {l : Launch} {R : Room} {p : Program} {e : Env} {below : List Frame} {s : State} {sargs : Array Value} {len W : Nat} (x t : Addr) (V : Cell) (cd : Int32) (n : Nat) (f : Nat → Int32) (z : Int32) (htab : tab.before sargs s = true) (hfr : 2 ≤ R.frames) (hlo : W + 25 ≤ R.locals) :
    Back l R p e below s sargs yN len W (fun A₁ a₁ => A₁.cells + 0 ≤ R.cells ∧ A₁.slots + 0 ≤ R.slots ∧ P x t V cd n f z a₁ A₁.U) (fun A₁ _ v₁ B₁ => E n v₁ A₁.U B₁.U ∧ B₁.locs = A₁.locs ++ [] ∧ B₁.cells = A₁.cells + 0 ∧ B₁.slots = A₁.slots + 0) :=
  (law l x t V cd n f z).pays htab hfr (by omega)
end Len
namespace IsL
def yN : MethodName := ⟨"java/lang/String", "isLatin1", "()Z"⟩
abbrev yB : ByteArray := jdk_42_method_154_code
theorem d0 : decode yB 0 = .ok (.getstatic 38, 3) := by decide +kernel
theorem d3 : decode yB 3 = .ok (.ifCond (.eq) 14, 3) := by decide +kernel
theorem d6 : decode yB 6 = .ok (.aload_n 0, 1) := by decide +kernel
theorem d7 : decode yB 7 = .ok (.getfield 15, 3) := by decide +kernel
theorem d10 : decode yB 10 = .ok (.ifCond (.ne) 7, 3) := by decide +kernel
theorem d13 : decode yB 13 = .ok (.iconst 1, 1) := by decide +kernel
theorem d14 : decode yB 14 = .ok (.goto 4, 3) := by decide +kernel
theorem d17 : decode yB 17 = .ok (.iconst 0, 1) := by decide +kernel
theorem d18 : decode yB 18 = .ok (.ireturn, 1) := by decide +kernel
def site : List Cond := [.fieldLink "java/lang/String" 38 "java/lang/String" "COMPACT_STRINGS" "Z", .fieldLink "java/lang/String" 15 "java/lang/String" "coder" "B"]
def tab : Cond := tabOf yN yB 1 (some .boolean) site
def P (x : Addr) (cd z : Int32) (args : Array Value) (s : State) : Prop := args = #[.ref x] ∧ Has x "java/lang/String" "coder" "B" (.int cd) s ∧ (cd = 0 ∨ cd = 1) ∧ StaticIs s "java/lang/String" "COMPACT_STRINGS" "Z" (.int z) ∧ ¬ z = 0
def E (cd : Int32) (r : Option Value) (s u : State) : Prop := XT.PureE (some (.int (1 - cd))) r s u
theorem law (l : Launch) (x : Addr) (cd z : Int32) : Law l yN 1 0 0 0 yB 1 (some .boolean) site (P x cd z) (E cd) [] 0 0 := by
  refine Law.of_walk (plainFor_of_name (by decide +kernel)) (by decide +kernel) (by decide +kernel) (by decide) (fun _ _ h => by rw [h.1]; rfl) (fun _ U U' hal hh h => ⟨h.1, h.2.1.mv hal hh, h.2.2.1, h.2.2.2.1.there hal hh, h.2.2.2.2⟩) (fun r U U' V V' h1 hal h2 h => XT.PureE.mv r U U' V V' h1 hal h2 h) ?_
  intro p e s m args below meth c s₁ X0 hexec hbytes hml hret hlk hnm hown hh0 W hP
  obtain ⟨rfl, hx, hc, s1, hz⟩ := hP
  have c1 : Steps p.tables e below (s₁.setTop (entryFrame m #[.ref x] 1)) (s₁.setTop (mkF m 0 #[.val (.ref x)] [])) := entry rfl
  obtain ⟨T2, X2, q2, st2⟩ := X0.sget hexec hown (wk W (.fieldLink "java/lang/String" 38 "java/lang/String" "COMPACT_STRINGS" "Z")) s1 (fun _ _ h => by rw [hh0]; exact h) (g := (mkF m 0 #[.val (.ref x)] [])) rfl (hb hbytes d0)
  have hh2 := q2.trans hh0
  have c3 : Steps p.tables e below (s₁.setTop (entryFrame m #[.ref x] 1)) (T2.setTop (mkF m 7 #[.val (.ref x)] [.ref x])) := (c1.trans (st2 _ (Steps.refl _))).trans (by
    refine XS.ifNo X2.here hexec rfl (hb hbytes d3) rfl (i0_eq_f hz) ?_
    refine XS.aloadN X2.here hexec rfl (hb hbytes d6) rfl rfl ?_
    exact Steps.refl _)
  obtain ⟨T4, X4, q4, st4⟩ := X2.hget hexec hown (wk W (.fieldLink "java/lang/String" 15 "java/lang/String" "coder" "B")) (hx.mv X2.warmed.alike hh2) (g := (mkF m 7 #[.val (.ref x)] [.ref x])) rfl (rest := []) rfl (hb hbytes d7)
  have c5 : Steps p.tables e below (s₁.setTop (entryFrame m #[.ref x] 1)) (T4.setTop (mkF m 10 #[.val (.ref x)] [.int cd])) := c3.trans (st4 _ (Steps.refl _))
  have c6 : Steps p.tables e below (s₁.setTop (entryFrame m #[.ref x] 1)) (T4.setTop (mkF m 18 #[.val (.ref x)] [.int (1 - cd)])) := by
    rcases hc with rfl | rfl
    · exact c5.trans (by
        refine XS.ifNo X4.here hexec rfl (hb hbytes d10) rfl (i0_ne_f rfl) ?_
        refine iconstV X4.here hexec rfl 1 (hb hbytes d13) (by decide) ?_
        refine XS.goto X4.here hexec rfl (pc0 := 14) rfl (hb hbytes d14) (by decide) rfl ?_
        exact Steps.refl _)
    · exact c5.trans (by
        refine XS.ifYes X4.here hexec rfl (pc0 := 10) rfl (hb hbytes d10) rfl (i0_ne_t (by decide)) (by decide) rfl ?_
        refine iconstV X4.here hexec rfl 0 (hb hbytes d17) (by decide) ?_
        exact Steps.refl _)
  exact ⟨T4, some (.int (1 - cd)), _, _, _, X4, rfl, rfl, rfl, (fun h => by cases h), ⟨rfl, q4.trans hh2⟩, fun fs hl => c6.trans (X4.ireturnOut hexec hret (by rcases hc with rfl | rfl <;> rfl) (Or.inr (Or.inl rfl)) (hb hbytes d18) hl)⟩
end IsL
namespace LChA
def yN : MethodName := ⟨"java/lang/StringLatin1", "charAt", "([BI)C"⟩
abbrev yB : ByteArray := jdk_43_method_2_code
theorem d0 : decode yB 0 = .ok (.iload_n 1, 1) := by decide +kernel
theorem d1 : decode yB 1 = .ok (.aload_n 0, 1) := by decide +kernel
theorem d2 : decode yB 2 = .ok (.arraylength, 1) := by decide +kernel
theorem d3 : decode yB 3 = .ok (.invokestatic 9, 3) := by decide +kernel
theorem d6 : decode yB 6 = .ok (.aload_n 0, 1) := by decide +kernel
theorem d7 : decode yB 7 = .ok (.iload_n 1, 1) := by decide +kernel
theorem d8 : decode yB 8 = .ok (.baload, 1) := by decide +kernel
theorem d9 : decode yB 9 = .ok (.sipush 255, 3) := by decide +kernel
theorem d12 : decode yB 12 = .ok (.iand, 1) := by decide +kernel
theorem d13 : decode yB 13 = .ok (.i2c, 1) := by decide +kernel
theorem d14 : decode yB 14 = .ok (.ireturn, 1) := by decide +kernel
def site : List Cond := [JO.Str_checkIndex.tab] ++ staticW "java/lang/StringLatin1" 9 JO.Str_checkIndex.yN
def tab : Cond := tabOf yN yB 2 (some .char) site
def P (t : Addr) (V : Cell) (i : Nat) (u : Int32) (fm : Value) (args : Array Value) (s : State) : Prop := args = #[.ref t, .int (Int32.ofNat i)] ∧ XT.Arr .byte t V s ∧ V.slots[i]? = some (.int u) ∧ (StaticIs s "jdk/internal/util/Preconditions" "SIOOBE_FORMATTER" "Ljava/util/function/BiFunction;" fm ∧ fm.isRef = true)
def E (u : Int32) (r : Option Value) (s w : State) : Prop := XT.PureE (some (.int (chr8 u))) r s w
theorem law (l : Launch) (t : Addr) (V : Cell) (i : Nat) (u : Int32) (fm : Value) : Law l yN 2 2 2 27 yB 2 (some .char) site (P t V i u fm) (E u) [] 0 0 := by
  refine Law.of_walk (plainFor_of_name (by decide +kernel)) (by decide +kernel) (by decide +kernel) (by decide) (fun _ _ h => by rw [h.1]; rfl) (fun _ U U' hal hh h => ⟨h.1, h.2.1.mv hal hh, h.2.2.1, h.2.2.2.1.there hal hh, h.2.2.2.2⟩) (fun r U U' V V' h1 hal h2 h => XT.PureE.mv r U U' V V' h1 hal h2 h) ?_
  intro p e s m args below meth c s₁ X0 hexec hbytes hml hret hlk hnm hown hh0 W hP
  obtain ⟨rfl, hV, hu, s1, rf⟩ := hP
  have v31 := hV.2.2.2
  have hi : i < V.slots.size := (Array.getElem?_eq_some_iff.mp hu).1
  have c1 : Steps p.tables e below (s₁.setTop (entryFrame m #[.ref t, .int (Int32.ofNat i)] 2)) (s₁.setTop (mkF m 0 #[.val (.ref t), .val (.int (Int32.ofNat i))] [])) := entry rfl
  have c2 : Steps p.tables e below (s₁.setTop (entryFrame m #[.ref t, .int (Int32.ofNat i)] 2)) (s₁.setTop (mkF m 3 #[.val (.ref t), .val (.int (Int32.ofNat i))] [.int (Int32.ofNat V.slots.size), .int (Int32.ofNat i)])) := c1.trans (by
    refine XS.iloadN X0.here hexec rfl (hb hbytes d0) rfl ?_
    refine XS.aloadN X0.here hexec rfl (hb hbytes d1) rfl rfl ?_
    refine X0.alen hexec (hV.mv X0.warmed.alike hh0) rfl rfl (hb hbytes d2) ?_
    exact Steps.refl _)
  obtain ⟨v3, T3, X3, E3, g3⟩ := X0.callS hexec (JO.Str_checkIndex.law l (Int32.ofNat i) (Int32.ofNat V.slots.size) fm) hown (wks W (staticW "java/lang/StringLatin1" 9 JO.Str_checkIndex.yN)) (wk W JO.Str_checkIndex.tab) (W := 0) (Nat.le_of_ble_eq_true rfl) (Nat.le_of_ble_eq_true rfl) (Nat.le_refl _) (Nat.le_refl _) (g := (mkF m 3 #[.val (.ref t), .val (.int (Int32.ofNat i))] [.int (Int32.ofNat V.slots.size), .int (Int32.ofNat i)])) rfl (by rw [hml]; rfl) c2 (argsL := [.int (Int32.ofNat i), .int (Int32.ofNat V.slots.size)]) (rest := []) rfl rfl (by show 2 * 0 + 0 ≤ _; decide) (hb hbytes d3) (⟨rfl, rf, s1.there X0.warmed.alike hh0, Int32.ofNat_not_neg (by omega), lt32 v31 hi⟩)
  obtain ⟨rfl, q3⟩ := E3
  have hh3 := q3.trans hh0
  have c4 : Steps p.tables e below (s₁.setTop (entryFrame m #[.ref t, .int (Int32.ofNat i)] 2)) (T3.setTop (mkF m 14 #[.val (.ref t), .val (.int (Int32.ofNat i))] [.int (chr8 u)])) := Steps.trans g3 (by
    refine XS.aloadN X3.here hexec rfl (hb hbytes d6) rfl rfl ?_
    refine XS.iloadN X3.here hexec rfl (hb hbytes d7) rfl ?_
    refine X3.aget hexec (hV.mv X3.warmed.alike hh3) rfl hu rfl rfl (hb hbytes d8) ?_
    refine sipushV X3.here hexec rfl 255 (hb hbytes d9) (by decide) ?_
    refine XS.iand X3.here hexec rfl (hb hbytes d12) rfl ?_
    refine i2c X3.here hexec rfl (hb hbytes d13) rfl ?_
    exact Steps.refl _)
  exact ⟨T3, some (.int (chr8 u)), _, _, _, X3, rfl, rfl, rfl, (fun h => by cases h), ⟨rfl, hh3⟩, fun fs hl => c4.trans (X3.ireturnOut hexec hret (narrow_c _) (Or.inr (Or.inr (Or.inr (Or.inl rfl)))) (hb hbytes d14) hl)⟩
end LChA
end StrChars
namespace StrChars.Road
open Jvm Sem ClassFile Op Lib Jvm.Stand Jvm.Free Jvm.Free.XT
open Jvm.Lib.Cold (StaticIs)
theorem consq {a : Array Value} {s : State} {c : Jvm.Cond} {L : List Jvm.Cond} (h0 : c.before a s = true) (h : ∀ w ∈ L, w.before a s = true) : ∀ w ∈ c :: L, w.before a s = true := fun w hw => (List.mem_cons.mp hw).elim (fun e => e ▸ h0) (h w)
/-- the words of String.length(), either coding -/
abbrev wordsLen : List Jvm.Cond := [.code Len.yN Len.yB 1 (some .int), .initialized ST, .fieldLink ST 9 ST "value" "[B", .fieldLink ST 38 ST "COMPACT_STRINGS" "Z", .fieldLink ST 15 ST "coder" "B", .code Cdr.yN Cdr.yB 1 (some .byte), .methodLink ST 335 Cdr.yN, .declares Cdr.yN, .selects ST Cdr.yN Cdr.yN, .instanceMethod Cdr.yN]
theorem tabLen_of {a : Array Value} {s : State} (h : ∀ w ∈ wordsLen, w.before a s = true) : Len.tab.before a s = true := by
  have hc : Cdr.tab.before a s = true := unparts (wk h (.code Cdr.yN Cdr.yB 1 (some .byte))) (wks h (.initialized Cdr.yN.cls :: Cdr.site))
  have q := consq hc h
  exact unparts (wk q (.code Len.yN Len.yB 1 (some .int))) (wks q (.initialized Len.yN.cls :: Len.site))
theorem movedLen {Z s : State} {a0 args : Array Value} (hZ : Z.Warmed39 s.vm) (hw : ∀ d ∈ wordsLen, d.before a0 Z = true) : ∀ d ∈ wordsLen, d.before args s = true := fun d hd => by
  have q := hw d hd
  have t : ∀ d ∈ wordsLen, d = .arrayClass .byte ∨ (d.onTables && d.keepsFace) = true := by decide +kernel
  rcases t d hd with rfl | t
  · exact RoadKit.mvA hZ q
  · exact RoadKit.mv hZ q t
/-- the bytes of the chars cs, low before high -/
def wideBytes : List Int32 → List Value
  | [] => []
  | c :: cs => .int (lo8 c) :: .int (hi8 c) :: wideBytes cs
theorem wide_lo (d : Value) : ∀ (cs : List Int32) (j : Nat), j < cs.length → (wideBytes cs).getD (2 * j) d = .int (lo8 (cs.getD j 0))
  | [], j, h => absurd h (Nat.not_lt_zero j)
  | c :: cs, 0, _ => rfl
  | c :: cs, j + 1, h => by
    have q := wide_lo d cs j (by simpa using h)
    rw [show 2 * (j + 1) = 2 * j + 1 + 1 from by omega]
    simpa [wideBytes] using q
theorem wide_hi (d : Value) : ∀ (cs : List Int32) (j : Nat), j < cs.length → (wideBytes cs).getD (2 * j + 1) d = .int (hi8 (cs.getD j 0))
  | [], j, h => absurd h (Nat.not_lt_zero j)
  | c :: cs, 0, _ => rfl
  | c :: cs, j + 1, h => by
    have q := wide_hi d cs j (by simpa using h)
    rw [show 2 * (j + 1) + 1 = 2 * j + 1 + 1 + 1 from by omega]
    simpa [wideBytes] using q
theorem low_at (d : Value) (cs : List Int32) (j : Nat) (h : j < cs.length) : (cs.map fun c => Value.int (lo8 c)).getD j d = .int (lo8 (cs.getD j 0)) := by
  simp [List.getD_eq_getElem?_getD, h]
/-- an array of N2 bytes vs codes the chars cs by the coder cd -/
def CodA (cs : List Int32) (cd N2 : Int32) (vs : List Value) : Prop := (cd = 0 ∧ N2 = Int32.ofNat cs.length ∧ vs = (cs.map fun c => Value.int (lo8 c)) ∧ ∀ c ∈ cs, ¬ 255 < c) ∨ (cd = 1 ∧ N2 = Int32.ofNat (2 * cs.length) ∧ vs = wideBytes cs ∧ ∃ c ∈ cs, 255 < c)
theorem CodA.cod {cs : List Int32} {cd N2 : Int32} {vs : List Value} {V : Cell} (h : CodA cs cd N2 vs) (hn : 2 * cs.length < 2 ^ 31) (hs : V.slots.size = N2.toNatClampNeg) (hv : RoadKit.Has V vs (.int 0)) : Cod cd cs.length (fun j => cs.getD j 0) V := by
  rcases h with ⟨rfl, rfl, rfl, h⟩ | ⟨rfl, rfl, rfl, c, hc, hw⟩
  · rw [n32 (by omega)] at hs
    exact Or.inl ⟨rfl, hs, fun j hj => ⟨by rw [hv j (by omega), low_at _ _ _ hj], by
      have e : cs.getD j 0 = cs[j] := by simp [List.getD_eq_getElem?_getD, hj]
      show ¬ 255 < cs.getD j 0
      rw [e]; exact h _ (List.getElem_mem _)⟩⟩
  · rw [n32 (by omega)] at hs
    obtain ⟨j, hj, rfl⟩ := List.getElem_of_mem hc
    exact Or.inr ⟨rfl, hs, fun j hj => ⟨by rw [hv _ (by omega), wide_lo _ _ _ hj], by rw [hv _ (by omega), wide_hi _ _ _ hj]⟩, j, hj, by
      have e : cs.getD j 0 = cs[j] := by simp [List.getD_eq_getElem?_getD, hj]
      show 255 < cs.getD j 0
      rw [e]; exact hw⟩
/-- an object of exactly java/lang/String, its two fields found: as the laws ask it -/
theorem strObj {Z U : State} {a0 : Array Value} {kI : Nat} (wi : (Jvm.Cond.instantiable ST kI).before a0 Z = true) (al : Z.vm.Alike U.vm) {x : Addr} {v0 c0 : Value} (E : RoadKit.Exa Z U.heap x ST) (V : RoadKit.Fld Z U.heap x ST "value" "[B" v0) (C : RoadKit.Fld Z U.heap x ST "coder" "B" c0) :
    ∃ (D : Cell) (fV fC : Field), Blank ST x D U ∧ Found ST "value" "[B" fV U ∧ Found ST "coder" "B" fC U ∧ D.slots[fV.slot]? = some v0 ∧ D.slots[fC.slot]? = some c0 ∧ RoadKit.slotOf Z ST "value" "[B" = fV.slot ∧ RoadKit.slotOf Z ST "coder" "B" = fC.slot := by
  obtain ⟨D, cfV, kV, iV, fV, hD, gV, stV, knV, obV, asV, slV⟩ := V
  obtain ⟨D', cfC, kC, iC, fC, hD', gC, stC, -, -, asC, slC⟩ := C
  cases hD.symm.trans hD'
  obtain ⟨D2, kD, e1, e2, e3, e4, e5⟩ := E
  cases hD.symm.trans e1
  obtain ⟨c2, k2, i1, i2, i3, -⟩ := Cond.instantiable_spec wi
  cases e2.symm.trans i1
  cases e3.symm.trans i2
  obtain ⟨kU, u1, u2⟩ := al.2.2 _ _ e3
  exact ⟨D, fV, fC, ⟨hD, ⟨knV, fun q hq => by rw [hq] at obV; cases obV⟩, by rw [al.findClass]; exact e2, kU, u1, by rw [u2]; exact i3, by rw [u2]; exact e5 i3⟩, ⟨SBG.found_only al ⟨cfV, kV, iV, gV⟩, stV⟩, ⟨SBG.found_only al ⟨cfC, kC, iC, gC⟩, stC⟩, slV, slC, by simp [RoadKit.slotOf, gV], by simp [RoadKit.slotOf, gC]⟩
theorem sta_is {Z U : State} (al : Z.vm.Alike U.vm) {C n d : String} {v : Value} (S : RoadKit.Sta Z U.heap C n d v) : StaticIs U C n d v := by
  obtain ⟨cfS, iS, kS, fS, st, cS, t1, t2, t3, t4, t5, t6, t7⟩ := S
  exact StaticIs.there (s := { Z with heap := U.heap }) ⟨cfS, iS, kS, fS, st, cS, t1, t2, t3, t4, t5, (fun q => by rw [q] at t6; cases t6), t7⟩ al rfl
/-- **length() OF SUCH A STRING** -/
theorem lenW {p : Program} {l : Launch} {e : Env} {R : Room} {s : State} {args : Array Value} {below : List Frame} {len W : Nat} {Z : State} {a0 : Array Value} {h : Heap} (hZ : Z.Warmed39 s.vm) (hw : ∀ d ∈ wordsLen, d.before a0 Z = true) {kI : Nat} (wi : (Jvm.Cond.instantiable ST kI).before a0 Z = true)
    {x t : Addr} {kb : ClassId} {cs : List Int32} {cd N2 z : Int32} {vs : List Value} (E : RoadKit.Exa Z h x ST) (V : RoadKit.Fld Z h x ST "value" "[B" (.ref t)) (C : RoadKit.Fld Z h x ST "coder" "B" (.int cd)) (K : RoadKit.Arv Z h t kb .byte N2 vs (.int 0)) (hc : CodA cs cd N2 vs) (hb : ∀ c ∈ cs, ¬ c < 0 ∧ ¬ (65535 : Int32) < c)
    (S : RoadKit.Sta Z h ST "COMPACT_STRINGS" "Z" (.int z)) (hz : ¬ z = 0) (l2 : cs.length ≤ 4000) (hfr : 2 ≤ R.frames) (hlo : W + 25 ≤ R.locals) :
    Back l R p e below s args (⟨"java/lang/String", "length", "()I"⟩ : MethodName) len W (fun P a => a = #[.ref x] ∧ P.U.heap = h ∧ P.cells + 0 ≤ R.cells ∧ P.slots + 0 ≤ R.slots)
      (fun P _ v B => ∃ L, (v = some (.int (Int32.ofNat cs.length)) ∧ L = [] ∧ B.U.heap = h) ∧ B.locs = P.locs ++ L ∧ B.cells = P.cells + 0 ∧ B.slots = P.slots + 0) := by
  obtain ⟨A, K1, K2, K3, K4, K5, K6⟩ := K
  have hcod := hc.cod (by omega) K3 K5
  intro m meth c P g ig mk a X hg hsize hdg hW hn hp'
  obtain ⟨rfl, rfl, r1, r2⟩ := hp'
  have al : Z.vm.Alike P.U.vm := hZ.alike.trans X.warmed.alike
  obtain ⟨D, fV, fC, hB, F1, F2, g1, g2, -, -⟩ := strObj wi al E V C
  have hx : Txt x t A cd cs.length (fun j => cs.getD j 0) P.U := ⟨⟨_, hB.2.2.1, D, hB.1, rfl, by cases q : D.vm <;> first | rfl | exact absurd q (hB.2.1.2 _)⟩, Has.of hB F1 g1, Has.of hB F2 g2, ⟨K1.1, State.isArrayOf_alike al K1.2.1, K1.2.2, by rcases hcod with ⟨-, q, -⟩ | ⟨-, q, -⟩ <;> omega⟩, hcod, fun j hj => by
    have e : cs.getD j 0 = cs[j] := by simp [List.getD_eq_getElem?_getD, hj]
    show ¬ cs.getD j 0 < 0 ∧ ¬ 65535 < cs.getD j 0
    rw [e]; exact hb _ (List.getElem_mem _)⟩
  obtain ⟨v, B, X', ⟨⟨hv, hh⟩, hl, hk, hs⟩, st⟩ := Len.pays x t A cd cs.length (fun j => cs.getD j 0) z (tabLen_of (movedLen hZ hw)) hfr hlo m meth c P g ig mk _ X hg hsize hdg hW hn ⟨r1, r2, rfl, hx, sta_is al S, hz⟩
  exact ⟨v, B, X', ⟨[], ⟨hv, rfl, hh⟩, hl, hk, hs⟩, st⟩
end StrChars.Road
namespace StrChars
open Jvm Sem ClassFile Op Lib Jvm.Stand Jvm.Free.XT Jvm.Free.ALB Jvm.Free.JM Jvm.Free
open Jvm.Lib.Cold (StaticIs)
namespace Emp
def yN : MethodName := ⟨"java/lang/String", "isEmpty", "()Z"⟩
abbrev yB : ByteArray := jdk_42_method_55_code
theorem d0 : decode yB 0 = .ok (.aload_n 0, 1) := by decide +kernel
theorem d1 : decode yB 1 = .ok (.getfield 9, 3) := by decide +kernel
theorem d4 : decode yB 4 = .ok (.arraylength, 1) := by decide +kernel
theorem d5 : decode yB 5 = .ok (.ifCond (.ne) 7, 3) := by decide +kernel
theorem d8 : decode yB 8 = .ok (.iconst 1, 1) := by decide +kernel
theorem d9 : decode yB 9 = .ok (.goto 4, 3) := by decide +kernel
theorem d12 : decode yB 12 = .ok (.iconst 0, 1) := by decide +kernel
theorem d13 : decode yB 13 = .ok (.ireturn, 1) := by decide +kernel
def site : List Cond := [.fieldLink "java/lang/String" 9 "java/lang/String" "value" "[B"]
def tab : Cond := tabOf yN yB 1 (some .boolean) site
def P (x t : Addr) (V : Cell) (cd : Int32) (n : Nat) (f : Nat → Int32) (args : Array Value) (s : State) : Prop := args = #[.ref x] ∧ Txt x t V cd n f s
def E (n : Nat) (r : Option Value) (s u : State) : Prop := XT.PureE (some (.int (if n = 0 then 1 else 0))) r s u
/-- isEmpty() of a String of n chars -/
theorem law (l : Launch) (x t : Addr) (V : Cell) (cd : Int32) (n : Nat) (f : Nat → Int32) : Law l yN 1 0 0 0 yB 1 (some .boolean) site (P x t V cd n f) (E n) [] 0 0 := by
  refine Law.of_walk (plainFor_of_name (by decide +kernel)) (by decide +kernel) (by decide +kernel) (by decide) (fun _ _ h => by rw [h.1]; rfl) (fun _ U U' hal hh h => ⟨h.1, h.2.mv hal hh⟩) (fun r U U' V V' h1 hal h2 h => XT.PureE.mv r U U' V V' h1 hal h2 h) ?_
  intro p e s m args below meth c s₁ X0 hexec hbytes hml hret hlk hnm hown hh0 W hP
  obtain ⟨rfl, hx⟩ := hP
  have v31 := hx.2.2.2.1.2.2.2
  have c1 : Steps p.tables e below (s₁.setTop (entryFrame m #[.ref x] 1)) (s₁.setTop (mkF m 1 #[.val (.ref x)] [.ref x])) := Steps.trans (entry rfl) (by
    show Steps p.tables e below (s₁.setTop (mkF m 0 #[.val (.ref x)] [])) _
    refine XS.aloadN X0.here hexec rfl (hb hbytes d0) rfl rfl ?_
    exact Steps.refl _)
  obtain ⟨T2, X2, q2, st2⟩ := X0.hget hexec hown (wk W (.fieldLink "java/lang/String" 9 "java/lang/String" "value" "[B")) (hx.mv X0.warmed.alike hh0).2.1 (g := (mkF m 1 #[.val (.ref x)] [.ref x])) rfl (rest := []) rfl (hb hbytes d1)
  have hh2 := q2.trans hh0
  have hx2 := hx.mv X2.warmed.alike hh2
  have c3 : Steps p.tables e below (s₁.setTop (entryFrame m #[.ref x] 1)) (T2.setTop (mkF m 5 #[.val (.ref x)] [.int (Int32.ofNat V.slots.size)])) := (c1.trans (st2 _ (Steps.refl _))).trans (by
    refine X2.alen hexec hx2.2.2.2.1 rfl rfl (hb hbytes d4) ?_
    exact Steps.refl _)
  have hz : V.slots.size = 0 ↔ n = 0 := by
    rcases hx.2.2.2.2.1 with ⟨-, q, -⟩ | ⟨-, q, -⟩ <;> omega
  by_cases h0 : n = 0
  · have c4 : Steps p.tables e below (s₁.setTop (entryFrame m #[.ref x] 1)) (T2.setTop (mkF m 13 #[.val (.ref x)] [.int 1])) := c3.trans (by
      refine XS.ifNo X2.here hexec rfl (hb hbytes d5) rfl (i0_ne_f (by rw [hz.mpr h0]; rfl)) ?_
      refine iconstV X2.here hexec rfl 1 (hb hbytes d8) (by decide) ?_
      refine XS.goto X2.here hexec rfl (pc0 := 9) rfl (hb hbytes d9) (by decide) rfl ?_
      exact Steps.refl _)
    exact ⟨T2, some (.int 1), _, _, _, X2, rfl, rfl, rfl, (fun h => by cases h), ⟨by rw [if_pos h0], hh2⟩, fun fs hl => c4.trans (X2.ireturnOut hexec hret rfl (Or.inr (Or.inl rfl)) (hb hbytes d13) hl)⟩
  · have c4 : Steps p.tables e below (s₁.setTop (entryFrame m #[.ref x] 1)) (T2.setTop (mkF m 13 #[.val (.ref x)] [.int 0])) := c3.trans (by
      refine XS.ifYes X2.here hexec rfl (pc0 := 5) rfl (hb hbytes d5) rfl (i0_ne_t (nz32 v31 (by omega))) (by decide) rfl ?_
      refine iconstV X2.here hexec rfl 0 (hb hbytes d12) (by decide) ?_
      exact Steps.refl _)
    exact ⟨T2, some (.int 0), _, _, _, X2, rfl, rfl, rfl, (fun h => by cases h), ⟨by rw [if_neg h0], hh2⟩, fun fs hl => c4.trans (X2.ireturnOut hexec hret rfl (Or.inr (Or.inl rfl)) (hb hbytes d13) hl)⟩
theorem pays {l : Launch} {R : Room} {p : Program} {e : Env} {below : List Frame} {s : State} {sargs : Array Value} {len W : Nat} (x t : Addr) (V : Cell) (cd : Int32) (n : Nat) (f : Nat → Int32) (htab : tab.before sargs s = true) (hfr : 1 ≤ R.frames) (hlo : W + 12 ≤ R.locals) :
    Back l R p e below s sargs yN len W (fun A₁ a₁ => A₁.cells + 0 ≤ R.cells ∧ A₁.slots + 0 ≤ R.slots ∧ P x t V cd n f a₁ A₁.U) (fun A₁ _ v₁ B₁ => E n v₁ A₁.U B₁.U ∧ B₁.locs = A₁.locs ++ [] ∧ B₁.cells = A₁.cells + 0 ∧ B₁.slots = A₁.slots + 0) :=
  (law l x t V cd n f).pays htab hfr (by omega)
end Emp
end StrChars
namespace StrChars.Road
open Jvm Sem ClassFile Op Lib Jvm.Stand Jvm.Free Jvm.Free.XT
open Jvm.Lib.Cold (StaticIs)
/-- the words of String.isEmpty() -/
abbrev wordsEmp : List Jvm.Cond := [.code Emp.yN Emp.yB 1 (some .boolean), .initialized ST, .fieldLink ST 9 ST "value" "[B"]
theorem tabEmp_of {a : Array Value} {s : State} (h : ∀ w ∈ wordsEmp, w.before a s = true) : Emp.tab.before a s = true := unparts (wk h (.code Emp.yN Emp.yB 1 (some .boolean))) (wks h (.initialized Emp.yN.cls :: Emp.site))
theorem movedEmp {Z s : State} {a0 args : Array Value} (hZ : Z.Warmed39 s.vm) (hw : ∀ d ∈ wordsEmp, d.before a0 Z = true) : ∀ d ∈ wordsEmp, d.before args s = true := fun d hd => by
  have t : ∀ d ∈ wordsEmp, (d.onTables && d.keepsFace) = true := by decide +kernel
  exact RoadKit.mv hZ (hw d hd) (t d hd)
/-- the road's facts of a String, as the laws ask it -/
theorem txt_of {Z U : State} {a0 : Array Value} {kI : Nat} (wi : (Jvm.Cond.instantiable ST kI).before a0 Z = true) (al : Z.vm.Alike U.vm) {x t : Addr} {kb : ClassId} {cs : List Int32} {cd N2 : Int32} {vs : List Value} (E : RoadKit.Exa Z U.heap x ST) (V : RoadKit.Fld Z U.heap x ST "value" "[B" (.ref t)) (C : RoadKit.Fld Z U.heap x ST "coder" "B" (.int cd)) (K : RoadKit.Arv Z U.heap t kb .byte N2 vs (.int 0)) (hc : CodA cs cd N2 vs) (hb : ∀ c ∈ cs, ¬ c < 0 ∧ ¬ (65535 : Int32) < c) (l2 : cs.length ≤ 4000) :
    ∃ A, Txt x t A cd cs.length (fun j => cs.getD j 0) U := by
  obtain ⟨A, K1, K2, K3, K4, K5, K6⟩ := K
  have hcod := hc.cod (by omega) K3 K5
  obtain ⟨D, fV, fC, hB, F1, F2, g1, g2, -, -⟩ := strObj wi al E V C
  exact ⟨A, ⟨_, hB.2.2.1, D, hB.1, rfl, by cases q : D.vm <;> first | rfl | exact absurd q (hB.2.1.2 _)⟩, Has.of hB F1 g1, Has.of hB F2 g2, ⟨K1.1, State.isArrayOf_alike al K1.2.1, K1.2.2, by rcases hcod with ⟨-, q, -⟩ | ⟨-, q, -⟩ <;> omega⟩, hcod, fun j hj => by
    have e : cs.getD j 0 = cs[j] := by simp [List.getD_eq_getElem?_getD, hj]
    show ¬ cs.getD j 0 < 0 ∧ ¬ 65535 < cs.getD j 0
    rw [e]; exact hb _ (List.getElem_mem _)⟩
/-- **isEmpty() OF SUCH A STRING** -/
theorem empW {p : Program} {l : Launch} {e : Env} {R : Room} {s : State} {args : Array Value} {below : List Frame} {len W : Nat} {Z : State} {a0 : Array Value} {h : Heap} (hZ : Z.Warmed39 s.vm) (hw : ∀ d ∈ wordsEmp, d.before a0 Z = true) {kI : Nat} (wi : (Jvm.Cond.instantiable ST kI).before a0 Z = true)
    {x t : Addr} {kb : ClassId} {cs : List Int32} {cd N2 : Int32} {vs : List Value} (E : RoadKit.Exa Z h x ST) (V : RoadKit.Fld Z h x ST "value" "[B" (.ref t)) (C : RoadKit.Fld Z h x ST "coder" "B" (.int cd)) (K : RoadKit.Arv Z h t kb .byte N2 vs (.int 0)) (hc : CodA cs cd N2 vs) (hb : ∀ c ∈ cs, ¬ c < 0 ∧ ¬ (65535 : Int32) < c) (l2 : cs.length ≤ 4000) (hfr : 1 ≤ R.frames) (hlo : W + 12 ≤ R.locals) :
    Back l R p e below s args (⟨"java/lang/String", "isEmpty", "()Z"⟩ : MethodName) len W (fun P a => a = #[.ref x] ∧ P.U.heap = h ∧ P.cells + 0 ≤ R.cells ∧ P.slots + 0 ≤ R.slots)
      (fun P _ v B => ∃ L, (v = some (.int (if cs.length = 0 then 1 else 0)) ∧ L = [] ∧ B.U.heap = h) ∧ B.locs = P.locs ++ L ∧ B.cells = P.cells + 0 ∧ B.slots = P.slots + 0) := by
  intro m meth c P g ig mk a X hg hsize hdg hW hn hp'
  obtain ⟨rfl, rfl, r1, r2⟩ := hp'
  have al : Z.vm.Alike P.U.vm := hZ.alike.trans X.warmed.alike
  obtain ⟨A, hx⟩ := txt_of wi al E V C K hc hb l2
  obtain ⟨v, B, X', ⟨⟨hv, hh⟩, hl, hk, hs⟩, st⟩ := Emp.pays x t A cd cs.length (fun j => cs.getD j 0) (tabEmp_of (movedEmp hZ hw)) hfr hlo m meth c P g ig mk _ X hg hsize hdg hW hn ⟨r1, r2, rfl, hx⟩
  exact ⟨v, B, X', ⟨[], ⟨hv, rfl, hh⟩, hl, hk, hs⟩, st⟩
end StrChars.Road
namespace StrChars
open Jvm Sem ClassFile Op Lib Jvm.Stand Jvm.Free.XT Jvm.Free.ALB Jvm.Free.JM Jvm.Free
open Jvm.Lib.Cold (StaticIs)
namespace ChN
def yN : MethodName := ⟨"java/lang/String", "charAt", "(I)C"⟩
abbrev yB : ByteArray := jdk_42_method_56_code
theorem d0 : decode yB 0 = .ok (.aload_n 0, 1) := by decide +kernel
theorem d1 : decode yB 1 = .ok (.invokevirtual 492, 3) := by decide +kernel
theorem d4 : decode yB 4 = .ok (.ifCond (.eq) 12, 3) := by decide +kernel
theorem d7 : decode yB 7 = .ok (.aload_n 0, 1) := by decide +kernel
theorem d8 : decode yB 8 = .ok (.getfield 9, 3) := by decide +kernel
theorem d11 : decode yB 11 = .ok (.iload_n 1, 1) := by decide +kernel
theorem d12 : decode yB 12 = .ok (.invokestatic 495, 3) := by decide +kernel
theorem d15 : decode yB 15 = .ok (.ireturn, 1) := by decide +kernel
def site : List Cond := [.fieldLink "java/lang/String" 9 "java/lang/String" "value" "[B", IsL.tab, LChA.tab] ++ virtW "java/lang/String" 492 "java/lang/String" IsL.yN IsL.yN ++ staticW "java/lang/String" 495 LChA.yN
def tab : Cond := tabOf yN yB 2 (some .char) site
def P (x t : Addr) (V : Cell) (n : Nat) (f : Nat → Int32) (z : Int32) (fm : Value) (i : Nat) (args : Array Value) (s : State) : Prop := args = #[.ref x, .int (Int32.ofNat i)] ∧ Txt x t V 0 n f s ∧ i < n ∧ StaticIs s "java/lang/String" "COMPACT_STRINGS" "Z" (.int z) ∧ ¬ z = 0 ∧ StaticIs s "jdk/internal/util/Preconditions" "SIOOBE_FORMATTER" "Ljava/util/function/BiFunction;" fm ∧ fm.isRef = true
def E (f : Nat → Int32) (i : Nat) (r : Option Value) (s u : State) : Prop := XT.PureE (some (.int (f i))) r s u
/-- charAt(i) of a Latin-1 String of n chars, i < n: f i -/
theorem law (l : Launch) (x t : Addr) (V : Cell) (n : Nat) (f : Nat → Int32) (z : Int32) (fm : Value) (i : Nat) : Law l yN 2 1 3 40 yB 2 (some .char) site (P x t V n f z fm i) (E f i) [] 0 0 := by
  refine Law.of_walk (plainFor_of_name (by decide +kernel)) (by decide +kernel) (by decide +kernel) (by decide) (fun _ _ h => by rw [h.1]; rfl) (fun _ U U' hal hh h => ⟨h.1, h.2.1.mv hal hh, h.2.2.1, h.2.2.2.1.there hal hh, h.2.2.2.2.1, h.2.2.2.2.2.1.there hal hh, h.2.2.2.2.2.2⟩) (fun r U U' V V' h1 hal h2 h => XT.PureE.mv r U U' V V' h1 hal h2 h) ?_
  intro p e s m args below meth c s₁ X0 hexec hbytes hml hret hlk hnm hown hh0 W hP
  obtain ⟨rfl, hx, hi, s1, hz, s3, rf⟩ := hP
  have v31 := hx.2.2.2.1.2.2.2
  have hr := hx.2.2.2.2.2 i hi
  have hx0 := hx.mv X0.warmed.alike hh0
  have c1 : Steps p.tables e below (s₁.setTop (entryFrame m #[.ref x, .int (Int32.ofNat i)] 2)) (s₁.setTop (mkF m 1 #[.val (.ref x), .val (.int (Int32.ofNat i))] [.ref x])) := Steps.trans (entry rfl) (by
    show Steps p.tables e below (s₁.setTop (mkF m 0 #[.val (.ref x), .val (.int (Int32.ofNat i))] [])) _
    refine XS.aloadN X0.here hexec rfl (hb hbytes d0) rfl rfl ?_
    exact Steps.refl _)
  obtain ⟨v2, T2, X2, E2, g2⟩ := X0.callV hexec (IsL.law l x 0 z) hown (wks W (virtW "java/lang/String" 492 "java/lang/String" IsL.yN IsL.yN)) rfl (by decide) (wk W IsL.tab) (W := 0) (Nat.le_of_ble_eq_true rfl) (Nat.le_of_ble_eq_true rfl) (Nat.le_refl _) (Nat.le_refl _) (hx0.1.fc X0.warmed.alike) hx0.1.is (g := (mkF m 1 #[.val (.ref x), .val (.int (Int32.ofNat i))] [.ref x])) rfl (by rw [hml]; rfl) c1 (argsL := []) (rest := []) rfl rfl (by show 2 * 0 + 0 ≤ _; decide) (hb hbytes d1) (⟨rfl, hx0.2.2.1, hx.2.2.2.2.1.cd, s1.there X0.warmed.alike hh0, hz⟩)
  obtain ⟨rfl, q2⟩ := E2
  have hh2 := q2.trans hh0
  have hx2 := hx.mv X2.warmed.alike hh2
  obtain ⟨-, k1, k2⟩ | ⟨k0, -⟩ := hx.2.2.2.2.1
  · have c3 : Steps p.tables e below (s₁.setTop (entryFrame m #[.ref x, .int (Int32.ofNat i)] 2)) (T2.setTop (mkF m 8 #[.val (.ref x), .val (.int (Int32.ofNat i))] [.ref x])) := Steps.trans g2 (by
      refine XS.ifNo X2.here hexec rfl (hb hbytes d4) rfl (i0_eq_f (by decide)) ?_
      refine XS.aloadN X2.here hexec rfl (hb hbytes d7) rfl rfl ?_
      exact Steps.refl _)
    obtain ⟨T4, X4, q4, st4⟩ := X2.hget hexec hown (wk W (.fieldLink "java/lang/String" 9 "java/lang/String" "value" "[B")) hx2.2.1 (g := (mkF m 8 #[.val (.ref x), .val (.int (Int32.ofNat i))] [.ref x])) rfl (rest := []) rfl (hb hbytes d8)
    have hh4 := q4.trans hh2
    have c5 : Steps p.tables e below (s₁.setTop (entryFrame m #[.ref x, .int (Int32.ofNat i)] 2)) (T4.setTop (mkF m 12 #[.val (.ref x), .val (.int (Int32.ofNat i))] [.int (Int32.ofNat i), .ref t])) := (c3.trans (st4 _ (Steps.refl _))).trans (by
      refine XS.iloadN X4.here hexec rfl (hb hbytes d11) rfl ?_
      exact Steps.refl _)
    obtain ⟨v6, T6, X6, E6, g6⟩ := X4.callS hexec (LChA.law l t V i (lo8 (f i)) fm) hown (wks W (staticW "java/lang/String" 495 LChA.yN)) (wk W LChA.tab) (W := 0) (Nat.le_of_ble_eq_true rfl) (Nat.le_of_ble_eq_true rfl) (Nat.le_refl _) (Nat.le_refl _) (g := (mkF m 12 #[.val (.ref x), .val (.int (Int32.ofNat i))] [.int (Int32.ofNat i), .ref t])) rfl (by rw [hml]; rfl) c5 (argsL := [.ref t, .int (Int32.ofNat i)]) (rest := []) rfl rfl (by show 2 * 0 + 0 ≤ _; decide) (hb hbytes d12) (⟨rfl, hx.2.2.2.1.mv X4.warmed.alike hh4, (k2 i hi).1, s3.there X4.warmed.alike hh4, rf⟩)
    obtain ⟨rfl, q6⟩ := E6
    rw [chr8_lo8 hr.1 (k2 i hi).2] at g6
    exact ⟨T6, some (.int (f i)), _, _, _, X6, rfl, rfl, rfl, (fun h => by cases h), ⟨rfl, q6.trans hh4⟩, fun fs hl => Steps.trans g6 (X6.ireturnOut hexec hret (narrow_ch hr.1 hr.2) (Or.inr (Or.inr (Or.inr (Or.inl rfl)))) (hb hbytes d15) hl)⟩
  · exact absurd k0 (by decide)
theorem pays {l : Launch} {R : Room} {p : Program} {e : Env} {below : List Frame} {s : State} {sargs : Array Value} {len W : Nat} (x t : Addr) (V : Cell) (n : Nat) (f : Nat → Int32) (z : Int32) (fm : Value) (i : Nat) (htab : tab.before sargs s = true) (hfr : 4 ≤ R.frames) (hlo : W + 53 ≤ R.locals) :
    Back l R p e below s sargs yN len W (fun A₁ a₁ => A₁.cells + 0 ≤ R.cells ∧ A₁.slots + 0 ≤ R.slots ∧ P x t V n f z fm i a₁ A₁.U) (fun A₁ _ v₁ B₁ => E f i v₁ A₁.U B₁.U ∧ B₁.locs = A₁.locs ++ [] ∧ B₁.cells = A₁.cells + 0 ∧ B₁.slots = A₁.slots + 0) :=
  (law l x t V n f z fm i).pays htab hfr (by omega)
end ChN
end StrChars
namespace StrChars.Road
open Jvm Sem ClassFile Op Lib Jvm.Stand Jvm.Free Jvm.Free.XT
open Jvm.Lib.Cold (StaticIs)
/-- the words of String.charAt(int), the Latin-1 road alone -/
abbrev wordsChN : List Jvm.Cond := [.code ChN.yN ChN.yB 2 (some .char), .initialized ST, .fieldLink ST 9 ST "value" "[B", .fieldLink ST 38 ST "COMPACT_STRINGS" "Z", .fieldLink ST 15 ST "coder" "B", .code IsL.yN IsL.yB 1 (some .boolean), .methodLink ST 492 IsL.yN, .declares IsL.yN, .selects ST IsL.yN IsL.yN, .instanceMethod IsL.yN,
  .methodLink ST 495 LChA.yN, .static LChA.yN, .code LChA.yN LChA.yB 2 (some .char), .initialized "java/lang/StringLatin1", .methodLink "java/lang/StringLatin1" 9 JO.Str_checkIndex.yN, .static JO.Str_checkIndex.yN, .code JO.Str_checkIndex.yN JO.Str_checkIndex.yB 2 none,
  .fieldLink ST 1053 "jdk/internal/util/Preconditions" "SIOOBE_FORMATTER" "Ljava/util/function/BiFunction;", .methodLink ST 1059 JC.PreCheck.yN, .static JC.PreCheck.yN, .code JC.PreCheck.yN JC.PreCheck.yB 3 (some .int), .initialized "jdk/internal/util/Preconditions"]
theorem tabChN_of {a : Array Value} {s : State} (h : ∀ w ∈ wordsChN, w.before a s = true) : ChN.tab.before a s = true := by
  have hp : JC.PreCheck.tab.before a s = true := unparts (wk h (.code JC.PreCheck.yN JC.PreCheck.yB 3 (some .int))) (wks h (.initialized JC.PreCheck.yN.cls :: JC.PreCheck.site))
  have qk := consq hp h
  have hk : JO.Str_checkIndex.tab.before a s = true := unparts (wk qk (.code JO.Str_checkIndex.yN JO.Str_checkIndex.yB 2 none)) (wks qk (.initialized JO.Str_checkIndex.yN.cls :: JO.Str_checkIndex.site))
  have ql := consq hk h
  have hl : LChA.tab.before a s = true := unparts (wk ql (.code LChA.yN LChA.yB 2 (some .char))) (wks ql (.initialized LChA.yN.cls :: LChA.site))
  have hi : IsL.tab.before a s = true := unparts (wk h (.code IsL.yN IsL.yB 1 (some .boolean))) (wks h (.initialized IsL.yN.cls :: IsL.site))
  have q := consq hi (consq hl h)
  exact unparts (wk q (.code ChN.yN ChN.yB 2 (some .char))) (wks q (.initialized ChN.yN.cls :: ChN.site))
theorem movedChN {Z s : State} {a0 args : Array Value} (hZ : Z.Warmed39 s.vm) (hw : ∀ d ∈ wordsChN, d.before a0 Z = true) : ∀ d ∈ wordsChN, d.before args s = true := fun d hd => by
  have t : ∀ d ∈ wordsChN, (d.onTables && d.keepsFace) = true := by decide +kernel
  exact RoadKit.mv hZ (hw d hd) (t d hd)
/-- **charAt(i) OF A LATIN-1 STRING**, i < n: the char -/
theorem chN {p : Program} {l : Launch} {e : Env} {R : Room} {s : State} {args : Array Value} {below : List Frame} {len W : Nat} {Z : State} {a0 : Array Value} {h : Heap} (hZ : Z.Warmed39 s.vm) (hw : ∀ d ∈ wordsChN, d.before a0 Z = true) {kI : Nat} (wi : (Jvm.Cond.instantiable ST kI).before a0 Z = true)
    {x t : Addr} {kb : ClassId} {cs : List Int32} {N2 z : Int32} {vs : List Value} {fm : Value} {i : Nat} {j : Int32} (E : RoadKit.Exa Z h x ST) (V : RoadKit.Fld Z h x ST "value" "[B" (.ref t)) (C : RoadKit.Fld Z h x ST "coder" "B" (.int 0)) (K : RoadKit.Arv Z h t kb .byte N2 vs (.int 0)) (hc : CodA cs 0 N2 vs) (hb : ∀ c ∈ cs, ¬ c < 0 ∧ ¬ (65535 : Int32) < c)
    (S : RoadKit.Sta Z h ST "COMPACT_STRINGS" "Z" (.int z)) (hz : ¬ z = 0) (F : RoadKit.Sta Z h "jdk/internal/util/Preconditions" "SIOOBE_FORMATTER" "Ljava/util/function/BiFunction;" fm) (rf : fm.isRef = true) (l2 : cs.length ≤ 4000) (hi : i < cs.length) (hj : j = Int32.ofNat i) (hfr : 4 ≤ R.frames) (hlo : W + 53 ≤ R.locals) :
    Back l R p e below s args (⟨"java/lang/String", "charAt", "(I)C"⟩ : MethodName) len W (fun P a => a = #[.ref x, .int j] ∧ P.U.heap = h ∧ P.cells + 0 ≤ R.cells ∧ P.slots + 0 ≤ R.slots)
      (fun P _ v B => ∃ L, (v = some (.int (cs.getD i 0)) ∧ L = [] ∧ B.U.heap = h) ∧ B.locs = P.locs ++ L ∧ B.cells = P.cells + 0 ∧ B.slots = P.slots + 0) := by
  subst hj
  intro m meth c P g ig mk a X hg hsize hdg hW hn hp'
  obtain ⟨rfl, rfl, r1, r2⟩ := hp'
  have al : Z.vm.Alike P.U.vm := hZ.alike.trans X.warmed.alike
  obtain ⟨A, hx⟩ := txt_of wi al E V C K hc hb l2
  obtain ⟨v, B, X', ⟨⟨hv, hh⟩, hl, hk, hs⟩, st⟩ := ChN.pays x t A cs.length (fun j => cs.getD j 0) z fm i (tabChN_of (movedChN hZ hw)) hfr hlo m meth c P g ig mk _ X hg hsize hdg hW hn ⟨r1, r2, rfl, hx, hi, sta_is al S, hz, sta_is al F, rf⟩
  exact ⟨v, B, X', ⟨[], ⟨hv, rfl, hh⟩, hl, hk, hs⟩, st⟩
/-- what backV says of its String, as the contracts of this text ask it: cs's low bytes, coder 0 -/
theorem codOf {cs : List Int32} {n : Nat} (hn : cs.length = n) (hb : ∀ c ∈ cs, ¬ 255 < c) : CodA cs 0 (Int32.ofNat n) ((cs.map lo8).map Value.int) := Or.inl ⟨rfl, by rw [hn], by simp [List.map_map, Function.comp_def], hb⟩
end StrChars.Road
end Jvm.Pilot.@@N@@
namespace Jvm.Pilot.@@N@@
open Jvm Jvm.ClassFile Sem Op Lib Jvm.Free Jvm.Stand Jvm.LawKit Jvm.RoadKit Bundle Jvm.Pilot.@@N@@.Jvm.D
def bI (P : Prop) [Decidable P] : Int32 := if P then 1 else 0
theorem own_b1 {P : Prop} [Decidable P] (h : P) : some (Value.int (1 : Int32)) = some (Value.int (bI P)) := by rw [bI, if_pos h]
theorem own_b0 {P : Prop} [Decidable P] (h : ¬ P) : some (Value.int (0 : Int32)) = some (Value.int (bI P)) := by rw [bI, if_neg h]
theorem own_c1 {P : Prop} [Decidable P] (h : P) : (1 : Int32) = bI P := by rw [bI, if_pos h]
theorem own_c0 {P : Prop} [Decidable P] (h : ¬ P) : (0 : Int32) = bI P := by rw [bI, if_neg h]
theorem own_bI {P : Prop} [Decidable P] : (P ∧ bI P = 1) ∨ (¬ P ∧ bI P = 0) := by by_cases h : P <;> simp [bI, h]
theorem own_bt {P : Prop} [Decidable P] : (P ∧ (bI P).toInt = 1) ∨ (¬ P ∧ (bI P).toInt = 0) := by by_cases h : P <;> simp [bI, h]
theorem own_nar {P : Prop} [Decidable P] : nar .boolean (bI P) = bI P := by by_cases h : P <;> simp only [bI, h, if_true, if_false] <;> decide
theorem own_lt {a b : Int32} : a < b ↔ a.toInt < b.toInt := Int32.lt_iff_toInt_lt
theorem own_nlt {a b : Int32} : ¬ (a < b) ↔ b.toInt ≤ a.toInt := by rw [own_lt]; omega
theorem own_eq {a b : Int32} : a = b ↔ a.toInt = b.toInt := Int32.toInt_inj.symm
theorem own_neq {a b : Int32} : ¬ (a = b) ↔ ¬ (a.toInt = b.toInt) := by rw [own_eq]
theorem own_ltL {a b : Int64} : a < b ↔ a.toInt < b.toInt := Int64.lt_iff_toInt_lt
theorem own_eqL {a b : Int64} : a = b ↔ a.toInt = b.toInt := Int64.toInt_inj.symm
theorem own_sk {Z : State} {h h' : Heap} {C n d K : String} {v : Value} {b : Addr} (F : Sta Z h C n d v) (Kp : Keep h h' [b]) (E : Exa Z h b K) : Sta Z h' C n d v := by
  obtain ⟨cf, i, k, f, st, cell, h1, h2, h3, h4, h5, h6, h7⟩ := F
  refine ⟨cf, i, k, f, st, cell, h1, h2, h3, h4, Kp.2.1 st cell h5 (fun q => ?_), h6, h7⟩
  obtain ⟨cl, kk, e1, e2, e3, e4, e5⟩ := E
  have q' := List.mem_singleton.mp q
  subst q'
  rw [h5] at e1
  cases e1
  rw [h6] at e4
  cases e4
theorem own_eqI {t : Term} {k : Int32} {args : Array Value} {Z : State} (h : (Jvm.Cond.eq t (Term.int k)).value args Z none Z [] = some true) : t.eval args Z none [] Z = some (.int k) := by
  obtain ⟨x, y, hx, hy, K1, K2⟩ := cmp_v (Or.inl h)
  have hy' : y = .int k := by simpa [Term.eval] using hy.symm
  subst hy'
  obtain ⟨z, rfl⟩ := K2
  have q : z = k := by simpa [Jvm.Cond.value, hx, Term.eval] using h
  rw [hx, q]
theorem own_fldI {t : Term} {C n d : String} {k : Int32} {a : Addr} {args : Array Value} {Z : State} (ev : t.eval args Z none [] Z = some (.ref a)) (h : (Jvm.Cond.eq (Term.field t C n d) (Term.int k)).value args Z none Z [] = some true) : Z.fieldOf? a C n d = some (.int k) := by
  rw [← fld_at ev]; exact own_eqI h
theorem own_ford {C n d : String} {k k' : Int32} {a b : Addr} {Z : State} (h1 : Z.fieldOf? a C n d = some (.int k)) (h2 : Z.fieldOf? b C n d = some (.int k')) (hk : k ≠ k') : a ≠ b := fun q => by
  rw [q, h2] at h1
  exact hk (Value.int.inj (Option.some.inj h1)).symm
theorem own_s0 {Z : State} {h h' : Heap} {C n d : String} {v : Value} (F : Sta Z h C n d v) (Kp : Keep h h' []) : Sta Z h' C n d v := by
  obtain ⟨cf, i, k, f, st, cell, h1, h2, h3, h4, h5, h6, h7⟩ := F
  exact ⟨cf, i, k, f, st, cell, h1, h2, h3, h4, Kp.2.1 st cell h5 (by simp), h6, h7⟩
theorem own_a0 {Z : State} {h h' : Heap} {a : Addr} {c : Cell} {ty : FieldType} (A : Arr Z h a c ty) (Kp : Keep h h' []) : Arr Z h' a c ty := ⟨Kp.2.1 a c A.1 (by simp), A.2⟩
theorem own_f0 {Z : State} {h h' : Heap} {C n d : String} {a : Addr} {v : Value} (F : Fld Z h a C n d v) (Kp : Keep h h' []) : Fld Z h' a C n d v := F.keep Kp (by simp)
theorem own_no2 {Z : State} {a0 : Array Value} {C S O K : String} {n : Nat} (w1 : (Jvm.Cond.superclass C S).before a0 Z = true) (w2 : (Jvm.Cond.superclass S O).before a0 Z = true) (w3 : (Jvm.Cond.noSuperclass O).before a0 Z = true) (wk : (Jvm.Cond.instantiable K n).before a0 Z = true)
    (n1 : C ≠ K) (n2 : S ≠ K) (n3 : O ≠ K) : ∃ c t, Z.vm.findClass C = some c ∧ Z.vm.findClass K = some t ∧ Z.vm.assignable c t = false := by
  obtain ⟨t, kt, ht, hkt, ho, hi, -, -⟩ := Cond.instantiable_spec wk
  obtain ⟨cO, kO, hO, hkO, hs, -, -⟩ := Cond.noSuperclass_spec w3
  have neO := ids_ne hO ht n3
  have r0 : NS Z O K := ⟨cO, t, hO, ht, fun fuel => by cases fuel with
    | zero => rfl
    | succ f => simp [Vm.isSubclassAux, neO, hkO, hs]⟩
  obtain ⟨c, t', h0, g0, n3'⟩ := NS.step w1 (NS.step w2 r0 n2) n1
  cases ht.symm.trans g0
  obtain ⟨p, k, kp, h1, h2, h3, h4, h5, -, h7⟩ := Cond.superclass_spec h0 w1
  have ne := ids_ne h0 ht n1
  have hi' : kt.isInterface = false := by simp only [Bool.or_eq_false_iff] at hi; exact hi.1
  refine ⟨c, t, h0, ht, ?_⟩
  show Z.vm.assignableAux (255 + 1) c t = false
  simp [Vm.assignableAux, ne, h2, hkt, h5, ho, hi', Vm.isSubclass, n3']
theorem own_box {Z : State} {args : Array Value} {t : Term} {K : String} {X : Jvm.Cond} {a : Addr} {c : Cell} (et : ∀ idx, t.eval args Z none idx Z = some (.ref a)) (A : Arr Z Z.heap a c (.object K))
    (h : (Jvm.Cond.all t (.and (.exactly (.elem t (.index 0)) K) X)).value args Z none Z [] = some true) (j : Int32) (hj : ¬ (j < 0 ∨ c.slots.size ≤ j.toNatClampNeg)) : ∃ b : Addr, c.slots[j.toNatClampNeg]? = some (.ref b) ∧ Exa Z Z.heap b K := by
  have nn : ¬ j < 0 := fun x => hj (Or.inl x)
  have u := (and_e (Cond.all_elim (et []) (A.fin (Vm.Alike.refl _)) h j.toNatClampNeg (Nat.lt_of_not_le fun x => hj (Or.inr x)))).1
  obtain ⟨box, eb⟩ := exa_v u
  exact ⟨box, (elem_f (et _) (idx_at nn) (A.fin (Vm.Alike.refl _)) nn).symm.trans eb, exa_at eb u⟩
theorem own_len {Z : State} {args : Array Value} {t : Term} {a : Addr} {c : Cell} {ty : FieldType} {z : Int32} (ev : t.eval args Z none [] Z = some (.ref a)) (A : Arr Z Z.heap a c ty) (h : (Term.length t).eval args Z none [] Z = some (.int z)) : c.slots.size < 2 ^ 31 ∧ c.slots.size.toInt32 = z := by
  have ha := A.fin (Vm.Alike.refl _)
  simpa [Term.eval, ev, ha] using h
theorem own_size {c : Cell} {z : Int32} {n : Nat} (h : c.slots.size < 2 ^ 31 ∧ c.slots.size.toInt32 = z) (hz : z.toInt = n) : c.slots.size = n := by
  have q := len_toInt h.1
  rw [h.2] at q
  omega
theorem own_eqR {t u : Term} {b : Addr} {args : Array Value} {Z : State} (hu : u.eval args Z none [] Z = some (.ref b)) (h : (Jvm.Cond.eq t u).value args Z none Z [] = some true) : t.eval args Z none [] Z = some (.ref b) := by
  obtain ⟨x, y, hx, hy, K1, K2⟩ := cmp_v (Or.inl h)
  cases hu.symm.trans hy
  have hr : x.isRef = true := K2.2
  have e := eq_R hx hu hr rfl
  rw [h] at e
  rw [hx, of_decide_eq_true (Option.some.inj e).symm]
theorem own_rew {s t : State} {o : Outcome} {L : List Loc} {k n k' n' : Nat} (h : ReturnedEndW s o t L k n) (hk : k ≤ k') (hn : n ≤ n') : ReturnedEndW s o t L k' n' := ⟨h.1, h.2.1, h.2.2.1, h.2.2.2.mono hk hn⟩
theorem own_ra {Z : State} {EL : List (String × Nat)} {vm vm1 vm2 : Vm} {h h1 : Heap} {T : State} (A : CHr Z EL vm h vm1 h1) (e : T.heap = h1) (B : CHr Z EL vm1 h1 vm2 h1) : CHr Z EL vm h vm2 T.heap := by rw [e]; exact A.trans B
theorem own_m31 (x : Int32) : (x &&& (2147483647 : Int32)).toInt = x.toInt % 2147483648 := c_mask x (2147483647 : Int32) 31 (by decide) (by decide)
theorem own_mrem (x y : Int32) (d : Int) (hy : y.toInt = d) : ((x &&& (2147483647 : Int32)) % y).toInt = (x.toInt % 2147483648) % d := by
  have h := own_m31 x
  rw [(c_irem _ y d hy).1 (by omega), h]
theorem tw {a0 : Array Value} {Z : State} (hw : ∀ d ∈ tables_1, d.before a0 Z = true) (i : Nat) {d : Jvm.Cond} (h : tables_1[i]? = some d) : d.before a0 Z = true := hw _ (List.mem_of_getElem? h)
abbrev vi (x : Int32) : Slot := .val (.int x)
abbrev vr (x : Addr) : Slot := .val (.ref x)
abbrev SF (p : Program) (e : Env) (below : List Frame) (T : State) (m : MethodId) (pc : Nat) (Ls : Array Slot) (S : List Value) (t : State) : Prop := Steps p.tables e below (T.setTop (mkF m pc Ls S)) t
abbrev sC (Z : State) (h : Heap) (g : Int32) : Prop := Sta Z h "java/lang/String" "COMPACT_STRINGS" "Z" (.int g)
abbrev sI (Z : State) (h : Heap) (g : Value) : Prop := Sta Z h "jdk/internal/util/Preconditions" "SIOOBE_FORMATTER" "Ljava/util/function/BiFunction;" g
abbrev sA (Z : State) (h : Heap) : Prop := Sta Z h "java/lang/StringUTF16" "$assertionsDisabled" "Z" (.int 1)
abbrev sH (Z : State) (h : Heap) : Prop := Sta Z h "java/lang/StringUTF16" "HI_BYTE_SHIFT" "I" (.int 0)
abbrev sL (Z : State) (h : Heap) : Prop := Sta Z h "java/lang/StringUTF16" "LO_BYTE_SHIFT" "I" (.int 8)
abbrev rK (a b c d : Nat) : Room := { frames := a, cells := b, slots := c, locals := d }
abbrev MF (l : Launch) (Z : State) (y : MethodName) (b : ByteArray) (ml : Nat) (r : Option FieldType) (ws : List Jvm.Cond) (R : Room) (A : Array Value) (h0 : Heap) (Q : Option Value → Heap → List Loc → Prop) : Prop := MetFree l y (head1 (Jvm.Cond.code y b ml r :: ws) R) (fun a U => a = A ∧ Z.Warmed39 U.vm ∧ U.heap = h0) (fun _ _ _ _ _ => True) (fun _ U o U' => ∃ v L, o = .returned v ∧ Q v U'.heap L ∧ FrameEnd U o U' L R.cells R.slots)
abbrev mN0 : MethodName := ⟨"com/example/orql/orql/Syntax", "isLowerCase", "(C)Z"⟩
abbrev mN1 : MethodName := ⟨"com/example/orql/orql/Syntax", "isUpperCase", "(C)Z"⟩
abbrev mN2 : MethodName := ⟨"com/example/orql/orql/Syntax", "isDigit", "(C)Z"⟩
abbrev mN3 : MethodName := ⟨"com/example/orql/orql/Syntax", "isWordChar", "(C)Z"⟩
abbrev mN4 : MethodName := ⟨"com/example/orql/orql/SyntaxIsObjectPinLaw", "startsObject", "(C)Z"⟩
abbrev mN5 : MethodName := ⟨"com/example/orql/orql/SyntaxIsObjectPinLaw", "continuesWord", "(C)Z"⟩
abbrev mN6 : MethodName := ⟨"java/lang/String", "<init>", "([CIILjava/lang/Void;)V"⟩
abbrev mN7 : MethodName := ⟨"java/lang/String", "<init>", "([C)V"⟩
abbrev mN8 : MethodName := ⟨"java/lang/StringUTF16", "newBytesLength", "(I)I"⟩
abbrev mN9 : MethodName := ⟨"java/lang/StringUTF16", "newBytesFor", "(I)[B"⟩
abbrev mN10 : MethodName := ⟨"java/lang/StringUTF16", "putChar", "([BII)V"⟩
abbrev mN11 : MethodName := ⟨"java/lang/StringUTF16", "toBytes", "([CII)[B"⟩
abbrev mN12 : MethodName := ⟨"java/lang/StringUTF16", "getChar", "([BI)C"⟩
abbrev mN13 : MethodName := ⟨"java/lang/StringUTF16", "coderFromArrayLen", "([BI)B"⟩
abbrev mN14 : MethodName := ⟨"java/lang/StringUTF16", "compress", "([CI[BII)I"⟩
abbrev mN15 : MethodName := ⟨"java/lang/StringUTF16", "compress", "([CII)[B"⟩
abbrev mN16 : MethodName := ⟨"java/lang/String", "coder", "()B"⟩
abbrev mN17 : MethodName := ⟨"java/lang/String", "isLatin1", "()Z"⟩
abbrev mN18 : MethodName := ⟨"jdk/internal/util/Preconditions", "checkIndex", "(IILjava/util/function/BiFunction;)I"⟩
abbrev mN19 : MethodName := ⟨"java/lang/String", "checkIndex", "(II)V"⟩
abbrev mN20 : MethodName := ⟨"java/lang/StringUTF16", "length", "([B)I"⟩
abbrev mN21 : MethodName := ⟨"java/lang/StringUTF16", "checkIndex", "(I[B)V"⟩
abbrev mN22 : MethodName := ⟨"java/lang/StringUTF16", "charAt", "([BI)C"⟩
abbrev mN23 : MethodName := ⟨"java/lang/String", "charAt", "(I)C"⟩
abbrev mN24 : MethodName := ⟨"java/lang/String", "length", "()I"⟩
abbrev mN25 : MethodName := ⟨"java/lang/String", "isEmpty", "()Z"⟩
abbrev mN26 : MethodName := ⟨"com/example/orql/orql/Syntax", "isObject", "(Ljava/lang/String;)Z"⟩
abbrev mN27 : MethodName := ⟨"com/example/orql/orql/Syntax", "continuesAsWord", "(Ljava/lang/String;)Z"⟩
theorem own_safe0 {Z : State} {EL : List (String × Nat)} {vm : Vm} {h : Heap} {x : Addr} (hal : Z.vm.Alike vm) (E : Exa Z h x "java/lang/String") (F : Fld Z h x "java/lang/String" "value" "[B" .null) : Safe Z EL vm h x := by
  intro B
  obtain ⟨cell, k, e1, e2, e3, -, -⟩ := E
  obtain ⟨cl, cf, kf, i, f, f1, f2, f3, f4, f5, f6, f7⟩ := F
  cases e1.symm.trans f1
  obtain ⟨p, -, u, a, -, q, -, G, hx⟩ := B
  rcases hx with rfl | rfl
  · have g1 : h[q.sa]? = some q.sC := G.ha
    obtain ⟨cS, ⟨⟨s1, s2, s3, ⟨cv, kv, iv, s4, s4'⟩, s5, s6, s7, s8, s9⟩, hfS, hcS⟩, -⟩ := G
    obtain ⟨kv', z4⟩ := ff_back (U := Wst Z vm h) hal s4
    have z4' : Z.fieldFound? "java/lang/String" "value" "[B" = some (cv, kv', iv, q.fSV) := z4
    cases f2.symm.trans z4'
    cases g1.symm.trans e1
    rw [s8] at f7
    cases f7
  · have g1 : h[q.sd]? = some q.SA := G.hd
    obtain ⟨cS, -, -, hB, -⟩ := G
    cases g1.symm.trans e1
    have hB' : vm.findClass "[B" = some q.SA.cls := hB
    rw [hal.findClass] at hB'
    obtain ⟨k1, q1, q2⟩ := Vm.findClass_spec hB'
    obtain ⟨k2, q3, q4⟩ := Vm.findClass_spec e2
    cases q1.symm.trans q3
    exact absurd (q2.symm.trans q4) (by decide)
theorem own_str {Z : State} {a0 : Array Value} (hw : ∀ d ∈ tables_1, d.before a0 Z = true) : ∀ a ∈ Bundle.stringAtoms, a.before a0 Z = true := by
  intro a ha
  simp only [Bundle.stringAtoms, List.mem_cons, List.not_mem_nil, or_false] at ha
  rcases ha with rfl | rfl | rfl | rfl | rfl | rfl | rfl
  · exact (tw hw 3 rfl)
  · exact (tw hw 2 rfl)
  · exact (tw hw 15 rfl)
  · exact (tw hw 16 rfl)
  · exact (tw hw 17 rfl)
  · exact (tw hw 18 rfl)
  · exact (tw hw 19 rfl)
theorem own_ew {Z : State} {a0 : Array Value} (hw : ∀ d ∈ tables_1, d.before a0 Z = true) : EW Z a0 consts_1 := (EW.cons (tw hw 14 rfl) (by decide) EW.nil)
def OStr (Z : State) (h : Heap) (x : Addr) (cs : List Int32) : Prop := ∃ (t : Addr) (kb : ClassId), Exa Z h x "java/lang/String" ∧ Fld Z h x "java/lang/String" "value" "[B" (.ref t) ∧ Fld Z h x "java/lang/String" "coder" "B" (.int 0) ∧ Arv Z h t kb .byte (Int32.ofNat cs.length) ((cs.map (fun c => c.toInt8.toInt32)).map Value.int) (.int 0) ∧ ∀ c ∈ cs, ¬ c < 0 ∧ ¬ (255 : Int32) < c
theorem own_up (cs : List Int32) (h : ∀ c ∈ cs, ¬ c < 0 ∧ ¬ (255 : Int32) < c) : ∀ c ∈ cs, ¬ c < 0 ∧ ¬ (65535 : Int32) < c := fun c hc => ⟨(h c hc).1, fun q => (h c hc).2 (by rw [Int32.lt_iff_toInt_lt] at q ⊢; have e1 : (65535 : Int32).toInt = 65535 := rfl; have e2 : (255 : Int32).toInt = 255 := rfl; omega)⟩
theorem own_cod {cs : List Int32} (hp : ∀ c ∈ cs, ¬ c < 0 ∧ ¬ (255 : Int32) < c) : StrChars.Road.CodA cs 0 (Int32.ofNat cs.length) ((cs.map (fun c => c.toInt8.toInt32)).map Value.int) := StrChars.Road.codOf (n := cs.length) rfl (fun x hx => (hp x hx).2)
theorem own_narc {p : Int32} (h : 0 ≤ p.toInt ∧ p.toInt ≤ 255) : nar .char p = p := by
  have q := c_i2c p
  have e : nar .char p = p.toUInt32.toUInt16.toUInt32.toInt32 := by simp only [nar]
  rw [e]
  apply Int32.toInt_inj.mp
  omega
theorem own_pc {p : Int32} (h : 0 ≤ p.toInt ∧ p.toInt ≤ 255) : ¬ nar .char p < 0 ∧ ¬ (255 : Int32) < nar .char p := by
  rw [own_narc h]
  exact ⟨own_nlt.mpr (show (0 : Int) ≤ _ from h.1), own_nlt.mpr (show _ ≤ (255 : Int) from h.2)⟩
theorem OStr.ext {Z : State} {h h' : Heap} {x : Addr} {cs : List Int32} (S : OStr Z h x cs) (E : Ext h h') : OStr Z h' x cs := by
  obtain ⟨t, k, a, b, c, d, e⟩ := S
  exact ⟨t, k, a.ext E, b.ext E, c.ext E, d.ext E, e⟩
theorem OStr.keep0 {Z : State} {h h' : Heap} {x : Addr} {cs : List Int32} (S : OStr Z h x cs) (K : Keep h h' []) : OStr Z h' x cs := by
  obtain ⟨t, k, a, b, c, d, e⟩ := S
  exact ⟨t, k, a.keep K, b.keep K (by simp), c.keep K (by simp), d.keep K (by simp), e⟩
theorem own_eqv1 {v : Option Value} {P : Prop} (h : (v = some (.int 1) ∧ P) ∨ (v = some (.int 0) ∧ ¬ P)) (q : P) : v = some (.int 1) := by
  rcases h with h | h
  · exact h.1
  · exact absurd q h.2
theorem own_eqv0 {v : Option Value} {P : Prop} (h : (v = some (.int 1) ∧ P) ∨ (v = some (.int 0) ∧ ¬ P)) (q : ¬ P) : v = some (.int 0) := by
  rcases h with h | h
  · exact absurd h.2 q
  · exact h.1
theorem own_wL : ∀ d ∈ StrChars.Road.wordsLen, d ∈ tables_1 := by decide +kernel
theorem own_wC : ∀ d ∈ StrChars.Road.wordsChN, d ∈ tables_1 := by decide +kernel
theorem own_wE : ∀ d ∈ StrChars.Road.wordsEmp, d ∈ tables_1 := by decide +kernel
theorem own_wS : ∀ d ∈ StrChars.Road.words, d ∈ tables_1 := by decide +kernel
theorem own_narcW {p : Int32} (h : 0 ≤ p.toInt ∧ p.toInt ≤ 65535) : nar .char p = p := by
  have q := c_i2c p
  have e : nar .char p = p.toUInt32.toUInt16.toUInt32.toInt32 := by simp only [nar]
  rw [e]
  apply Int32.toInt_inj.mp
  omega
def OW (Z : State) (h : Heap) (x : Addr) (z : Int32) (vs : List Value) : Prop := ∃ (t : Addr) (kb : ClassId), Exa Z h x "java/lang/String" ∧ Fld Z h x "java/lang/String" "value" "[B" (.ref t) ∧ Fld Z h x "java/lang/String" "coder" "B" (.int 1) ∧ Arv Z h t kb .byte z vs (.int 0)
def loB (c : Int32) : Int32 := nar .byte ((c >>> ((0 : Int32) &&& 31)).toInt8.toInt32)
def hiB (c : Int32) : Int32 := nar .byte ((c >>> ((8 : Int32) &&& 31)).toInt8.toInt32)
theorem own_u16 {c : Int32} (h : 0 ≤ c.toInt ∧ c.toInt ≤ 65535) : nar .char ((((loB c &&& (255 : Int32)) <<< ((0 : Int32) &&& 31)) ||| ((hiB c &&& (255 : Int32)) <<< ((8 : Int32) &&& 31))).toUInt32.toUInt16.toUInt32.toInt32) = c := by
  have e0 : ∀ x : Int32, nar .char x = x.toUInt32.toUInt16.toUInt32.toInt32 := fun x => by simp only [nar]
  have e1 : ∀ x : Int32, nar .byte x = x.toInt8.toInt32 := fun x => by simp only [nar]
  have a1 := c_ishr c (0 : Int32) 0 (by decide)
  have a2 := c_i2b (c >>> ((0 : Int32) &&& 31))
  have a3 := c_i2b ((c >>> ((0 : Int32) &&& 31)).toInt8.toInt32)
  rw [← e1 ((c >>> ((0 : Int32) &&& 31)).toInt8.toInt32)] at a3
  have a4 := c_mask (loB c) (255 : Int32) 8 (by decide) (by decide)
  have a5 := c_ishl (loB c &&& (255 : Int32)) (0 : Int32) 0 (by decide)
  have b1 := c_ishr c (8 : Int32) 8 (by decide)
  have b2 := c_i2b (c >>> ((8 : Int32) &&& 31))
  have b3 := c_i2b ((c >>> ((8 : Int32) &&& 31)).toInt8.toInt32)
  rw [← e1 ((c >>> ((8 : Int32) &&& 31)).toInt8.toInt32)] at b3
  have b4 := c_mask (hiB c) (255 : Int32) 8 (by decide) (by decide)
  have b5 := c_ishl (hiB c &&& (255 : Int32)) (8 : Int32) 8 (by decide)
  rw [show nar .byte ((c >>> ((0 : Int32) &&& 31)).toInt8.toInt32) = loB c from rfl] at a3
  rw [show nar .byte ((c >>> ((8 : Int32) &&& 31)).toInt8.toInt32) = hiB c from rfl] at b3
  have m1 := Int32.toInt_lt ((loB c &&& (255 : Int32)) <<< ((0 : Int32) &&& 31))
  have m2 := Int32.le_toInt ((loB c &&& (255 : Int32)) <<< ((0 : Int32) &&& 31))
  have m3 := Int32.toInt_lt ((hiB c &&& (255 : Int32)) <<< ((8 : Int32) &&& 31))
  have m4 := Int32.le_toInt ((hiB c &&& (255 : Int32)) <<< ((8 : Int32) &&& 31))
  have o := c_or' ((loB c &&& (255 : Int32)) <<< ((0 : Int32) &&& 31)) ((hiB c &&& (255 : Int32)) <<< ((8 : Int32) &&& 31)) 8 (by decide) 256 rfl (by omega) (by omega) (by omega)
  have m5 := Int32.toInt_lt (((loB c &&& (255 : Int32)) <<< ((0 : Int32) &&& 31)) ||| ((hiB c &&& (255 : Int32)) <<< ((8 : Int32) &&& 31)))
  have m6 := Int32.le_toInt (((loB c &&& (255 : Int32)) <<< ((0 : Int32) &&& 31)) ||| ((hiB c &&& (255 : Int32)) <<< ((8 : Int32) &&& 31)))
  have i1 := c_i2c (((loB c &&& (255 : Int32)) <<< ((0 : Int32) &&& 31)) ||| ((hiB c &&& (255 : Int32)) <<< ((8 : Int32) &&& 31)))
  have i2 := c_i2c ((((loB c &&& (255 : Int32)) <<< ((0 : Int32) &&& 31)) ||| ((hiB c &&& (255 : Int32)) <<< ((8 : Int32) &&& 31))).toUInt32.toUInt16.toUInt32.toInt32)
  rw [e0]
  apply Int32.toInt_inj.mp
  omega
theorem own_wide1 (a0 : Int32) : (¬ ((255 : Int32) < a0)) ∨ (((255 : Int32) < a0)) := by
  rcases Classical.em ((255 : Int32) < a0) with h | g0
  · exact Or.inr h
  exact Or.inl g0
theorem own_wide2 (a0 a1 : Int32) : (¬ ((255 : Int32) < a0) ∧ ¬ ((255 : Int32) < a1)) ∨ (((255 : Int32) < a0) ∨ (¬ ((255 : Int32) < a0) ∧ (255 : Int32) < a1)) := by
  rcases Classical.em ((255 : Int32) < a0) with h | g0
  · exact Or.inr (Or.inl h)
  rcases Classical.em ((255 : Int32) < a1) with h | g1
  · exact Or.inr (Or.inr ⟨g0, h⟩)
  exact Or.inl ⟨g0, g1⟩
theorem own_wide3 (a0 a1 a2 : Int32) : (¬ ((255 : Int32) < a0) ∧ ¬ ((255 : Int32) < a1) ∧ ¬ ((255 : Int32) < a2)) ∨ (((255 : Int32) < a0) ∨ (¬ ((255 : Int32) < a0) ∧ (255 : Int32) < a1) ∨ (¬ ((255 : Int32) < a0) ∧ ¬ ((255 : Int32) < a1) ∧ (255 : Int32) < a2)) := by
  rcases Classical.em ((255 : Int32) < a0) with h | g0
  · exact Or.inr (Or.inl h)
  rcases Classical.em ((255 : Int32) < a1) with h | g1
  · exact Or.inr (Or.inr (Or.inl ⟨g0, h⟩))
  rcases Classical.em ((255 : Int32) < a2) with h | g2
  · exact Or.inr (Or.inr (Or.inr ⟨g0, g1, h⟩))
  exact Or.inl ⟨g0, g1, g2⟩
theorem ef_15 (m : MethodId) (x0 : Int32) : entryFrame m #[(.int x0)] 1 = mkF m 0 #[.val (.int x0)] [] := by first | (simp [entryFrame, mkF, argsToLocals, Value.category]; done) | rfl
theorem pn_com_example_orql_orql_Syntax : plainName "com/example/orql/orql/Syntax" = true := by first | (simp [plainName, overriddenIn]; done) | decide +kernel
theorem d15_0 : decode prog_38_method_7_code 0 = .ok (.iload_n 0, 1) := by decide +kernel
theorem d15_1 : decode prog_38_method_7_code 1 = .ok (.bipush 97, 2) := by decide +kernel
theorem d15_3 : decode prog_38_method_7_code 3 = .ok (.if_icmp .lt 13, 3) := by decide +kernel
theorem d15_16 : decode prog_38_method_7_code 16 = .ok (.iconst 0, 1) := by decide +kernel
theorem d15_17 : decode prog_38_method_7_code 17 = .ok (.ireturn, 1) := by decide +kernel
theorem d15_6 : decode prog_38_method_7_code 6 = .ok (.iload_n 0, 1) := by decide +kernel
theorem d15_7 : decode prog_38_method_7_code 7 = .ok (.bipush 122, 2) := by decide +kernel
theorem d15_9 : decode prog_38_method_7_code 9 = .ok (.if_icmp .gt 7, 3) := by decide +kernel
theorem d15_12 : decode prog_38_method_7_code 12 = .ok (.iconst 1, 1) := by decide +kernel
theorem d15_13 : decode prog_38_method_7_code 13 = .ok (.goto 4, 3) := by decide +kernel
theorem ef_30 (m : MethodId) (x0 : Int32) : entryFrame m #[(.int x0)] 1 = mkF m 0 #[.val (.int x0)] [] := by first | (simp [entryFrame, mkF, argsToLocals, Value.category]; done) | rfl
theorem d30_0 : decode prog_38_method_8_code 0 = .ok (.iload_n 0, 1) := by decide +kernel
theorem d30_1 : decode prog_38_method_8_code 1 = .ok (.bipush 65, 2) := by decide +kernel
theorem d30_3 : decode prog_38_method_8_code 3 = .ok (.if_icmp .lt 13, 3) := by decide +kernel
theorem d30_16 : decode prog_38_method_8_code 16 = .ok (.iconst 0, 1) := by decide +kernel
theorem d30_17 : decode prog_38_method_8_code 17 = .ok (.ireturn, 1) := by decide +kernel
theorem d30_6 : decode prog_38_method_8_code 6 = .ok (.iload_n 0, 1) := by decide +kernel
theorem d30_7 : decode prog_38_method_8_code 7 = .ok (.bipush 90, 2) := by decide +kernel
theorem d30_9 : decode prog_38_method_8_code 9 = .ok (.if_icmp .gt 7, 3) := by decide +kernel
theorem d30_12 : decode prog_38_method_8_code 12 = .ok (.iconst 1, 1) := by decide +kernel
theorem d30_13 : decode prog_38_method_8_code 13 = .ok (.goto 4, 3) := by decide +kernel
theorem ef_16 (m : MethodId) (x0 : Int32) : entryFrame m #[(.int x0)] 1 = mkF m 0 #[.val (.int x0)] [] := by first | (simp [entryFrame, mkF, argsToLocals, Value.category]; done) | rfl
theorem d16_0 : decode prog_38_method_9_code 0 = .ok (.iload_n 0, 1) := by decide +kernel
theorem d16_1 : decode prog_38_method_9_code 1 = .ok (.bipush 48, 2) := by decide +kernel
theorem d16_3 : decode prog_38_method_9_code 3 = .ok (.if_icmp .lt 13, 3) := by decide +kernel
theorem d16_16 : decode prog_38_method_9_code 16 = .ok (.iconst 0, 1) := by decide +kernel
theorem d16_17 : decode prog_38_method_9_code 17 = .ok (.ireturn, 1) := by decide +kernel
theorem d16_6 : decode prog_38_method_9_code 6 = .ok (.iload_n 0, 1) := by decide +kernel
theorem d16_7 : decode prog_38_method_9_code 7 = .ok (.bipush 57, 2) := by decide +kernel
theorem d16_9 : decode prog_38_method_9_code 9 = .ok (.if_icmp .gt 7, 3) := by decide +kernel
theorem d16_12 : decode prog_38_method_9_code 12 = .ok (.iconst 1, 1) := by decide +kernel
theorem d16_13 : decode prog_38_method_9_code 13 = .ok (.goto 4, 3) := by decide +kernel
theorem ef_29 (m : MethodId) (x0 : Int32) : entryFrame m #[(.int x0)] 1 = mkF m 0 #[.val (.int x0)] [] := by first | (simp [entryFrame, mkF, argsToLocals, Value.category]; done) | rfl
theorem d29_0 : decode prog_38_method_2_code 0 = .ok (.iload_n 0, 1) := by decide +kernel
theorem d29_1 : decode prog_38_method_2_code 1 = .ok (.invokestatic 7, 3) := by decide +kernel
theorem pd_0 : parseMethodDescriptor "(C)Z" = some ⟨[.char], some .boolean⟩ := by decide +kernel
theorem d29_4 : decode prog_38_method_2_code 4 = .ok (.ifCond .ne 23, 3) := by decide +kernel
theorem d29_7 : decode prog_38_method_2_code 7 = .ok (.iload_n 0, 1) := by decide +kernel
theorem d29_8 : decode prog_38_method_2_code 8 = .ok (.invokestatic 13, 3) := by decide +kernel
theorem d29_11 : decode prog_38_method_2_code 11 = .ok (.ifCond .ne 16, 3) := by decide +kernel
theorem d29_14 : decode prog_38_method_2_code 14 = .ok (.iload_n 0, 1) := by decide +kernel
theorem d29_15 : decode prog_38_method_2_code 15 = .ok (.invokestatic 16, 3) := by decide +kernel
theorem d29_18 : decode prog_38_method_2_code 18 = .ok (.ifCond .ne 9, 3) := by decide +kernel
theorem d29_21 : decode prog_38_method_2_code 21 = .ok (.iload_n 0, 1) := by decide +kernel
theorem d29_22 : decode prog_38_method_2_code 22 = .ok (.bipush 95, 2) := by decide +kernel
theorem d29_24 : decode prog_38_method_2_code 24 = .ok (.if_icmp .ne 7, 3) := by decide +kernel
theorem d29_27 : decode prog_38_method_2_code 27 = .ok (.iconst 1, 1) := by decide +kernel
theorem d29_28 : decode prog_38_method_2_code 28 = .ok (.goto 4, 3) := by decide +kernel
theorem d29_32 : decode prog_38_method_2_code 32 = .ok (.ireturn, 1) := by decide +kernel
theorem d29_31 : decode prog_38_method_2_code 31 = .ok (.iconst 0, 1) := by decide +kernel
theorem ef_9 (m : MethodId) (x0 : Int32) : entryFrame m #[(.int x0)] 1 = mkF m 0 #[.val (.int x0)] [] := by first | (simp [entryFrame, mkF, argsToLocals, Value.category]; done) | rfl
theorem pn_com_example_orql_orql_SyntaxIsObjectPinLaw : plainName "com/example/orql/orql/SyntaxIsObjectPinLaw" = true := by first | (simp [plainName, overriddenIn]; done) | decide +kernel
theorem d9_0 : decode method_2_code 0 = .ok (.iload_n 0, 1) := by decide +kernel
theorem d9_1 : decode method_2_code 1 = .ok (.bipush 97, 2) := by decide +kernel
theorem d9_3 : decode method_2_code 3 = .ok (.if_icmp .lt 11, 3) := by decide +kernel
theorem d9_14 : decode method_2_code 14 = .ok (.iload_n 0, 1) := by decide +kernel
theorem d9_15 : decode method_2_code 15 = .ok (.bipush 48, 2) := by decide +kernel
theorem d9_17 : decode method_2_code 17 = .ok (.if_icmp .lt 13, 3) := by decide +kernel
theorem d9_30 : decode method_2_code 30 = .ok (.iconst 0, 1) := by decide +kernel
theorem d9_31 : decode method_2_code 31 = .ok (.ireturn, 1) := by decide +kernel
theorem d9_20 : decode method_2_code 20 = .ok (.iload_n 0, 1) := by decide +kernel
theorem d9_21 : decode method_2_code 21 = .ok (.bipush 57, 2) := by decide +kernel
theorem d9_23 : decode method_2_code 23 = .ok (.if_icmp .gt 7, 3) := by decide +kernel
theorem d9_26 : decode method_2_code 26 = .ok (.iconst 1, 1) := by decide +kernel
theorem d9_27 : decode method_2_code 27 = .ok (.goto 4, 3) := by decide +kernel
theorem d9_6 : decode method_2_code 6 = .ok (.iload_n 0, 1) := by decide +kernel
theorem d9_7 : decode method_2_code 7 = .ok (.bipush 122, 2) := by decide +kernel
theorem d9_9 : decode method_2_code 9 = .ok (.if_icmp .gt 5, 3) := by decide +kernel
theorem d9_12 : decode method_2_code 12 = .ok (.iconst 1, 1) := by decide +kernel
theorem d9_13 : decode method_2_code 13 = .ok (.ireturn, 1) := by decide +kernel
theorem ef_28 (m : MethodId) (x0 : Int32) : entryFrame m #[(.int x0)] 1 = mkF m 0 #[.val (.int x0)] [] := by first | (simp [entryFrame, mkF, argsToLocals, Value.category]; done) | rfl
theorem d28_0 : decode method_3_code 0 = .ok (.iload_n 0, 1) := by decide +kernel
theorem d28_1 : decode method_3_code 1 = .ok (.invokestatic 7, 3) := by decide +kernel
theorem d28_4 : decode method_3_code 4 = .ok (.ifCond .eq 5, 3) := by decide +kernel
theorem d28_9 : decode method_3_code 9 = .ok (.iload_n 0, 1) := by decide +kernel
theorem d28_10 : decode method_3_code 10 = .ok (.bipush 65, 2) := by decide +kernel
theorem d28_12 : decode method_3_code 12 = .ok (.if_icmp .lt 11, 3) := by decide +kernel
theorem d28_23 : decode method_3_code 23 = .ok (.iload_n 0, 1) := by decide +kernel
theorem d28_24 : decode method_3_code 24 = .ok (.bipush 95, 2) := by decide +kernel
theorem d28_26 : decode method_3_code 26 = .ok (.if_icmp .ne 7, 3) := by decide +kernel
theorem d28_29 : decode method_3_code 29 = .ok (.iconst 1, 1) := by decide +kernel
theorem d28_30 : decode method_3_code 30 = .ok (.goto 4, 3) := by decide +kernel
theorem d28_34 : decode method_3_code 34 = .ok (.ireturn, 1) := by decide +kernel
theorem d28_33 : decode method_3_code 33 = .ok (.iconst 0, 1) := by decide +kernel
theorem d28_15 : decode method_3_code 15 = .ok (.iload_n 0, 1) := by decide +kernel
theorem d28_16 : decode method_3_code 16 = .ok (.bipush 90, 2) := by decide +kernel
theorem d28_18 : decode method_3_code 18 = .ok (.if_icmp .gt 5, 3) := by decide +kernel
theorem d28_21 : decode method_3_code 21 = .ok (.iconst 1, 1) := by decide +kernel
theorem d28_22 : decode method_3_code 22 = .ok (.ireturn, 1) := by decide +kernel
theorem d28_7 : decode method_3_code 7 = .ok (.iconst 1, 1) := by decide +kernel
theorem d28_8 : decode method_3_code 8 = .ok (.ireturn, 1) := by decide +kernel
theorem ef_2_vvvvn (m : MethodId) (x0 : Addr) (x1 : Addr) (x2 : Int32) (x3 : Int32) : entryFrame m #[(.ref x0), (.ref x1), (.int x2), (.int x3), .null] 6 = mkF m 0 #[.val (.ref x0), .val (.ref x1), .val (.int x2), .val (.int x3), .val .null, .unset] [] := by first | (simp [entryFrame, mkF, argsToLocals, Value.category]; done) | rfl
theorem pn_java_lang_String : plainName "java/lang/String" = true := by first | (simp [plainName, overriddenIn]; done) | decide +kernel
theorem d2_0 : decode jdk_42_method_149_code 0 = .ok (.aload_n 0, 1) := by decide +kernel
theorem d2_1 : decode jdk_42_method_149_code 1 = .ok (.invokespecial 1, 3) := by decide +kernel
theorem d2_4 : decode jdk_42_method_149_code 4 = .ok (.iload_n 3, 1) := by decide +kernel
theorem d2_5 : decode jdk_42_method_149_code 5 = .ok (.ifCond .ne 22, 3) := by decide +kernel
theorem d2_8 : decode jdk_42_method_149_code 8 = .ok (.aload_n 0, 1) := by decide +kernel
theorem d2_9 : decode jdk_42_method_149_code 9 = .ok (.ldc 7, 2) := by decide +kernel
theorem d2_11 : decode jdk_42_method_149_code 11 = .ok (.getfield 9, 3) := by decide +kernel
theorem d2_14 : decode jdk_42_method_149_code 14 = .ok (.putfield 9, 3) := by decide +kernel
theorem d2_17 : decode jdk_42_method_149_code 17 = .ok (.aload_n 0, 1) := by decide +kernel
theorem d2_18 : decode jdk_42_method_149_code 18 = .ok (.ldc 7, 2) := by decide +kernel
theorem d2_20 : decode jdk_42_method_149_code 20 = .ok (.getfield 15, 3) := by decide +kernel
theorem d2_23 : decode jdk_42_method_149_code 23 = .ok (.putfield 15, 3) := by decide +kernel
theorem d2_26 : decode jdk_42_method_149_code 26 = .ok (.return_, 1) := by decide +kernel
theorem ef_1 (m : MethodId) (x0 : Addr) (x1 : Addr) : entryFrame m #[(.ref x0), (.ref x1)] 2 = mkF m 0 #[.val (.ref x0), .val (.ref x1)] [] := by first | (simp [entryFrame, mkF, argsToLocals, Value.category]; done) | rfl
theorem d1_0 : decode jdk_42_method_3_code 0 = .ok (.aload_n 0, 1) := by decide +kernel
theorem d1_1 : decode jdk_42_method_3_code 1 = .ok (.aload_n 1, 1) := by decide +kernel
theorem d1_2 : decode jdk_42_method_3_code 2 = .ok (.iconst 0, 1) := by decide +kernel
theorem d1_3 : decode jdk_42_method_3_code 3 = .ok (.aload_n 1, 1) := by decide +kernel
theorem d1_4 : decode jdk_42_method_3_code 4 = .ok (.arraylength, 1) := by decide +kernel
theorem d1_5 : decode jdk_42_method_3_code 5 = .ok (.aconst_null, 1) := by decide +kernel
theorem d1_6 : decode jdk_42_method_3_code 6 = .ok (.invokespecial 27, 3) := by decide +kernel
theorem pd_1 : parseMethodDescriptor "([CIILjava/lang/Void;)V" = some ⟨[(.array .char), .int, .int, (.object "java/lang/Void")], none⟩ := by decide +kernel
theorem d1_9 : decode jdk_42_method_3_code 9 = .ok (.return_, 1) := by decide +kernel
theorem ef_19 (m : MethodId) (x0 : Int32) : entryFrame m #[(.int x0)] 1 = mkF m 0 #[.val (.int x0)] [] := by first | (simp [entryFrame, mkF, argsToLocals, Value.category]; done) | rfl
theorem pn_java_lang_StringUTF16 : plainName "java/lang/StringUTF16" = true := by first | (simp [plainName, overriddenIn]; done) | decide +kernel
theorem d19_0 : decode jdk_52_method_3_code 0 = .ok (.iload_n 0, 1) := by decide +kernel
theorem d19_1 : decode jdk_52_method_3_code 1 = .ok (.ifCond .ge 11, 3) := by decide +kernel
theorem d19_12 : decode jdk_52_method_3_code 12 = .ok (.iload_n 0, 1) := by decide +kernel
theorem d19_13 : decode jdk_52_method_3_code 13 = .ok (.ldc 20, 2) := by decide +kernel
theorem d19_15 : decode jdk_52_method_3_code 15 = .ok (.if_icmp .lt 40, 3) := by decide +kernel
theorem d19_55 : decode jdk_52_method_3_code 55 = .ok (.iload_n 0, 1) := by decide +kernel
theorem d19_56 : decode jdk_52_method_3_code 56 = .ok (.iconst 1, 1) := by decide +kernel
theorem d19_57 : decode jdk_52_method_3_code 57 = .ok (.ishl, 1) := by decide +kernel
theorem d19_58 : decode jdk_52_method_3_code 58 = .ok (.ireturn, 1) := by decide +kernel
theorem ef_18 (m : MethodId) (x0 : Int32) : entryFrame m #[(.int x0)] 1 = mkF m 0 #[.val (.int x0)] [] := by first | (simp [entryFrame, mkF, argsToLocals, Value.category]; done) | rfl
theorem d18_0 : decode jdk_52_method_2_code 0 = .ok (.iload_n 0, 1) := by decide +kernel
theorem d18_1 : decode jdk_52_method_2_code 1 = .ok (.invokestatic 11, 3) := by decide +kernel
theorem pd_2 : parseMethodDescriptor "(I)I" = some ⟨[.int], some .int⟩ := by decide +kernel
theorem d18_4 : decode jdk_52_method_2_code 4 = .ok (.newarray .byte, 2) := by decide +kernel
theorem d18_6 : decode jdk_52_method_2_code 6 = .ok (.areturn, 1) := by decide +kernel
theorem ef_20 (m : MethodId) (x0 : Addr) (x1 : Int32) (x2 : Int32) : entryFrame m #[(.ref x0), (.int x1), (.int x2)] 3 = mkF m 0 #[.val (.ref x0), .val (.int x1), .val (.int x2)] [] := by first | (simp [entryFrame, mkF, argsToLocals, Value.category]; done) | rfl
theorem d20_0 : decode jdk_52_method_4_code 0 = .ok (.getstatic 44, 3) := by decide +kernel
theorem d20_3 : decode jdk_52_method_4_code 3 = .ok (.ifCond .ne 25, 3) := by decide +kernel
theorem d20_28 : decode jdk_52_method_4_code 28 = .ok (.iload_n 1, 1) := by decide +kernel
theorem d20_29 : decode jdk_52_method_4_code 29 = .ok (.iconst 1, 1) := by decide +kernel
theorem d20_30 : decode jdk_52_method_4_code 30 = .ok (.ishl, 1) := by decide +kernel
theorem d20_31 : decode jdk_52_method_4_code 31 = .ok (.istore_n 1, 1) := by decide +kernel
theorem d20_32 : decode jdk_52_method_4_code 32 = .ok (.aload_n 0, 1) := by decide +kernel
theorem d20_33 : decode jdk_52_method_4_code 33 = .ok (.iload_n 1, 1) := by decide +kernel
theorem d20_34 : decode jdk_52_method_4_code 34 = .ok (.iinc 1 1, 3) := by decide +kernel
theorem d20_37 : decode jdk_52_method_4_code 37 = .ok (.iload_n 2, 1) := by decide +kernel
theorem d20_38 : decode jdk_52_method_4_code 38 = .ok (.getstatic 59, 3) := by decide +kernel
theorem d20_41 : decode jdk_52_method_4_code 41 = .ok (.ishr, 1) := by decide +kernel
theorem d20_42 : decode jdk_52_method_4_code 42 = .ok (.i2b, 1) := by decide +kernel
theorem d20_43 : decode jdk_52_method_4_code 43 = .ok (.bastore, 1) := by decide +kernel
theorem d20_44 : decode jdk_52_method_4_code 44 = .ok (.aload_n 0, 1) := by decide +kernel
theorem d20_45 : decode jdk_52_method_4_code 45 = .ok (.iload_n 1, 1) := by decide +kernel
theorem d20_46 : decode jdk_52_method_4_code 46 = .ok (.iload_n 2, 1) := by decide +kernel
theorem d20_47 : decode jdk_52_method_4_code 47 = .ok (.getstatic 63, 3) := by decide +kernel
theorem d20_50 : decode jdk_52_method_4_code 50 = .ok (.ishr, 1) := by decide +kernel
theorem d20_51 : decode jdk_52_method_4_code 51 = .ok (.i2b, 1) := by decide +kernel
theorem d20_52 : decode jdk_52_method_4_code 52 = .ok (.bastore, 1) := by decide +kernel
theorem d20_53 : decode jdk_52_method_4_code 53 = .ok (.return_, 1) := by decide +kernel
theorem ef_17 (m : MethodId) (x0 : Addr) (x1 : Int32) (x2 : Int32) : entryFrame m #[(.ref x0), (.int x1), (.int x2)] 5 = mkF m 0 #[.val (.ref x0), .val (.int x1), .val (.int x2), .unset, .unset] [] := by first | (simp [entryFrame, mkF, argsToLocals, Value.category]; done) | rfl
theorem d17_0 : decode jdk_52_method_14_code 0 = .ok (.iload_n 2, 1) := by decide +kernel
theorem d17_1 : decode jdk_52_method_14_code 1 = .ok (.invokestatic 107, 3) := by decide +kernel
theorem pd_3 : parseMethodDescriptor "(I)[B" = some ⟨[.int], some (.array .byte)⟩ := by decide +kernel
theorem d17_4 : decode jdk_52_method_14_code 4 = .ok (.astore_n 3, 1) := by decide +kernel
theorem d17_5 : decode jdk_52_method_14_code 5 = .ok (.iconst 0, 1) := by decide +kernel
theorem d17_6 : decode jdk_52_method_14_code 6 = .ok (.istore 4, 2) := by decide +kernel
theorem d17_8 : decode jdk_52_method_14_code 8 = .ok (.iload 4, 2) := by decide +kernel
theorem d17_10 : decode jdk_52_method_14_code 10 = .ok (.iload_n 2, 1) := by decide +kernel
theorem d17_11 : decode jdk_52_method_14_code 11 = .ok (.if_icmp .ge 21, 3) := by decide +kernel
theorem d17_14 : decode jdk_52_method_14_code 14 = .ok (.aload_n 3, 1) := by decide +kernel
theorem d17_15 : decode jdk_52_method_14_code 15 = .ok (.iload 4, 2) := by decide +kernel
theorem d17_17 : decode jdk_52_method_14_code 17 = .ok (.aload_n 0, 1) := by decide +kernel
theorem d17_18 : decode jdk_52_method_14_code 18 = .ok (.iload_n 1, 1) := by decide +kernel
theorem d17_19 : decode jdk_52_method_14_code 19 = .ok (.caload, 1) := by decide +kernel
theorem d17_20 : decode jdk_52_method_14_code 20 = .ok (.invokestatic 111, 3) := by decide +kernel
theorem pd_4 : parseMethodDescriptor "([BII)V" = some ⟨[(.array .byte), .int, .int], none⟩ := by decide +kernel
theorem d17_23 : decode jdk_52_method_14_code 23 = .ok (.iinc 1 1, 3) := by decide +kernel
theorem d17_26 : decode jdk_52_method_14_code 26 = .ok (.iinc 4 1, 3) := by decide +kernel
theorem d17_29 : decode jdk_52_method_14_code 29 = .ok (.goto (-21), 3) := by decide +kernel
theorem d17_32 : decode jdk_52_method_14_code 32 = .ok (.aload_n 3, 1) := by decide +kernel
theorem d17_33 : decode jdk_52_method_14_code 33 = .ok (.areturn, 1) := by decide +kernel
theorem ef_21 (m : MethodId) (x0 : Addr) (x1 : Int32) : entryFrame m #[(.ref x0), (.int x1)] 2 = mkF m 0 #[.val (.ref x0), .val (.int x1)] [] := by first | (simp [entryFrame, mkF, argsToLocals, Value.category]; done) | rfl
theorem d21_0 : decode jdk_52_method_5_code 0 = .ok (.getstatic 44, 3) := by decide +kernel
theorem d21_3 : decode jdk_52_method_5_code 3 = .ok (.ifCond .ne 25, 3) := by decide +kernel
theorem d21_28 : decode jdk_52_method_5_code 28 = .ok (.iload_n 1, 1) := by decide +kernel
theorem d21_29 : decode jdk_52_method_5_code 29 = .ok (.iconst 1, 1) := by decide +kernel
theorem d21_30 : decode jdk_52_method_5_code 30 = .ok (.ishl, 1) := by decide +kernel
theorem d21_31 : decode jdk_52_method_5_code 31 = .ok (.istore_n 1, 1) := by decide +kernel
theorem d21_32 : decode jdk_52_method_5_code 32 = .ok (.aload_n 0, 1) := by decide +kernel
theorem d21_33 : decode jdk_52_method_5_code 33 = .ok (.iload_n 1, 1) := by decide +kernel
theorem d21_34 : decode jdk_52_method_5_code 34 = .ok (.iinc 1 1, 3) := by decide +kernel
theorem d21_37 : decode jdk_52_method_5_code 37 = .ok (.baload, 1) := by decide +kernel
theorem d21_38 : decode jdk_52_method_5_code 38 = .ok (.sipush 255, 3) := by decide +kernel
theorem d21_41 : decode jdk_52_method_5_code 41 = .ok (.iand, 1) := by decide +kernel
theorem d21_42 : decode jdk_52_method_5_code 42 = .ok (.getstatic 59, 3) := by decide +kernel
theorem d21_45 : decode jdk_52_method_5_code 45 = .ok (.ishl, 1) := by decide +kernel
theorem d21_46 : decode jdk_52_method_5_code 46 = .ok (.aload_n 0, 1) := by decide +kernel
theorem d21_47 : decode jdk_52_method_5_code 47 = .ok (.iload_n 1, 1) := by decide +kernel
theorem d21_48 : decode jdk_52_method_5_code 48 = .ok (.baload, 1) := by decide +kernel
theorem d21_49 : decode jdk_52_method_5_code 49 = .ok (.sipush 255, 3) := by decide +kernel
theorem d21_52 : decode jdk_52_method_5_code 52 = .ok (.iand, 1) := by decide +kernel
theorem d21_53 : decode jdk_52_method_5_code 53 = .ok (.getstatic 63, 3) := by decide +kernel
theorem d21_56 : decode jdk_52_method_5_code 56 = .ok (.ishl, 1) := by decide +kernel
theorem d21_57 : decode jdk_52_method_5_code 57 = .ok (.ior, 1) := by decide +kernel
theorem d21_58 : decode jdk_52_method_5_code 58 = .ok (.i2c, 1) := by decide +kernel
theorem d21_59 : decode jdk_52_method_5_code 59 = .ok (.ireturn, 1) := by decide +kernel
theorem ef_8 (m : MethodId) (x0 : Addr) (x1 : Int32) : entryFrame m #[(.ref x0), (.int x1)] 2 = mkF m 0 #[.val (.ref x0), .val (.int x1)] [] := by first | (simp [entryFrame, mkF, argsToLocals, Value.category]; done) | rfl
theorem d8_0 : decode jdk_52_method_15_code 0 = .ok (.iload_n 1, 1) := by decide +kernel
theorem d8_1 : decode jdk_52_method_15_code 1 = .ok (.aload_n 0, 1) := by decide +kernel
theorem d8_2 : decode jdk_52_method_15_code 2 = .ok (.arraylength, 1) := by decide +kernel
theorem d8_3 : decode jdk_52_method_15_code 3 = .ok (.isub, 1) := by decide +kernel
theorem d8_4 : decode jdk_52_method_15_code 4 = .ok (.bipush 31, 2) := by decide +kernel
theorem d8_6 : decode jdk_52_method_15_code 6 = .ok (.iushr, 1) := by decide +kernel
theorem d8_7 : decode jdk_52_method_15_code 7 = .ok (.i2b, 1) := by decide +kernel
theorem d8_8 : decode jdk_52_method_15_code 8 = .ok (.ireturn, 1) := by decide +kernel
theorem ef_7 (m : MethodId) (x0 : Addr) (x1 : Int32) (x2 : Addr) (x3 : Int32) (x4 : Int32) : entryFrame m #[(.ref x0), (.int x1), (.ref x2), (.int x3), (.int x4)] 7 = mkF m 0 #[.val (.ref x0), .val (.int x1), .val (.ref x2), .val (.int x3), .val (.int x4), .unset, .unset] [] := by first | (simp [entryFrame, mkF, argsToLocals, Value.category]; done) | rfl
theorem d7_0 : decode jdk_52_method_21_code 0 = .ok (.iconst 0, 1) := by decide +kernel
theorem d7_1 : decode jdk_52_method_21_code 1 = .ok (.istore 5, 2) := by decide +kernel
theorem d7_3 : decode jdk_52_method_21_code 3 = .ok (.iload 5, 2) := by decide +kernel
theorem d7_5 : decode jdk_52_method_21_code 5 = .ok (.iload 4, 2) := by decide +kernel
theorem d7_7 : decode jdk_52_method_21_code 7 = .ok (.if_icmp .ge 37, 3) := by decide +kernel
theorem d7_10 : decode jdk_52_method_21_code 10 = .ok (.aload_n 0, 1) := by decide +kernel
theorem d7_11 : decode jdk_52_method_21_code 11 = .ok (.iload_n 1, 1) := by decide +kernel
theorem d7_12 : decode jdk_52_method_21_code 12 = .ok (.caload, 1) := by decide +kernel
theorem d7_13 : decode jdk_52_method_21_code 13 = .ok (.istore 6, 2) := by decide +kernel
theorem d7_15 : decode jdk_52_method_21_code 15 = .ok (.iload 6, 2) := by decide +kernel
theorem d7_17 : decode jdk_52_method_21_code 17 = .ok (.sipush 255, 3) := by decide +kernel
theorem d7_20 : decode jdk_52_method_21_code 20 = .ok (.if_icmp .le 6, 3) := by decide +kernel
theorem d7_23 : decode jdk_52_method_21_code 23 = .ok (.iload 5, 2) := by decide +kernel
theorem d7_25 : decode jdk_52_method_21_code 25 = .ok (.ireturn, 1) := by decide +kernel
theorem ef_6 (m : MethodId) (x0 : Addr) (x1 : Int32) (x2 : Int32) : entryFrame m #[(.ref x0), (.int x1), (.int x2)] 6 = mkF m 0 #[.val (.ref x0), .val (.int x1), .val (.int x2), .unset, .unset, .unset] [] := by first | (simp [entryFrame, mkF, argsToLocals, Value.category]; done) | rfl
theorem d6_0 : decode jdk_52_method_16_code 0 = .ok (.iload_n 2, 1) := by decide +kernel
theorem d6_1 : decode jdk_52_method_16_code 1 = .ok (.newarray .byte, 2) := by decide +kernel
theorem d6_3 : decode jdk_52_method_16_code 3 = .ok (.astore_n 3, 1) := by decide +kernel
theorem d6_4 : decode jdk_52_method_16_code 4 = .ok (.aload_n 0, 1) := by decide +kernel
theorem d6_5 : decode jdk_52_method_16_code 5 = .ok (.iload_n 1, 1) := by decide +kernel
theorem d6_6 : decode jdk_52_method_16_code 6 = .ok (.aload_n 3, 1) := by decide +kernel
theorem d6_7 : decode jdk_52_method_16_code 7 = .ok (.iconst 0, 1) := by decide +kernel
theorem d6_8 : decode jdk_52_method_16_code 8 = .ok (.iload_n 2, 1) := by decide +kernel
theorem d6_9 : decode jdk_52_method_16_code 9 = .ok (.invokestatic 115, 3) := by decide +kernel
theorem pd_5 : parseMethodDescriptor "([CI[BII)I" = some ⟨[(.array .char), .int, (.array .byte), .int, .int], some .int⟩ := by decide +kernel
theorem d6_12 : decode jdk_52_method_16_code 12 = .ok (.istore 4, 2) := by decide +kernel
theorem d6_14 : decode jdk_52_method_16_code 14 = .ok (.iload 4, 2) := by decide +kernel
theorem d6_16 : decode jdk_52_method_16_code 16 = .ok (.iload_n 2, 1) := by decide +kernel
theorem d6_17 : decode jdk_52_method_16_code 17 = .ok (.if_icmp .eq 40, 3) := by decide +kernel
theorem d6_20 : decode jdk_52_method_16_code 20 = .ok (.aload_n 0, 1) := by decide +kernel
theorem d6_21 : decode jdk_52_method_16_code 21 = .ok (.iload_n 1, 1) := by decide +kernel
theorem d6_22 : decode jdk_52_method_16_code 22 = .ok (.iload_n 2, 1) := by decide +kernel
theorem d6_23 : decode jdk_52_method_16_code 23 = .ok (.invokestatic 119, 3) := by decide +kernel
theorem pd_6 : parseMethodDescriptor "([CII)[B" = some ⟨[(.array .char), .int, .int], some (.array .byte)⟩ := by decide +kernel
theorem d6_26 : decode jdk_52_method_16_code 26 = .ok (.astore 5, 2) := by decide +kernel
theorem d6_28 : decode jdk_52_method_16_code 28 = .ok (.aload 5, 2) := by decide +kernel
theorem d6_30 : decode jdk_52_method_16_code 30 = .ok (.iload 4, 2) := by decide +kernel
theorem d6_32 : decode jdk_52_method_16_code 32 = .ok (.invokestatic 71, 3) := by decide +kernel
theorem pd_7 : parseMethodDescriptor "([BI)C" = some ⟨[(.array .byte), .int], some .char⟩ := by decide +kernel
theorem d6_35 : decode jdk_52_method_16_code 35 = .ok (.sipush 255, 3) := by decide +kernel
theorem d6_38 : decode jdk_52_method_16_code 38 = .ok (.if_icmp .gt 16, 3) := by decide +kernel
theorem d6_54 : decode jdk_52_method_16_code 54 = .ok (.aload 5, 2) := by decide +kernel
theorem d6_56 : decode jdk_52_method_16_code 56 = .ok (.areturn, 1) := by decide +kernel
theorem d2_27 : decode jdk_42_method_149_code 27 = .ok (.getstatic 38, 3) := by decide +kernel
theorem d2_30 : decode jdk_42_method_149_code 30 = .ok (.ifCond .eq 28, 3) := by decide +kernel
theorem d2_33 : decode jdk_42_method_149_code 33 = .ok (.aload_n 1, 1) := by decide +kernel
theorem d2_34 : decode jdk_42_method_149_code 34 = .ok (.iload_n 2, 1) := by decide +kernel
theorem d2_35 : decode jdk_42_method_149_code 35 = .ok (.iload_n 3, 1) := by decide +kernel
theorem d2_36 : decode jdk_42_method_149_code 36 = .ok (.invokestatic 177, 3) := by decide +kernel
theorem d2_39 : decode jdk_42_method_149_code 39 = .ok (.astore 5, 2) := by decide +kernel
theorem d2_41 : decode jdk_42_method_149_code 41 = .ok (.aload_n 0, 1) := by decide +kernel
theorem d2_42 : decode jdk_42_method_149_code 42 = .ok (.aload 5, 2) := by decide +kernel
theorem d2_44 : decode jdk_42_method_149_code 44 = .ok (.iload_n 3, 1) := by decide +kernel
theorem d2_45 : decode jdk_42_method_149_code 45 = .ok (.invokestatic 47, 3) := by decide +kernel
theorem pd_8 : parseMethodDescriptor "([BI)B" = some ⟨[(.array .byte), .int], some .byte⟩ := by decide +kernel
theorem d2_48 : decode jdk_42_method_149_code 48 = .ok (.putfield 15, 3) := by decide +kernel
theorem d2_51 : decode jdk_42_method_149_code 51 = .ok (.aload_n 0, 1) := by decide +kernel
theorem d2_52 : decode jdk_42_method_149_code 52 = .ok (.aload 5, 2) := by decide +kernel
theorem d2_54 : decode jdk_42_method_149_code 54 = .ok (.putfield 9, 3) := by decide +kernel
theorem d2_57 : decode jdk_42_method_149_code 57 = .ok (.return_, 1) := by decide +kernel
theorem d7_26 : decode jdk_52_method_21_code 26 = .ok (.aload_n 2, 1) := by decide +kernel
theorem d7_27 : decode jdk_52_method_21_code 27 = .ok (.iload_n 3, 1) := by decide +kernel
theorem d7_28 : decode jdk_52_method_21_code 28 = .ok (.iload 6, 2) := by decide +kernel
theorem d7_30 : decode jdk_52_method_21_code 30 = .ok (.i2b, 1) := by decide +kernel
theorem d7_31 : decode jdk_52_method_21_code 31 = .ok (.bastore, 1) := by decide +kernel
theorem d7_32 : decode jdk_52_method_21_code 32 = .ok (.iinc 1 1, 3) := by decide +kernel
theorem d7_35 : decode jdk_52_method_21_code 35 = .ok (.iinc 3 1, 3) := by decide +kernel
theorem d7_38 : decode jdk_52_method_21_code 38 = .ok (.iinc 5 1, 3) := by decide +kernel
theorem d7_41 : decode jdk_52_method_21_code 41 = .ok (.goto (-38), 3) := by decide +kernel
theorem ef_27 (m : MethodId) (x0 : Addr) : entryFrame m #[(.ref x0)] 1 = mkF m 0 #[.val (.ref x0)] [] := by first | (simp [entryFrame, mkF, argsToLocals, Value.category]; done) | rfl
theorem d27_0 : decode jdk_42_method_152_code 0 = .ok (.getstatic 38, 3) := by decide +kernel
theorem d27_3 : decode jdk_42_method_152_code 3 = .ok (.ifCond .eq 10, 3) := by decide +kernel
theorem d27_6 : decode jdk_42_method_152_code 6 = .ok (.aload_n 0, 1) := by decide +kernel
theorem d27_7 : decode jdk_42_method_152_code 7 = .ok (.getfield 15, 3) := by decide +kernel
theorem d27_10 : decode jdk_42_method_152_code 10 = .ok (.goto 4, 3) := by decide +kernel
theorem d27_14 : decode jdk_42_method_152_code 14 = .ok (.ireturn, 1) := by decide +kernel
theorem ef_11 (m : MethodId) (x0 : Addr) : entryFrame m #[(.ref x0)] 1 = mkF m 0 #[.val (.ref x0)] [] := by first | (simp [entryFrame, mkF, argsToLocals, Value.category]; done) | rfl
theorem d11_0 : decode jdk_42_method_154_code 0 = .ok (.getstatic 38, 3) := by decide +kernel
theorem d11_3 : decode jdk_42_method_154_code 3 = .ok (.ifCond .eq 14, 3) := by decide +kernel
theorem d11_6 : decode jdk_42_method_154_code 6 = .ok (.aload_n 0, 1) := by decide +kernel
theorem d11_7 : decode jdk_42_method_154_code 7 = .ok (.getfield 15, 3) := by decide +kernel
theorem d11_10 : decode jdk_42_method_154_code 10 = .ok (.ifCond .ne 7, 3) := by decide +kernel
theorem d11_17 : decode jdk_42_method_154_code 17 = .ok (.iconst 0, 1) := by decide +kernel
theorem d11_18 : decode jdk_42_method_154_code 18 = .ok (.ireturn, 1) := by decide +kernel
theorem ef_14_vvn (m : MethodId) (x0 : Int32) (x1 : Int32) : entryFrame m #[(.int x0), (.int x1), .null] 3 = mkF m 0 #[.val (.int x0), .val (.int x1), .val .null] [] := by first | (simp [entryFrame, mkF, argsToLocals, Value.category]; done) | rfl
theorem pn_jdk_internal_util_Preconditions : plainName "jdk/internal/util/Preconditions" = true := by first | (simp [plainName, overriddenIn]; done) | decide +kernel
theorem d14_0 : decode jdk_41_method_11_code 0 = .ok (.iload_n 0, 1) := by decide +kernel
theorem d14_1 : decode jdk_41_method_11_code 1 = .ok (.ifCond .lt 8, 3) := by decide +kernel
theorem d14_4 : decode jdk_41_method_11_code 4 = .ok (.iload_n 0, 1) := by decide +kernel
theorem d14_5 : decode jdk_41_method_11_code 5 = .ok (.iload_n 1, 1) := by decide +kernel
theorem d14_6 : decode jdk_41_method_11_code 6 = .ok (.if_icmp .lt 10, 3) := by decide +kernel
theorem d14_16 : decode jdk_41_method_11_code 16 = .ok (.iload_n 0, 1) := by decide +kernel
theorem d14_17 : decode jdk_41_method_11_code 17 = .ok (.ireturn, 1) := by decide +kernel
theorem ef_14 (m : MethodId) (x0 : Int32) (x1 : Int32) (x2 : Addr) : entryFrame m #[(.int x0), (.int x1), (.ref x2)] 3 = mkF m 0 #[.val (.int x0), .val (.int x1), .val (.ref x2)] [] := by first | (simp [entryFrame, mkF, argsToLocals, Value.category]; done) | rfl
theorem ef_13 (m : MethodId) (x0 : Int32) (x1 : Int32) : entryFrame m #[(.int x0), (.int x1)] 2 = mkF m 0 #[.val (.int x0), .val (.int x1)] [] := by first | (simp [entryFrame, mkF, argsToLocals, Value.category]; done) | rfl
theorem d13_0 : decode jdk_42_method_155_code 0 = .ok (.iload_n 0, 1) := by decide +kernel
theorem d13_1 : decode jdk_42_method_155_code 1 = .ok (.iload_n 1, 1) := by decide +kernel
theorem d13_2 : decode jdk_42_method_155_code 2 = .ok (.getstatic 1053, 3) := by decide +kernel
theorem d13_5 : decode jdk_42_method_155_code 5 = .ok (.invokestatic 1059, 3) := by decide +kernel
theorem pd_9 : parseMethodDescriptor "(IILjava/util/function/BiFunction;)I" = some ⟨[.int, .int, (.object "java/util/function/BiFunction")], some .int⟩ := by decide +kernel
theorem d13_8 : decode jdk_42_method_155_code 8 = .ok (.pop, 1) := by decide +kernel
theorem d13_9 : decode jdk_42_method_155_code 9 = .ok (.return_, 1) := by decide +kernel
theorem ef_24 (m : MethodId) (x0 : Addr) : entryFrame m #[(.ref x0)] 1 = mkF m 0 #[.val (.ref x0)] [] := by first | (simp [entryFrame, mkF, argsToLocals, Value.category]; done) | rfl
theorem d24_0 : decode jdk_52_method_6_code 0 = .ok (.aload_n 0, 1) := by decide +kernel
theorem d24_1 : decode jdk_52_method_6_code 1 = .ok (.arraylength, 1) := by decide +kernel
theorem d24_2 : decode jdk_52_method_6_code 2 = .ok (.iconst 1, 1) := by decide +kernel
theorem d24_3 : decode jdk_52_method_6_code 3 = .ok (.ishr, 1) := by decide +kernel
theorem d24_4 : decode jdk_52_method_6_code 4 = .ok (.ireturn, 1) := by decide +kernel
theorem ef_23 (m : MethodId) (x0 : Int32) (x1 : Addr) : entryFrame m #[(.int x0), (.ref x1)] 2 = mkF m 0 #[.val (.int x0), .val (.ref x1)] [] := by first | (simp [entryFrame, mkF, argsToLocals, Value.category]; done) | rfl
theorem d23_0 : decode jdk_52_method_91_code 0 = .ok (.iload_n 0, 1) := by decide +kernel
theorem d23_1 : decode jdk_52_method_91_code 1 = .ok (.aload_n 1, 1) := by decide +kernel
theorem d23_2 : decode jdk_52_method_91_code 2 = .ok (.invokestatic 48, 3) := by decide +kernel
theorem pd_10 : parseMethodDescriptor "([B)I" = some ⟨[(.array .byte)], some .int⟩ := by decide +kernel
theorem d23_5 : decode jdk_52_method_91_code 5 = .ok (.invokestatic 414, 3) := by decide +kernel
theorem pd_11 : parseMethodDescriptor "(II)V" = some ⟨[.int, .int], none⟩ := by decide +kernel
theorem d23_8 : decode jdk_52_method_91_code 8 = .ok (.return_, 1) := by decide +kernel
theorem ef_22 (m : MethodId) (x0 : Addr) (x1 : Int32) : entryFrame m #[(.ref x0), (.int x1)] 2 = mkF m 0 #[.val (.ref x0), .val (.int x1)] [] := by first | (simp [entryFrame, mkF, argsToLocals, Value.category]; done) | rfl
theorem d22_0 : decode jdk_52_method_83_code 0 = .ok (.iload_n 1, 1) := by decide +kernel
theorem d22_1 : decode jdk_52_method_83_code 1 = .ok (.aload_n 0, 1) := by decide +kernel
theorem d22_2 : decode jdk_52_method_83_code 2 = .ok (.invokestatic 67, 3) := by decide +kernel
theorem pd_12 : parseMethodDescriptor "(I[B)V" = some ⟨[.int, (.array .byte)], none⟩ := by decide +kernel
theorem d22_5 : decode jdk_52_method_83_code 5 = .ok (.aload_n 0, 1) := by decide +kernel
theorem d22_6 : decode jdk_52_method_83_code 6 = .ok (.iload_n 1, 1) := by decide +kernel
theorem d22_7 : decode jdk_52_method_83_code 7 = .ok (.invokestatic 71, 3) := by decide +kernel
theorem d22_10 : decode jdk_52_method_83_code 10 = .ok (.ireturn, 1) := by decide +kernel
theorem ef_10 (m : MethodId) (x0 : Addr) (x1 : Int32) : entryFrame m #[(.ref x0), (.int x1)] 2 = mkF m 0 #[.val (.ref x0), .val (.int x1)] [] := by first | (simp [entryFrame, mkF, argsToLocals, Value.category]; done) | rfl
theorem d10_0 : decode jdk_42_method_56_code 0 = .ok (.aload_n 0, 1) := by decide +kernel
theorem d10_1 : decode jdk_42_method_56_code 1 = .ok (.invokevirtual 492, 3) := by decide +kernel
theorem pd_13 : parseMethodDescriptor "()Z" = some ⟨[], some .boolean⟩ := by decide +kernel
theorem d10_4 : decode jdk_42_method_56_code 4 = .ok (.ifCond .eq 12, 3) := by decide +kernel
theorem d10_16 : decode jdk_42_method_56_code 16 = .ok (.aload_n 0, 1) := by decide +kernel
theorem d10_17 : decode jdk_42_method_56_code 17 = .ok (.getfield 9, 3) := by decide +kernel
theorem d10_20 : decode jdk_42_method_56_code 20 = .ok (.iload_n 1, 1) := by decide +kernel
theorem d10_21 : decode jdk_42_method_56_code 21 = .ok (.invokestatic 498, 3) := by decide +kernel
theorem d10_24 : decode jdk_42_method_56_code 24 = .ok (.ireturn, 1) := by decide +kernel
theorem ef_26 (m : MethodId) (x0 : Addr) : entryFrame m #[(.ref x0)] 1 = mkF m 0 #[.val (.ref x0)] [] := by first | (simp [entryFrame, mkF, argsToLocals, Value.category]; done) | rfl
theorem d26_0 : decode jdk_42_method_54_code 0 = .ok (.aload_n 0, 1) := by decide +kernel
theorem d26_1 : decode jdk_42_method_54_code 1 = .ok (.getfield 9, 3) := by decide +kernel
theorem d26_4 : decode jdk_42_method_54_code 4 = .ok (.arraylength, 1) := by decide +kernel
theorem d26_5 : decode jdk_42_method_54_code 5 = .ok (.aload_n 0, 1) := by decide +kernel
theorem d26_6 : decode jdk_42_method_54_code 6 = .ok (.invokevirtual 335, 3) := by decide +kernel
theorem pd_14 : parseMethodDescriptor "()B" = some ⟨[], some .byte⟩ := by decide +kernel
theorem d26_9 : decode jdk_42_method_54_code 9 = .ok (.ishr, 1) := by decide +kernel
theorem d26_10 : decode jdk_42_method_54_code 10 = .ok (.ireturn, 1) := by decide +kernel
theorem ef_5 (m : MethodId) (x0 : Addr) : entryFrame m #[(.ref x0)] 1 = mkF m 0 #[.val (.ref x0)] [] := by first | (simp [entryFrame, mkF, argsToLocals, Value.category]; done) | rfl
theorem d5_0 : decode jdk_42_method_55_code 0 = .ok (.aload_n 0, 1) := by decide +kernel
theorem d5_1 : decode jdk_42_method_55_code 1 = .ok (.getfield 9, 3) := by decide +kernel
theorem d5_4 : decode jdk_42_method_55_code 4 = .ok (.arraylength, 1) := by decide +kernel
theorem d5_5 : decode jdk_42_method_55_code 5 = .ok (.ifCond .ne 7, 3) := by decide +kernel
theorem d5_12 : decode jdk_42_method_55_code 12 = .ok (.iconst 0, 1) := by decide +kernel
theorem d5_13 : decode jdk_42_method_55_code 13 = .ok (.ireturn, 1) := by decide +kernel
theorem ef_4 (m : MethodId) (x0 : Addr) : entryFrame m #[(.ref x0)] 1 = mkF m 0 #[.val (.ref x0)] [] := by first | (simp [entryFrame, mkF, argsToLocals, Value.category]; done) | rfl
theorem d4_0 : decode prog_38_method_5_code 0 = .ok (.aload_n 0, 1) := by decide +kernel
theorem d4_1 : decode prog_38_method_5_code 1 = .ok (.invokevirtual 19, 3) := by decide +kernel
theorem d4_4 : decode prog_38_method_5_code 4 = .ok (.ifCond .ne 36, 3) := by decide +kernel
theorem d4_40 : decode prog_38_method_5_code 40 = .ok (.iconst 0, 1) := by decide +kernel
theorem d4_41 : decode prog_38_method_5_code 41 = .ok (.ireturn, 1) := by decide +kernel
theorem ef_25 (m : MethodId) (x0 : Addr) : entryFrame m #[(.ref x0)] 2 = mkF m 0 #[.val (.ref x0), .unset] [] := by first | (simp [entryFrame, mkF, argsToLocals, Value.category]; done) | rfl
theorem d25_0 : decode prog_38_method_6_code 0 = .ok (.iconst 1, 1) := by decide +kernel
theorem d25_1 : decode prog_38_method_6_code 1 = .ok (.istore_n 1, 1) := by decide +kernel
theorem d25_2 : decode prog_38_method_6_code 2 = .ok (.iload_n 1, 1) := by decide +kernel
theorem d25_3 : decode prog_38_method_6_code 3 = .ok (.aload_n 0, 1) := by decide +kernel
theorem d25_4 : decode prog_38_method_6_code 4 = .ok (.invokevirtual 33, 3) := by decide +kernel
theorem pd_15 : parseMethodDescriptor "()I" = some ⟨[], some .int⟩ := by decide +kernel
theorem d25_7 : decode prog_38_method_6_code 7 = .ok (.if_icmp .ge 22, 3) := by decide +kernel
theorem d25_29 : decode prog_38_method_6_code 29 = .ok (.iconst 1, 1) := by decide +kernel
theorem d25_30 : decode prog_38_method_6_code 30 = .ok (.ireturn, 1) := by decide +kernel
theorem d4_7 : decode prog_38_method_5_code 7 = .ok (.aload_n 0, 1) := by decide +kernel
theorem d4_8 : decode prog_38_method_5_code 8 = .ok (.iconst 0, 1) := by decide +kernel
theorem d4_9 : decode prog_38_method_5_code 9 = .ok (.invokevirtual 25, 3) := by decide +kernel
theorem pd_16 : parseMethodDescriptor "(I)C" = some ⟨[.int], some .char⟩ := by decide +kernel
theorem d4_12 : decode prog_38_method_5_code 12 = .ok (.invokestatic 7, 3) := by decide +kernel
theorem d4_15 : decode prog_38_method_5_code 15 = .ok (.ifCond .ne 14, 3) := by decide +kernel
theorem d4_18 : decode prog_38_method_5_code 18 = .ok (.aload_n 0, 1) := by decide +kernel
theorem d4_19 : decode prog_38_method_5_code 19 = .ok (.iconst 0, 1) := by decide +kernel
theorem d4_20 : decode prog_38_method_5_code 20 = .ok (.invokevirtual 25, 3) := by decide +kernel
theorem d4_23 : decode prog_38_method_5_code 23 = .ok (.invokestatic 16, 3) := by decide +kernel
theorem d4_26 : decode prog_38_method_5_code 26 = .ok (.ifCond .eq 14, 3) := by decide +kernel
theorem d4_29 : decode prog_38_method_5_code 29 = .ok (.aload_n 0, 1) := by decide +kernel
theorem d4_30 : decode prog_38_method_5_code 30 = .ok (.invokestatic 29, 3) := by decide +kernel
theorem pd_17 : parseMethodDescriptor "(Ljava/lang/String;)Z" = some ⟨[(.object "java/lang/String")], some .boolean⟩ := by decide +kernel
theorem d4_33 : decode prog_38_method_5_code 33 = .ok (.ifCond .eq 7, 3) := by decide +kernel
theorem d4_36 : decode prog_38_method_5_code 36 = .ok (.iconst 1, 1) := by decide +kernel
theorem d4_37 : decode prog_38_method_5_code 37 = .ok (.goto 4, 3) := by decide +kernel
theorem d25_10 : decode prog_38_method_6_code 10 = .ok (.aload_n 0, 1) := by decide +kernel
theorem d25_11 : decode prog_38_method_6_code 11 = .ok (.iload_n 1, 1) := by decide +kernel
theorem d25_12 : decode prog_38_method_6_code 12 = .ok (.invokevirtual 25, 3) := by decide +kernel
theorem d25_15 : decode prog_38_method_6_code 15 = .ok (.invokestatic 37, 3) := by decide +kernel
theorem d25_18 : decode prog_38_method_6_code 18 = .ok (.ifCond .ne 5, 3) := by decide +kernel
theorem d25_21 : decode prog_38_method_6_code 21 = .ok (.iconst 0, 1) := by decide +kernel
theorem d25_22 : decode prog_38_method_6_code 22 = .ok (.ireturn, 1) := by decide +kernel
theorem d25_23 : decode prog_38_method_6_code 23 = .ok (.iinc 1 1, 3) := by decide +kernel
theorem d25_26 : decode prog_38_method_6_code 26 = .ok (.goto (-24), 3) := by decide +kernel
theorem ef_0 (m : MethodId) (x0 : Int32) (x1 : Int32) (x2 : Int32) (x3 : Int32) : entryFrame m #[(.int x0), (.int x1), (.int x2), (.int x3)] maxLocals = mkF m 0 #[.val (.int x0), .val (.int x1), .val (.int x2), .val (.int x3), .unset, .unset, .unset, .unset, .unset, .unset, .unset] [] := by first | (simp [entryFrame, mkF, argsToLocals, Value.category, maxLocals]; done) | rfl
theorem pd_18 : parseMethodDescriptor "([C)V" = some ⟨[(.array .char)], none⟩ := by decide +kernel
def Q15 (Z : State) (p0 : Int32) (h0 : Heap) (n0 : Nat) (v : Option Value) (h : Heap) (L : List Loc) : Prop := v = some (.int (bI (97 ≤ p0.toInt ∧ p0.toInt ≤ 122))) ∧ Fr n0 L ∧ h = h0
set_option maxRecDepth 65536 in
set_option maxHeartbeats 40000000 in
theorem rm15 (l : Launch) (Z : State) (a0 : Array Value) (hw : ∀ d ∈ tables_1, d.before a0 Z = true) (ws : List Jvm.Cond) (p0 : Int32) (h0 : Heap) (n0 : Nat) (Z0 : n0 ≤ h0.size) :
    MF l Z mN0 prog_38_method_7_code 1 (some .boolean) ws (rK 0 0 0 0) #[(.int p0)] h0 (Q15 Z p0 h0 n0) := by
  refine MetFree.of_bodySF (plainFor_of_name pn_com_example_orql_orql_Syntax) hisR ?_
  intro p e s m args below meth c s₁ Bd hml0 hP hK
  obtain ⟨rfl, hZ, hh⟩ := hP
  have hx := Bd.exec
  have hby := Bd.bytes
  have hml : c.maxLocals = 1 := hml0
  have hown : s.vm.findClass "com/example/orql/orql/Syntax" = some m.cls := findClass_of_methodNamed Bd.named
  have hnm := (name_of_methodNamed Bd.named Bd.method).1
  have X0 : Stand p l e (rK 0 0 0 0) s m #[(.int p0)] below meth c s₁ [] 0 0 := Stand.of_body Bd
  have e0 : s₁.heap = h0 := by rw [← hh, Bd.state]; rfl
  have N0 := Fr.nil n0
  have pre0 : ∀ t, SF p e below s₁ m 0 #[vi p0] [] t → Steps p.tables e below (s₁.setTop (entryFrame m #[(.int p0)] 1)) t := fun t k => castTop (ef_15 m p0) k
  have pre2 : ∀ t, SF p e below s₁ m 3 #[vi p0] [(.int 97), (.int p0)] t → SF p e below s₁ m 0 #[vi p0] [] t := fun t k => (by
    show SF p e below s₁ m 0 #[vi p0] [] _
    refine XS.iloadN X0.here hx rfl (hb hby d15_0) rfl ?_
    refine XS.bipush X0.here hx rfl (hb hby d15_1) ?_
    exact k)
  by_cases hc1 : p0 < (97 : Int32)
  · skip
    have ohc1 : p0.toInt < 97 := own_lt.mp hc1
    obtain ⟨fs, hr, hrun, hended, hW, hsame⟩ := X0.leave (v := some (.int 0)) (fun h => by rw [Bd.returns] at h; cases h)
    refine ⟨_, _, pre0 _ (pre2 _ ?_), hrun, hended, _, _, rfl, ?_, ⟨_, rfl⟩, hW, hsame.mono (by decide) (by decide)⟩
    · skip
      show SF p e below s₁ m 3 #[vi p0] [(.int 97), (.int p0)] _
      refine XS.icmpYes X0.here hx rfl (pc0 := 3) (pc' := 16) rfl (hb hby d15_3) rfl (tlt hc1).1 (by decide) (by decide) ?_
      show SF p e below s₁ m 16 #[vi p0] [] _
      refine XS.iconst X0.here hx rfl (hb hby d15_16) ?_
      show SF p e below s₁ m 17 #[vi p0] [(.int 0)] _
      exact retN X0 hx (t := .boolean) Bd.returns (by simp) (hb hby d15_17) hr
    · show Q15 Z p0 h0 n0 _ s₁.heap _
      rw [e0]
      exact ⟨own_b0 (by first | trivial | omega), N0, rfl⟩
  · skip
    have ohc1 : 97 ≤ p0.toInt := own_nlt.mp hc1
    have pre4 : ∀ t, SF p e below s₁ m 9 #[vi p0] [(.int 122), (.int p0)] t → SF p e below s₁ m 0 #[vi p0] [] t := fun t k => pre2 t (by
      show SF p e below s₁ m 3 #[vi p0] [(.int 97), (.int p0)] _
      refine XS.icmpNo X0.here hx rfl (hb hby d15_3) rfl (flt hc1).1 ?_
      show SF p e below s₁ m 6 #[vi p0] [] _
      refine XS.iloadN X0.here hx rfl (hb hby d15_6) rfl ?_
      refine XS.bipush X0.here hx rfl (hb hby d15_7) ?_
      exact k)
    by_cases hc3 : (122 : Int32) < p0
    · skip
      have ohc3 : 122 < p0.toInt := own_lt.mp hc3
      obtain ⟨fs, hr, hrun, hended, hW, hsame⟩ := X0.leave (v := some (.int 0)) (fun h => by rw [Bd.returns] at h; cases h)
      refine ⟨_, _, pre0 _ (pre4 _ ?_), hrun, hended, _, _, rfl, ?_, ⟨_, rfl⟩, hW, hsame.mono (by decide) (by decide)⟩
      · skip
        show SF p e below s₁ m 9 #[vi p0] [(.int 122), (.int p0)] _
        refine XS.icmpYes X0.here hx rfl (pc0 := 9) (pc' := 16) rfl (hb hby d15_9) rfl (tlt hc3).2.2.1 (by decide) (by decide) ?_
        show SF p e below s₁ m 16 #[vi p0] [] _
        refine XS.iconst X0.here hx rfl (hb hby d15_16) ?_
        show SF p e below s₁ m 17 #[vi p0] [(.int 0)] _
        exact retN X0 hx (t := .boolean) Bd.returns (by simp) (hb hby d15_17) hr
      · show Q15 Z p0 h0 n0 _ s₁.heap _
        rw [e0]
        exact ⟨own_b0 (by first | trivial | omega), N0, rfl⟩
    · skip
      have ohc3 : p0.toInt ≤ 122 := own_nlt.mp hc3
      obtain ⟨fs, hr, hrun, hended, hW, hsame⟩ := X0.leave (v := some (.int 1)) (fun h => by rw [Bd.returns] at h; cases h)
      refine ⟨_, _, pre0 _ (pre4 _ ?_), hrun, hended, _, _, rfl, ?_, ⟨_, rfl⟩, hW, hsame.mono (by decide) (by decide)⟩
      · skip
        show SF p e below s₁ m 9 #[vi p0] [(.int 122), (.int p0)] _
        refine XS.icmpNo X0.here hx rfl (hb hby d15_9) rfl (flt hc3).2.2.1 ?_
        show SF p e below s₁ m 12 #[vi p0] [] _
        refine XS.iconst X0.here hx rfl (hb hby d15_12) ?_
        refine XS.goto X0.here hx rfl (pc0 := 13) (pc' := 17) rfl (hb hby d15_13) (by decide) (by decide) ?_
        show SF p e below s₁ m 17 #[vi p0] [(.int 1)] _
        exact retN X0 hx (t := .boolean) Bd.returns (by simp) (hb hby d15_17) hr
      · show Q15 Z p0 h0 n0 _ s₁.heap _
        rw [e0]
        exact ⟨own_b1 (by first | trivial | omega), N0, rfl⟩
def Q30 (Z : State) (p0 : Int32) (h0 : Heap) (n0 : Nat) (v : Option Value) (h : Heap) (L : List Loc) : Prop := v = some (.int (bI (65 ≤ p0.toInt ∧ p0.toInt ≤ 90))) ∧ Fr n0 L ∧ h = h0
set_option maxRecDepth 65536 in
set_option maxHeartbeats 40000000 in
theorem rm30 (l : Launch) (Z : State) (a0 : Array Value) (hw : ∀ d ∈ tables_1, d.before a0 Z = true) (ws : List Jvm.Cond) (p0 : Int32) (h0 : Heap) (n0 : Nat) (Z0 : n0 ≤ h0.size) :
    MF l Z mN1 prog_38_method_8_code 1 (some .boolean) ws (rK 0 0 0 0) #[(.int p0)] h0 (Q30 Z p0 h0 n0) := by
  refine MetFree.of_bodySF (plainFor_of_name pn_com_example_orql_orql_Syntax) hisR ?_
  intro p e s m args below meth c s₁ Bd hml0 hP hK
  obtain ⟨rfl, hZ, hh⟩ := hP
  have hx := Bd.exec
  have hby := Bd.bytes
  have hml : c.maxLocals = 1 := hml0
  have hown : s.vm.findClass "com/example/orql/orql/Syntax" = some m.cls := findClass_of_methodNamed Bd.named
  have hnm := (name_of_methodNamed Bd.named Bd.method).1
  have X0 : Stand p l e (rK 0 0 0 0) s m #[(.int p0)] below meth c s₁ [] 0 0 := Stand.of_body Bd
  have e0 : s₁.heap = h0 := by rw [← hh, Bd.state]; rfl
  have N0 := Fr.nil n0
  have pre0 : ∀ t, SF p e below s₁ m 0 #[vi p0] [] t → Steps p.tables e below (s₁.setTop (entryFrame m #[(.int p0)] 1)) t := fun t k => castTop (ef_30 m p0) k
  have pre2 : ∀ t, SF p e below s₁ m 3 #[vi p0] [(.int 65), (.int p0)] t → SF p e below s₁ m 0 #[vi p0] [] t := fun t k => (by
    show SF p e below s₁ m 0 #[vi p0] [] _
    refine XS.iloadN X0.here hx rfl (hb hby d30_0) rfl ?_
    refine XS.bipush X0.here hx rfl (hb hby d30_1) ?_
    exact k)
  by_cases hc1 : p0 < (65 : Int32)
  · skip
    have ohc1 : p0.toInt < 65 := own_lt.mp hc1
    obtain ⟨fs, hr, hrun, hended, hW, hsame⟩ := X0.leave (v := some (.int 0)) (fun h => by rw [Bd.returns] at h; cases h)
    refine ⟨_, _, pre0 _ (pre2 _ ?_), hrun, hended, _, _, rfl, ?_, ⟨_, rfl⟩, hW, hsame.mono (by decide) (by decide)⟩
    · skip
      show SF p e below s₁ m 3 #[vi p0] [(.int 65), (.int p0)] _
      refine XS.icmpYes X0.here hx rfl (pc0 := 3) (pc' := 16) rfl (hb hby d30_3) rfl (tlt hc1).1 (by decide) (by decide) ?_
      show SF p e below s₁ m 16 #[vi p0] [] _
      refine XS.iconst X0.here hx rfl (hb hby d30_16) ?_
      show SF p e below s₁ m 17 #[vi p0] [(.int 0)] _
      exact retN X0 hx (t := .boolean) Bd.returns (by simp) (hb hby d30_17) hr
    · show Q30 Z p0 h0 n0 _ s₁.heap _
      rw [e0]
      exact ⟨own_b0 (by first | trivial | omega), N0, rfl⟩
  · skip
    have ohc1 : 65 ≤ p0.toInt := own_nlt.mp hc1
    have pre4 : ∀ t, SF p e below s₁ m 9 #[vi p0] [(.int 90), (.int p0)] t → SF p e below s₁ m 0 #[vi p0] [] t := fun t k => pre2 t (by
      show SF p e below s₁ m 3 #[vi p0] [(.int 65), (.int p0)] _
      refine XS.icmpNo X0.here hx rfl (hb hby d30_3) rfl (flt hc1).1 ?_
      show SF p e below s₁ m 6 #[vi p0] [] _
      refine XS.iloadN X0.here hx rfl (hb hby d30_6) rfl ?_
      refine XS.bipush X0.here hx rfl (hb hby d30_7) ?_
      exact k)
    by_cases hc3 : (90 : Int32) < p0
    · skip
      have ohc3 : 90 < p0.toInt := own_lt.mp hc3
      obtain ⟨fs, hr, hrun, hended, hW, hsame⟩ := X0.leave (v := some (.int 0)) (fun h => by rw [Bd.returns] at h; cases h)
      refine ⟨_, _, pre0 _ (pre4 _ ?_), hrun, hended, _, _, rfl, ?_, ⟨_, rfl⟩, hW, hsame.mono (by decide) (by decide)⟩
      · skip
        show SF p e below s₁ m 9 #[vi p0] [(.int 90), (.int p0)] _
        refine XS.icmpYes X0.here hx rfl (pc0 := 9) (pc' := 16) rfl (hb hby d30_9) rfl (tlt hc3).2.2.1 (by decide) (by decide) ?_
        show SF p e below s₁ m 16 #[vi p0] [] _
        refine XS.iconst X0.here hx rfl (hb hby d30_16) ?_
        show SF p e below s₁ m 17 #[vi p0] [(.int 0)] _
        exact retN X0 hx (t := .boolean) Bd.returns (by simp) (hb hby d30_17) hr
      · show Q30 Z p0 h0 n0 _ s₁.heap _
        rw [e0]
        exact ⟨own_b0 (by first | trivial | omega), N0, rfl⟩
    · skip
      have ohc3 : p0.toInt ≤ 90 := own_nlt.mp hc3
      obtain ⟨fs, hr, hrun, hended, hW, hsame⟩ := X0.leave (v := some (.int 1)) (fun h => by rw [Bd.returns] at h; cases h)
      refine ⟨_, _, pre0 _ (pre4 _ ?_), hrun, hended, _, _, rfl, ?_, ⟨_, rfl⟩, hW, hsame.mono (by decide) (by decide)⟩
      · skip
        show SF p e below s₁ m 9 #[vi p0] [(.int 90), (.int p0)] _
        refine XS.icmpNo X0.here hx rfl (hb hby d30_9) rfl (flt hc3).2.2.1 ?_
        show SF p e below s₁ m 12 #[vi p0] [] _
        refine XS.iconst X0.here hx rfl (hb hby d30_12) ?_
        refine XS.goto X0.here hx rfl (pc0 := 13) (pc' := 17) rfl (hb hby d30_13) (by decide) (by decide) ?_
        show SF p e below s₁ m 17 #[vi p0] [(.int 1)] _
        exact retN X0 hx (t := .boolean) Bd.returns (by simp) (hb hby d30_17) hr
      · show Q30 Z p0 h0 n0 _ s₁.heap _
        rw [e0]
        exact ⟨own_b1 (by first | trivial | omega), N0, rfl⟩
def Q16 (Z : State) (p0 : Int32) (h0 : Heap) (n0 : Nat) (v : Option Value) (h : Heap) (L : List Loc) : Prop := v = some (.int (bI (48 ≤ p0.toInt ∧ p0.toInt ≤ 57))) ∧ Fr n0 L ∧ h = h0
set_option maxRecDepth 65536 in
set_option maxHeartbeats 40000000 in
theorem rm16 (l : Launch) (Z : State) (a0 : Array Value) (hw : ∀ d ∈ tables_1, d.before a0 Z = true) (ws : List Jvm.Cond) (p0 : Int32) (h0 : Heap) (n0 : Nat) (Z0 : n0 ≤ h0.size) :
    MF l Z mN2 prog_38_method_9_code 1 (some .boolean) ws (rK 0 0 0 0) #[(.int p0)] h0 (Q16 Z p0 h0 n0) := by
  refine MetFree.of_bodySF (plainFor_of_name pn_com_example_orql_orql_Syntax) hisR ?_
  intro p e s m args below meth c s₁ Bd hml0 hP hK
  obtain ⟨rfl, hZ, hh⟩ := hP
  have hx := Bd.exec
  have hby := Bd.bytes
  have hml : c.maxLocals = 1 := hml0
  have hown : s.vm.findClass "com/example/orql/orql/Syntax" = some m.cls := findClass_of_methodNamed Bd.named
  have hnm := (name_of_methodNamed Bd.named Bd.method).1
  have X0 : Stand p l e (rK 0 0 0 0) s m #[(.int p0)] below meth c s₁ [] 0 0 := Stand.of_body Bd
  have e0 : s₁.heap = h0 := by rw [← hh, Bd.state]; rfl
  have N0 := Fr.nil n0
  have pre0 : ∀ t, SF p e below s₁ m 0 #[vi p0] [] t → Steps p.tables e below (s₁.setTop (entryFrame m #[(.int p0)] 1)) t := fun t k => castTop (ef_16 m p0) k
  have pre2 : ∀ t, SF p e below s₁ m 3 #[vi p0] [(.int 48), (.int p0)] t → SF p e below s₁ m 0 #[vi p0] [] t := fun t k => (by
    show SF p e below s₁ m 0 #[vi p0] [] _
    refine XS.iloadN X0.here hx rfl (hb hby d16_0) rfl ?_
    refine XS.bipush X0.here hx rfl (hb hby d16_1) ?_
    exact k)
  by_cases hc1 : p0 < (48 : Int32)
  · skip
    have ohc1 : p0.toInt < 48 := own_lt.mp hc1
    obtain ⟨fs, hr, hrun, hended, hW, hsame⟩ := X0.leave (v := some (.int 0)) (fun h => by rw [Bd.returns] at h; cases h)
    refine ⟨_, _, pre0 _ (pre2 _ ?_), hrun, hended, _, _, rfl, ?_, ⟨_, rfl⟩, hW, hsame.mono (by decide) (by decide)⟩
    · skip
      show SF p e below s₁ m 3 #[vi p0] [(.int 48), (.int p0)] _
      refine XS.icmpYes X0.here hx rfl (pc0 := 3) (pc' := 16) rfl (hb hby d16_3) rfl (tlt hc1).1 (by decide) (by decide) ?_
      show SF p e below s₁ m 16 #[vi p0] [] _
      refine XS.iconst X0.here hx rfl (hb hby d16_16) ?_
      show SF p e below s₁ m 17 #[vi p0] [(.int 0)] _
      exact retN X0 hx (t := .boolean) Bd.returns (by simp) (hb hby d16_17) hr
    · show Q16 Z p0 h0 n0 _ s₁.heap _
      rw [e0]
      exact ⟨own_b0 (by first | trivial | omega), N0, rfl⟩
  · skip
    have ohc1 : 48 ≤ p0.toInt := own_nlt.mp hc1
    have pre4 : ∀ t, SF p e below s₁ m 9 #[vi p0] [(.int 57), (.int p0)] t → SF p e below s₁ m 0 #[vi p0] [] t := fun t k => pre2 t (by
      show SF p e below s₁ m 3 #[vi p0] [(.int 48), (.int p0)] _
      refine XS.icmpNo X0.here hx rfl (hb hby d16_3) rfl (flt hc1).1 ?_
      show SF p e below s₁ m 6 #[vi p0] [] _
      refine XS.iloadN X0.here hx rfl (hb hby d16_6) rfl ?_
      refine XS.bipush X0.here hx rfl (hb hby d16_7) ?_
      exact k)
    by_cases hc3 : (57 : Int32) < p0
    · skip
      have ohc3 : 57 < p0.toInt := own_lt.mp hc3
      obtain ⟨fs, hr, hrun, hended, hW, hsame⟩ := X0.leave (v := some (.int 0)) (fun h => by rw [Bd.returns] at h; cases h)
      refine ⟨_, _, pre0 _ (pre4 _ ?_), hrun, hended, _, _, rfl, ?_, ⟨_, rfl⟩, hW, hsame.mono (by decide) (by decide)⟩
      · skip
        show SF p e below s₁ m 9 #[vi p0] [(.int 57), (.int p0)] _
        refine XS.icmpYes X0.here hx rfl (pc0 := 9) (pc' := 16) rfl (hb hby d16_9) rfl (tlt hc3).2.2.1 (by decide) (by decide) ?_
        show SF p e below s₁ m 16 #[vi p0] [] _
        refine XS.iconst X0.here hx rfl (hb hby d16_16) ?_
        show SF p e below s₁ m 17 #[vi p0] [(.int 0)] _
        exact retN X0 hx (t := .boolean) Bd.returns (by simp) (hb hby d16_17) hr
      · show Q16 Z p0 h0 n0 _ s₁.heap _
        rw [e0]
        exact ⟨own_b0 (by first | trivial | omega), N0, rfl⟩
    · skip
      have ohc3 : p0.toInt ≤ 57 := own_nlt.mp hc3
      obtain ⟨fs, hr, hrun, hended, hW, hsame⟩ := X0.leave (v := some (.int 1)) (fun h => by rw [Bd.returns] at h; cases h)
      refine ⟨_, _, pre0 _ (pre4 _ ?_), hrun, hended, _, _, rfl, ?_, ⟨_, rfl⟩, hW, hsame.mono (by decide) (by decide)⟩
      · skip
        show SF p e below s₁ m 9 #[vi p0] [(.int 57), (.int p0)] _
        refine XS.icmpNo X0.here hx rfl (hb hby d16_9) rfl (flt hc3).2.2.1 ?_
        show SF p e below s₁ m 12 #[vi p0] [] _
        refine XS.iconst X0.here hx rfl (hb hby d16_12) ?_
        refine XS.goto X0.here hx rfl (pc0 := 13) (pc' := 17) rfl (hb hby d16_13) (by decide) (by decide) ?_
        show SF p e below s₁ m 17 #[vi p0] [(.int 1)] _
        exact retN X0 hx (t := .boolean) Bd.returns (by simp) (hb hby d16_17) hr
      · show Q16 Z p0 h0 n0 _ s₁.heap _
        rw [e0]
        exact ⟨own_b1 (by first | trivial | omega), N0, rfl⟩
def Q29 (Z : State) (p0 : Int32) (h0 : Heap) (n0 : Nat) (v : Option Value) (h : Heap) (L : List Loc) : Prop := v = some (.int (bI ((97 ≤ p0.toInt ∧ p0.toInt ≤ 122) ∨ (65 ≤ p0.toInt ∧ p0.toInt ≤ 90) ∨ (48 ≤ p0.toInt ∧ p0.toInt ≤ 57) ∨ p0.toInt = 95))) ∧ Fr n0 L ∧ h = h0
set_option maxRecDepth 65536 in
set_option maxHeartbeats 40000000 in
theorem rm29 (l : Launch) (Z : State) (a0 : Array Value) (hw : ∀ d ∈ tables_1, d.before a0 Z = true) (ws : List Jvm.Cond) (p0 : Int32) (h0 : Heap) (n0 : Nat) (Z0 : n0 ≤ h0.size) :
    MF l Z mN3 prog_38_method_2_code 1 (some .boolean) ws (rK 1 0 0 12) #[(.int p0)] h0 (Q29 Z p0 h0 n0) := by
  refine MetFree.of_bodySF (plainFor_of_name pn_com_example_orql_orql_Syntax) hisR ?_
  intro p e s m args below meth c s₁ Bd hml0 hP hK
  obtain ⟨rfl, hZ, hh⟩ := hP
  have hx := Bd.exec
  have hby := Bd.bytes
  have hml : c.maxLocals = 1 := hml0
  have hown : s.vm.findClass "com/example/orql/orql/Syntax" = some m.cls := findClass_of_methodNamed Bd.named
  have hnm := (name_of_methodNamed Bd.named Bd.method).1
  have X0 : Stand p l e (rK 1 0 0 12) s m #[(.int p0)] below meth c s₁ [] 0 0 := Stand.of_body Bd
  have e0 : s₁.heap = h0 := by rw [← hh, Bd.state]; rfl
  have N0 := Fr.nil n0
  have pre0 : ∀ t, SF p e below s₁ m 0 #[vi p0] [] t → Steps p.tables e below (s₁.setTop (entryFrame m #[(.int p0)] 1)) t := fun t k => castTop (ef_29 m p0) k
  obtain ⟨_, _, ⟨T1, L1, k1, n1⟩, -, X1, ⟨Lc1, hQ1, l1, y1, z1⟩, st1⟩ := Jvm.LawKit.callS X0 hx (y := mN0) hown (mvT hZ (tw hw 68 rfl)) (mvT hZ (tw hw 69 rfl)) (mvT hZ (tw hw 24 rfl)) (mvT hZ (tw hw 70 rfl)) (by decide) (backOf (W := 0) (rm15 l Z a0 hw [] p0  h0 n0 Z0 ) hZ (tw hw 70 rfl) (tw hw 24 rfl) (by decide) (by decide)) (g := (mkF m 1 #[vi p0] [(.int p0)])) rfl (by rw [hml]; rfl) (argsL := [(.int p0)]) (rest := []) (lenOf pd_0 rfl) rfl (by show 2 * 0 + _ ≤ _; exact Nat.le_of_eq rfl) (hb hby d29_1) (fun _ _ => ⟨rfl, e0, (by decide : 0 + 0 ≤ _), (by decide : 0 + 0 ≤ _)⟩)
  dsimp only [Pt.U, Pt.locs, Pt.cells, Pt.slots] at X1 l1 y1 z1 st1 hQ1
  subst l1 y1 z1
  obtain ⟨rfl, Nq1, e1⟩ := hQ1
  have N1 := Fr.app N0 Nq1
  have t1 := own_bt (P := 97 ≤ p0.toInt ∧ p0.toInt ≤ 122)
  have pre3 : ∀ t, SF p e below T1 m 4 #[vi p0] [(.int (bI (97 ≤ p0.toInt ∧ p0.toInt ≤ 122)))] t → SF p e below s₁ m 0 #[vi p0] [] t := fun t k => (by
    show SF p e below s₁ m 0 #[vi p0] [] _
    refine XS.iloadN X0.here hx rfl (hb hby d29_0) rfl ?_
    refine st1 _ ?_
    exact k)
  by_cases hc2 : (bI (97 ≤ p0.toInt ∧ p0.toInt ≤ 122)) = (0 : Int32)
  · skip
    have ohc2 : (bI (97 ≤ p0.toInt ∧ p0.toInt ≤ 122)).toInt = 0 := own_eq.mp hc2
    obtain ⟨_, _, ⟨T4, L4, k4, n4⟩, -, X4, ⟨Lc4, hQ4, l4, y4, z4⟩, st4⟩ := Jvm.LawKit.callS X1 hx (y := mN1) hown (mvT hZ (tw hw 122 rfl)) (mvT hZ (tw hw 123 rfl)) (mvT hZ (tw hw 24 rfl)) (mvT hZ (tw hw 124 rfl)) (by decide) (backOf (W := 0) (rm30 l Z a0 hw [] p0  h0 n0 Z0 ) hZ (tw hw 124 rfl) (tw hw 24 rfl) (by decide) (by decide)) (g := (mkF m 8 #[vi p0] [(.int p0)])) rfl (by rw [hml]; rfl) (argsL := [(.int p0)]) (rest := []) (lenOf pd_0 rfl) rfl (by show 2 * 0 + _ ≤ _; exact Nat.le_of_eq rfl) (hb hby d29_8) (fun _ _ => ⟨rfl, e1, (by decide : 0 + 0 ≤ _), (by decide : 0 + 0 ≤ _)⟩)
    dsimp only [Pt.U, Pt.locs, Pt.cells, Pt.slots] at X4 l4 y4 z4 st4 hQ4
    subst l4 y4 z4
    obtain ⟨rfl, Nq4, e4⟩ := hQ4
    have N4 := Fr.app N1 Nq4
    have t4 := own_bt (P := 65 ≤ p0.toInt ∧ p0.toInt ≤ 90)
    have pre6 : ∀ t, SF p e below T4 m 11 #[vi p0] [(.int (bI (65 ≤ p0.toInt ∧ p0.toInt ≤ 90)))] t → SF p e below s₁ m 0 #[vi p0] [] t := fun t k => pre3 t (by
      show SF p e below T1 m 4 #[vi p0] [(.int (bI (97 ≤ p0.toInt ∧ p0.toInt ≤ 122)))] _
      refine XS.ifNo X1.here hx rfl (hb hby d29_4) rfl ((if0 _ _).trans (teq hc2).2) ?_
      show SF p e below T1 m 7 #[vi p0] [] _
      refine XS.iloadN X1.here hx rfl (hb hby d29_7) rfl ?_
      refine st4 _ ?_
      exact k)
    by_cases hc5 : (bI (65 ≤ p0.toInt ∧ p0.toInt ≤ 90)) = (0 : Int32)
    · skip
      have ohc5 : (bI (65 ≤ p0.toInt ∧ p0.toInt ≤ 90)).toInt = 0 := own_eq.mp hc5
      obtain ⟨_, _, ⟨T7, L7, k7, n7⟩, -, X7, ⟨Lc7, hQ7, l7, y7, z7⟩, st7⟩ := Jvm.LawKit.callS X4 hx (y := mN2) hown (mvT hZ (tw hw 71 rfl)) (mvT hZ (tw hw 72 rfl)) (mvT hZ (tw hw 24 rfl)) (mvT hZ (tw hw 73 rfl)) (by decide) (backOf (W := 0) (rm16 l Z a0 hw [] p0  h0 n0 Z0 ) hZ (tw hw 73 rfl) (tw hw 24 rfl) (by decide) (by decide)) (g := (mkF m 15 #[vi p0] [(.int p0)])) rfl (by rw [hml]; rfl) (argsL := [(.int p0)]) (rest := []) (lenOf pd_0 rfl) rfl (by show 2 * 0 + _ ≤ _; exact Nat.le_of_eq rfl) (hb hby d29_15) (fun _ _ => ⟨rfl, e4, (by decide : 0 + 0 ≤ _), (by decide : 0 + 0 ≤ _)⟩)
      dsimp only [Pt.U, Pt.locs, Pt.cells, Pt.slots] at X7 l7 y7 z7 st7 hQ7
      subst l7 y7 z7
      obtain ⟨rfl, Nq7, e7⟩ := hQ7
      have N7 := Fr.app N4 Nq7
      have t7 := own_bt (P := 48 ≤ p0.toInt ∧ p0.toInt ≤ 57)
      have pre9 : ∀ t, SF p e below T7 m 18 #[vi p0] [(.int (bI (48 ≤ p0.toInt ∧ p0.toInt ≤ 57)))] t → SF p e below s₁ m 0 #[vi p0] [] t := fun t k => pre6 t (by
        show SF p e below T4 m 11 #[vi p0] [(.int (bI (65 ≤ p0.toInt ∧ p0.toInt ≤ 90)))] _
        refine XS.ifNo X4.here hx rfl (hb hby d29_11) rfl ((if0 _ _).trans (teq hc5).2) ?_
        show SF p e below T4 m 14 #[vi p0] [] _
        refine XS.iloadN X4.here hx rfl (hb hby d29_14) rfl ?_
        refine st7 _ ?_
        exact k)
      by_cases hc8 : (bI (48 ≤ p0.toInt ∧ p0.toInt ≤ 57)) = (0 : Int32)
      · skip
        have ohc8 : (bI (48 ≤ p0.toInt ∧ p0.toInt ≤ 57)).toInt = 0 := own_eq.mp hc8
        have pre11 : ∀ t, SF p e below T7 m 24 #[vi p0] [(.int 95), (.int p0)] t → SF p e below s₁ m 0 #[vi p0] [] t := fun t k => pre9 t (by
          show SF p e below T7 m 18 #[vi p0] [(.int (bI (48 ≤ p0.toInt ∧ p0.toInt ≤ 57)))] _
          refine XS.ifNo X7.here hx rfl (hb hby d29_18) rfl ((if0 _ _).trans (teq hc8).2) ?_
          show SF p e below T7 m 21 #[vi p0] [] _
          refine XS.iloadN X7.here hx rfl (hb hby d29_21) rfl ?_
          refine XS.bipush X7.here hx rfl (hb hby d29_22) ?_
          exact k)
        by_cases hc10 : p0 = (95 : Int32)
        · skip
          have ohc10 : p0.toInt = 95 := own_eq.mp hc10
          obtain ⟨fs, hr, hrun, hended, hW, hsame⟩ := X7.leave (v := some (.int 1)) (fun h => by rw [Bd.returns] at h; cases h)
          refine ⟨_, _, pre0 _ (pre11 _ ?_), hrun, hended, _, _, rfl, ?_, ⟨_, rfl⟩, hW, hsame.mono (by decide) (by decide)⟩
          · skip
            show SF p e below T7 m 24 #[vi p0] [(.int 95), (.int p0)] _
            refine XS.icmpNo X7.here hx rfl (hb hby d29_24) rfl (teq hc10).2 ?_
            show SF p e below T7 m 27 #[vi p0] [] _
            refine XS.iconst X7.here hx rfl (hb hby d29_27) ?_
            refine XS.goto X7.here hx rfl (pc0 := 28) (pc' := 32) rfl (hb hby d29_28) (by decide) (by decide) ?_
            show SF p e below T7 m 32 #[vi p0] [(.int 1)] _
            exact retN X7 hx (t := .boolean) Bd.returns (by simp) (hb hby d29_32) hr
          · show Q29 Z p0 h0 n0 _ T7.heap _
            rw [e7]
            exact ⟨own_b1 (by first | trivial | omega), N7, rfl⟩
        · skip
          have ohc10 : ¬ (p0.toInt = 95) := own_neq.mp hc10
          obtain ⟨fs, hr, hrun, hended, hW, hsame⟩ := X7.leave (v := some (.int 0)) (fun h => by rw [Bd.returns] at h; cases h)
          refine ⟨_, _, pre0 _ (pre11 _ ?_), hrun, hended, _, _, rfl, ?_, ⟨_, rfl⟩, hW, hsame.mono (by decide) (by decide)⟩
          · skip
            show SF p e below T7 m 24 #[vi p0] [(.int 95), (.int p0)] _
            refine XS.icmpYes X7.here hx rfl (pc0 := 24) (pc' := 31) rfl (hb hby d29_24) rfl (feq hc10).2 (by decide) (by decide) ?_
            show SF p e below T7 m 31 #[vi p0] [] _
            refine XS.iconst X7.here hx rfl (hb hby d29_31) ?_
            show SF p e below T7 m 32 #[vi p0] [(.int 0)] _
            exact retN X7 hx (t := .boolean) Bd.returns (by simp) (hb hby d29_32) hr
          · show Q29 Z p0 h0 n0 _ T7.heap _
            rw [e7]
            exact ⟨own_b0 (by first | trivial | omega), N7, rfl⟩
      · skip
        have ohc8 : ¬ ((bI (48 ≤ p0.toInt ∧ p0.toInt ≤ 57)).toInt = 0) := own_neq.mp hc8
        obtain ⟨fs, hr, hrun, hended, hW, hsame⟩ := X7.leave (v := some (.int 1)) (fun h => by rw [Bd.returns] at h; cases h)
        refine ⟨_, _, pre0 _ (pre9 _ ?_), hrun, hended, _, _, rfl, ?_, ⟨_, rfl⟩, hW, hsame.mono (by decide) (by decide)⟩
        · skip
          show SF p e below T7 m 18 #[vi p0] [(.int (bI (48 ≤ p0.toInt ∧ p0.toInt ≤ 57)))] _
          refine XS.ifYes X7.here hx rfl (pc0 := 18) (pc' := 27) rfl (hb hby d29_18) rfl ((if0 _ _).trans (feq hc8).2) (by decide) (by decide) ?_
          show SF p e below T7 m 27 #[vi p0] [] _
          refine XS.iconst X7.here hx rfl (hb hby d29_27) ?_
          refine XS.goto X7.here hx rfl (pc0 := 28) (pc' := 32) rfl (hb hby d29_28) (by decide) (by decide) ?_
          show SF p e below T7 m 32 #[vi p0] [(.int 1)] _
          exact retN X7 hx (t := .boolean) Bd.returns (by simp) (hb hby d29_32) hr
        · show Q29 Z p0 h0 n0 _ T7.heap _
          rw [e7]
          exact ⟨own_b1 (by first | trivial | omega), N7, rfl⟩
    · skip
      have ohc5 : ¬ ((bI (65 ≤ p0.toInt ∧ p0.toInt ≤ 90)).toInt = 0) := own_neq.mp hc5
      obtain ⟨fs, hr, hrun, hended, hW, hsame⟩ := X4.leave (v := some (.int 1)) (fun h => by rw [Bd.returns] at h; cases h)
      refine ⟨_, _, pre0 _ (pre6 _ ?_), hrun, hended, _, _, rfl, ?_, ⟨_, rfl⟩, hW, hsame.mono (by decide) (by decide)⟩
      · skip
        show SF p e below T4 m 11 #[vi p0] [(.int (bI (65 ≤ p0.toInt ∧ p0.toInt ≤ 90)))] _
        refine XS.ifYes X4.here hx rfl (pc0 := 11) (pc' := 27) rfl (hb hby d29_11) rfl ((if0 _ _).trans (feq hc5).2) (by decide) (by decide) ?_
        show SF p e below T4 m 27 #[vi p0] [] _
        refine XS.iconst X4.here hx rfl (hb hby d29_27) ?_
        refine XS.goto X4.here hx rfl (pc0 := 28) (pc' := 32) rfl (hb hby d29_28) (by decide) (by decide) ?_
        show SF p e below T4 m 32 #[vi p0] [(.int 1)] _
        exact retN X4 hx (t := .boolean) Bd.returns (by simp) (hb hby d29_32) hr
      · show Q29 Z p0 h0 n0 _ T4.heap _
        rw [e4]
        exact ⟨own_b1 (by first | trivial | omega), N4, rfl⟩
  · skip
    have ohc2 : ¬ ((bI (97 ≤ p0.toInt ∧ p0.toInt ≤ 122)).toInt = 0) := own_neq.mp hc2
    obtain ⟨fs, hr, hrun, hended, hW, hsame⟩ := X1.leave (v := some (.int 1)) (fun h => by rw [Bd.returns] at h; cases h)
    refine ⟨_, _, pre0 _ (pre3 _ ?_), hrun, hended, _, _, rfl, ?_, ⟨_, rfl⟩, hW, hsame.mono (by decide) (by decide)⟩
    · skip
      show SF p e below T1 m 4 #[vi p0] [(.int (bI (97 ≤ p0.toInt ∧ p0.toInt ≤ 122)))] _
      refine XS.ifYes X1.here hx rfl (pc0 := 4) (pc' := 27) rfl (hb hby d29_4) rfl ((if0 _ _).trans (feq hc2).2) (by decide) (by decide) ?_
      show SF p e below T1 m 27 #[vi p0] [] _
      refine XS.iconst X1.here hx rfl (hb hby d29_27) ?_
      refine XS.goto X1.here hx rfl (pc0 := 28) (pc' := 32) rfl (hb hby d29_28) (by decide) (by decide) ?_
      show SF p e below T1 m 32 #[vi p0] [(.int 1)] _
      exact retN X1 hx (t := .boolean) Bd.returns (by simp) (hb hby d29_32) hr
    · show Q29 Z p0 h0 n0 _ T1.heap _
      rw [e1]
      exact ⟨own_b1 (by first | trivial | omega), N1, rfl⟩
def Q9 (Z : State) (p0 : Int32) (h0 : Heap) (n0 : Nat) (v : Option Value) (h : Heap) (L : List Loc) : Prop := v = some (.int (bI ((97 ≤ p0.toInt ∧ p0.toInt ≤ 122) ∨ (48 ≤ p0.toInt ∧ p0.toInt ≤ 57)))) ∧ Fr n0 L ∧ h = h0
set_option maxRecDepth 65536 in
set_option maxHeartbeats 40000000 in
theorem rm9 (l : Launch) (Z : State) (a0 : Array Value) (hw : ∀ d ∈ tables_1, d.before a0 Z = true) (ws : List Jvm.Cond) (p0 : Int32) (h0 : Heap) (n0 : Nat) (Z0 : n0 ≤ h0.size) :
    MF l Z mN4 method_2_code 1 (some .boolean) ws (rK 0 0 0 0) #[(.int p0)] h0 (Q9 Z p0 h0 n0) := by
  refine MetFree.of_bodySF (plainFor_of_name pn_com_example_orql_orql_SyntaxIsObjectPinLaw) hisR ?_
  intro p e s m args below meth c s₁ Bd hml0 hP hK
  obtain ⟨rfl, hZ, hh⟩ := hP
  have hx := Bd.exec
  have hby := Bd.bytes
  have hml : c.maxLocals = 1 := hml0
  have hown : s.vm.findClass "com/example/orql/orql/SyntaxIsObjectPinLaw" = some m.cls := findClass_of_methodNamed Bd.named
  have hnm := (name_of_methodNamed Bd.named Bd.method).1
  have X0 : Stand p l e (rK 0 0 0 0) s m #[(.int p0)] below meth c s₁ [] 0 0 := Stand.of_body Bd
  have e0 : s₁.heap = h0 := by rw [← hh, Bd.state]; rfl
  have N0 := Fr.nil n0
  have pre0 : ∀ t, SF p e below s₁ m 0 #[vi p0] [] t → Steps p.tables e below (s₁.setTop (entryFrame m #[(.int p0)] 1)) t := fun t k => castTop (ef_9 m p0) k
  have pre2 : ∀ t, SF p e below s₁ m 3 #[vi p0] [(.int 97), (.int p0)] t → SF p e below s₁ m 0 #[vi p0] [] t := fun t k => (by
    show SF p e below s₁ m 0 #[vi p0] [] _
    refine XS.iloadN X0.here hx rfl (hb hby d9_0) rfl ?_
    refine XS.bipush X0.here hx rfl (hb hby d9_1) ?_
    exact k)
  by_cases hc1 : p0 < (97 : Int32)
  · skip
    have ohc1 : p0.toInt < 97 := own_lt.mp hc1
    have pre4 : ∀ t, SF p e below s₁ m 17 #[vi p0] [(.int 48), (.int p0)] t → SF p e below s₁ m 0 #[vi p0] [] t := fun t k => pre2 t (by
      show SF p e below s₁ m 3 #[vi p0] [(.int 97), (.int p0)] _
      refine XS.icmpYes X0.here hx rfl (pc0 := 3) (pc' := 14) rfl (hb hby d9_3) rfl (tlt hc1).1 (by decide) (by decide) ?_
      show SF p e below s₁ m 14 #[vi p0] [] _
      refine XS.iloadN X0.here hx rfl (hb hby d9_14) rfl ?_
      refine XS.bipush X0.here hx rfl (hb hby d9_15) ?_
      exact k)
    by_cases hc3 : p0 < (48 : Int32)
    · skip
      have ohc3 : p0.toInt < 48 := own_lt.mp hc3
      obtain ⟨fs, hr, hrun, hended, hW, hsame⟩ := X0.leave (v := some (.int 0)) (fun h => by rw [Bd.returns] at h; cases h)
      refine ⟨_, _, pre0 _ (pre4 _ ?_), hrun, hended, _, _, rfl, ?_, ⟨_, rfl⟩, hW, hsame.mono (by decide) (by decide)⟩
      · skip
        show SF p e below s₁ m 17 #[vi p0] [(.int 48), (.int p0)] _
        refine XS.icmpYes X0.here hx rfl (pc0 := 17) (pc' := 30) rfl (hb hby d9_17) rfl (tlt hc3).1 (by decide) (by decide) ?_
        show SF p e below s₁ m 30 #[vi p0] [] _
        refine XS.iconst X0.here hx rfl (hb hby d9_30) ?_
        show SF p e below s₁ m 31 #[vi p0] [(.int 0)] _
        exact retN X0 hx (t := .boolean) Bd.returns (by simp) (hb hby d9_31) hr
      · show Q9 Z p0 h0 n0 _ s₁.heap _
        rw [e0]
        exact ⟨own_b0 (by first | trivial | omega), N0, rfl⟩
    · skip
      have ohc3 : 48 ≤ p0.toInt := own_nlt.mp hc3
      have pre6 : ∀ t, SF p e below s₁ m 23 #[vi p0] [(.int 57), (.int p0)] t → SF p e below s₁ m 0 #[vi p0] [] t := fun t k => pre4 t (by
        show SF p e below s₁ m 17 #[vi p0] [(.int 48), (.int p0)] _
        refine XS.icmpNo X0.here hx rfl (hb hby d9_17) rfl (flt hc3).1 ?_
        show SF p e below s₁ m 20 #[vi p0] [] _
        refine XS.iloadN X0.here hx rfl (hb hby d9_20) rfl ?_
        refine XS.bipush X0.here hx rfl (hb hby d9_21) ?_
        exact k)
      by_cases hc5 : (57 : Int32) < p0
      · skip
        have ohc5 : 57 < p0.toInt := own_lt.mp hc5
        obtain ⟨fs, hr, hrun, hended, hW, hsame⟩ := X0.leave (v := some (.int 0)) (fun h => by rw [Bd.returns] at h; cases h)
        refine ⟨_, _, pre0 _ (pre6 _ ?_), hrun, hended, _, _, rfl, ?_, ⟨_, rfl⟩, hW, hsame.mono (by decide) (by decide)⟩
        · skip
          show SF p e below s₁ m 23 #[vi p0] [(.int 57), (.int p0)] _
          refine XS.icmpYes X0.here hx rfl (pc0 := 23) (pc' := 30) rfl (hb hby d9_23) rfl (tlt hc5).2.2.1 (by decide) (by decide) ?_
          show SF p e below s₁ m 30 #[vi p0] [] _
          refine XS.iconst X0.here hx rfl (hb hby d9_30) ?_
          show SF p e below s₁ m 31 #[vi p0] [(.int 0)] _
          exact retN X0 hx (t := .boolean) Bd.returns (by simp) (hb hby d9_31) hr
        · show Q9 Z p0 h0 n0 _ s₁.heap _
          rw [e0]
          exact ⟨own_b0 (by first | trivial | omega), N0, rfl⟩
      · skip
        have ohc5 : p0.toInt ≤ 57 := own_nlt.mp hc5
        obtain ⟨fs, hr, hrun, hended, hW, hsame⟩ := X0.leave (v := some (.int 1)) (fun h => by rw [Bd.returns] at h; cases h)
        refine ⟨_, _, pre0 _ (pre6 _ ?_), hrun, hended, _, _, rfl, ?_, ⟨_, rfl⟩, hW, hsame.mono (by decide) (by decide)⟩
        · skip
          show SF p e below s₁ m 23 #[vi p0] [(.int 57), (.int p0)] _
          refine XS.icmpNo X0.here hx rfl (hb hby d9_23) rfl (flt hc5).2.2.1 ?_
          show SF p e below s₁ m 26 #[vi p0] [] _
          refine XS.iconst X0.here hx rfl (hb hby d9_26) ?_
          refine XS.goto X0.here hx rfl (pc0 := 27) (pc' := 31) rfl (hb hby d9_27) (by decide) (by decide) ?_
          show SF p e below s₁ m 31 #[vi p0] [(.int 1)] _
          exact retN X0 hx (t := .boolean) Bd.returns (by simp) (hb hby d9_31) hr
        · show Q9 Z p0 h0 n0 _ s₁.heap _
          rw [e0]
          exact ⟨own_b1 (by first | trivial | omega), N0, rfl⟩
  · skip
    have ohc1 : 97 ≤ p0.toInt := own_nlt.mp hc1
    have pre8 : ∀ t, SF p e below s₁ m 9 #[vi p0] [(.int 122), (.int p0)] t → SF p e below s₁ m 0 #[vi p0] [] t := fun t k => pre2 t (by
      show SF p e below s₁ m 3 #[vi p0] [(.int 97), (.int p0)] _
      refine XS.icmpNo X0.here hx rfl (hb hby d9_3) rfl (flt hc1).1 ?_
      show SF p e below s₁ m 6 #[vi p0] [] _
      refine XS.iloadN X0.here hx rfl (hb hby d9_6) rfl ?_
      refine XS.bipush X0.here hx rfl (hb hby d9_7) ?_
      exact k)
    by_cases hc7 : (122 : Int32) < p0
    · skip
      have ohc7 : 122 < p0.toInt := own_lt.mp hc7
      have pre10 : ∀ t, SF p e below s₁ m 17 #[vi p0] [(.int 48), (.int p0)] t → SF p e below s₁ m 0 #[vi p0] [] t := fun t k => pre8 t (by
        show SF p e below s₁ m 9 #[vi p0] [(.int 122), (.int p0)] _
        refine XS.icmpYes X0.here hx rfl (pc0 := 9) (pc' := 14) rfl (hb hby d9_9) rfl (tlt hc7).2.2.1 (by decide) (by decide) ?_
        show SF p e below s₁ m 14 #[vi p0] [] _
        refine XS.iloadN X0.here hx rfl (hb hby d9_14) rfl ?_
        refine XS.bipush X0.here hx rfl (hb hby d9_15) ?_
        exact k)
      by_cases hc9 : p0 < (48 : Int32)
      · skip
        have ohc9 : p0.toInt < 48 := own_lt.mp hc9
        obtain ⟨fs, hr, hrun, hended, hW, hsame⟩ := X0.leave (v := some (.int 0)) (fun h => by rw [Bd.returns] at h; cases h)
        refine ⟨_, _, pre0 _ (pre10 _ ?_), hrun, hended, _, _, rfl, ?_, ⟨_, rfl⟩, hW, hsame.mono (by decide) (by decide)⟩
        · skip
          show SF p e below s₁ m 17 #[vi p0] [(.int 48), (.int p0)] _
          refine XS.icmpYes X0.here hx rfl (pc0 := 17) (pc' := 30) rfl (hb hby d9_17) rfl (tlt hc9).1 (by decide) (by decide) ?_
          show SF p e below s₁ m 30 #[vi p0] [] _
          refine XS.iconst X0.here hx rfl (hb hby d9_30) ?_
          show SF p e below s₁ m 31 #[vi p0] [(.int 0)] _
          exact retN X0 hx (t := .boolean) Bd.returns (by simp) (hb hby d9_31) hr
        · show Q9 Z p0 h0 n0 _ s₁.heap _
          rw [e0]
          exact ⟨own_b0 (by first | trivial | omega), N0, rfl⟩
      · skip
        have ohc9 : 48 ≤ p0.toInt := own_nlt.mp hc9
        have pre12 : ∀ t, SF p e below s₁ m 23 #[vi p0] [(.int 57), (.int p0)] t → SF p e below s₁ m 0 #[vi p0] [] t := fun t k => pre10 t (by
          show SF p e below s₁ m 17 #[vi p0] [(.int 48), (.int p0)] _
          refine XS.icmpNo X0.here hx rfl (hb hby d9_17) rfl (flt hc9).1 ?_
          show SF p e below s₁ m 20 #[vi p0] [] _
          refine XS.iloadN X0.here hx rfl (hb hby d9_20) rfl ?_
          refine XS.bipush X0.here hx rfl (hb hby d9_21) ?_
          exact k)
        by_cases hc11 : (57 : Int32) < p0
        · skip
          have ohc11 : 57 < p0.toInt := own_lt.mp hc11
          obtain ⟨fs, hr, hrun, hended, hW, hsame⟩ := X0.leave (v := some (.int 0)) (fun h => by rw [Bd.returns] at h; cases h)
          refine ⟨_, _, pre0 _ (pre12 _ ?_), hrun, hended, _, _, rfl, ?_, ⟨_, rfl⟩, hW, hsame.mono (by decide) (by decide)⟩
          · skip
            show SF p e below s₁ m 23 #[vi p0] [(.int 57), (.int p0)] _
            refine XS.icmpYes X0.here hx rfl (pc0 := 23) (pc' := 30) rfl (hb hby d9_23) rfl (tlt hc11).2.2.1 (by decide) (by decide) ?_
            show SF p e below s₁ m 30 #[vi p0] [] _
            refine XS.iconst X0.here hx rfl (hb hby d9_30) ?_
            show SF p e below s₁ m 31 #[vi p0] [(.int 0)] _
            exact retN X0 hx (t := .boolean) Bd.returns (by simp) (hb hby d9_31) hr
          · show Q9 Z p0 h0 n0 _ s₁.heap _
            rw [e0]
            exact ⟨own_b0 (by first | trivial | omega), N0, rfl⟩
        · skip
          have ohc11 : p0.toInt ≤ 57 := own_nlt.mp hc11
          obtain ⟨fs, hr, hrun, hended, hW, hsame⟩ := X0.leave (v := some (.int 1)) (fun h => by rw [Bd.returns] at h; cases h)
          refine ⟨_, _, pre0 _ (pre12 _ ?_), hrun, hended, _, _, rfl, ?_, ⟨_, rfl⟩, hW, hsame.mono (by decide) (by decide)⟩
          · skip
            show SF p e below s₁ m 23 #[vi p0] [(.int 57), (.int p0)] _
            refine XS.icmpNo X0.here hx rfl (hb hby d9_23) rfl (flt hc11).2.2.1 ?_
            show SF p e below s₁ m 26 #[vi p0] [] _
            refine XS.iconst X0.here hx rfl (hb hby d9_26) ?_
            refine XS.goto X0.here hx rfl (pc0 := 27) (pc' := 31) rfl (hb hby d9_27) (by decide) (by decide) ?_
            show SF p e below s₁ m 31 #[vi p0] [(.int 1)] _
            exact retN X0 hx (t := .boolean) Bd.returns (by simp) (hb hby d9_31) hr
          · show Q9 Z p0 h0 n0 _ s₁.heap _
            rw [e0]
            exact ⟨own_b1 (by first | trivial | omega), N0, rfl⟩
    · skip
      have ohc7 : p0.toInt ≤ 122 := own_nlt.mp hc7
      obtain ⟨fs, hr, hrun, hended, hW, hsame⟩ := X0.leave (v := some (.int 1)) (fun h => by rw [Bd.returns] at h; cases h)
      refine ⟨_, _, pre0 _ (pre8 _ ?_), hrun, hended, _, _, rfl, ?_, ⟨_, rfl⟩, hW, hsame.mono (by decide) (by decide)⟩
      · skip
        show SF p e below s₁ m 9 #[vi p0] [(.int 122), (.int p0)] _
        refine XS.icmpNo X0.here hx rfl (hb hby d9_9) rfl (flt hc7).2.2.1 ?_
        show SF p e below s₁ m 12 #[vi p0] [] _
        refine XS.iconst X0.here hx rfl (hb hby d9_12) ?_
        show SF p e below s₁ m 13 #[vi p0] [(.int 1)] _
        exact retN X0 hx (t := .boolean) Bd.returns (by simp) (hb hby d9_13) hr
      · show Q9 Z p0 h0 n0 _ s₁.heap _
        rw [e0]
        exact ⟨own_b1 (by first | trivial | omega), N0, rfl⟩
def Q28 (Z : State) (p0 : Int32) (h0 : Heap) (n0 : Nat) (v : Option Value) (h : Heap) (L : List Loc) : Prop := v = some (.int (bI ((97 ≤ p0.toInt ∧ p0.toInt ≤ 122) ∨ (65 ≤ p0.toInt ∧ p0.toInt ≤ 90) ∨ (48 ≤ p0.toInt ∧ p0.toInt ≤ 57) ∨ p0.toInt = 95))) ∧ Fr n0 L ∧ h = h0
set_option maxRecDepth 65536 in
set_option maxHeartbeats 40000000 in
theorem rm28 (l : Launch) (Z : State) (a0 : Array Value) (hw : ∀ d ∈ tables_1, d.before a0 Z = true) (ws : List Jvm.Cond) (p0 : Int32) (h0 : Heap) (n0 : Nat) (Z0 : n0 ≤ h0.size) :
    MF l Z mN5 method_3_code 1 (some .boolean) ws (rK 1 0 0 12) #[(.int p0)] h0 (Q28 Z p0 h0 n0) := by
  refine MetFree.of_bodySF (plainFor_of_name pn_com_example_orql_orql_SyntaxIsObjectPinLaw) hisR ?_
  intro p e s m args below meth c s₁ Bd hml0 hP hK
  obtain ⟨rfl, hZ, hh⟩ := hP
  have hx := Bd.exec
  have hby := Bd.bytes
  have hml : c.maxLocals = 1 := hml0
  have hown : s.vm.findClass "com/example/orql/orql/SyntaxIsObjectPinLaw" = some m.cls := findClass_of_methodNamed Bd.named
  have hnm := (name_of_methodNamed Bd.named Bd.method).1
  have X0 : Stand p l e (rK 1 0 0 12) s m #[(.int p0)] below meth c s₁ [] 0 0 := Stand.of_body Bd
  have e0 : s₁.heap = h0 := by rw [← hh, Bd.state]; rfl
  have N0 := Fr.nil n0
  have pre0 : ∀ t, SF p e below s₁ m 0 #[vi p0] [] t → Steps p.tables e below (s₁.setTop (entryFrame m #[(.int p0)] 1)) t := fun t k => castTop (ef_28 m p0) k
  obtain ⟨_, _, ⟨T1, L1, k1, n1⟩, -, X1, ⟨Lc1, hQ1, l1, y1, z1⟩, st1⟩ := Jvm.LawKit.callS X0 hx (y := mN4) hown (mvT hZ (tw hw 42 rfl)) (mvT hZ (tw hw 43 rfl)) (mvT hZ (tw hw 44 rfl)) (mvT hZ (tw hw 45 rfl)) (by decide) (backOf (W := 0) (rm9 l Z a0 hw [] p0  h0 n0 Z0 ) hZ (tw hw 45 rfl) (tw hw 44 rfl) (by decide) (by decide)) (g := (mkF m 1 #[vi p0] [(.int p0)])) rfl (by rw [hml]; rfl) (argsL := [(.int p0)]) (rest := []) (lenOf pd_0 rfl) rfl (by show 2 * 0 + _ ≤ _; exact Nat.le_of_eq rfl) (hb hby d28_1) (fun _ _ => ⟨rfl, e0, (by decide : 0 + 0 ≤ _), (by decide : 0 + 0 ≤ _)⟩)
  dsimp only [Pt.U, Pt.locs, Pt.cells, Pt.slots] at X1 l1 y1 z1 st1 hQ1
  subst l1 y1 z1
  obtain ⟨rfl, Nq1, e1⟩ := hQ1
  have N1 := Fr.app N0 Nq1
  have t1 := own_bt (P := (97 ≤ p0.toInt ∧ p0.toInt ≤ 122) ∨ (48 ≤ p0.toInt ∧ p0.toInt ≤ 57))
  have pre3 : ∀ t, SF p e below T1 m 4 #[vi p0] [(.int (bI ((97 ≤ p0.toInt ∧ p0.toInt ≤ 122) ∨ (48 ≤ p0.toInt ∧ p0.toInt ≤ 57))))] t → SF p e below s₁ m 0 #[vi p0] [] t := fun t k => (by
    show SF p e below s₁ m 0 #[vi p0] [] _
    refine XS.iloadN X0.here hx rfl (hb hby d28_0) rfl ?_
    refine st1 _ ?_
    exact k)
  by_cases hc2 : (bI ((97 ≤ p0.toInt ∧ p0.toInt ≤ 122) ∨ (48 ≤ p0.toInt ∧ p0.toInt ≤ 57))) = (0 : Int32)
  · skip
    have ohc2 : (bI ((97 ≤ p0.toInt ∧ p0.toInt ≤ 122) ∨ (48 ≤ p0.toInt ∧ p0.toInt ≤ 57))).toInt = 0 := own_eq.mp hc2
    have pre5 : ∀ t, SF p e below T1 m 12 #[vi p0] [(.int 65), (.int p0)] t → SF p e below s₁ m 0 #[vi p0] [] t := fun t k => pre3 t (by
      show SF p e below T1 m 4 #[vi p0] [(.int (bI ((97 ≤ p0.toInt ∧ p0.toInt ≤ 122) ∨ (48 ≤ p0.toInt ∧ p0.toInt ≤ 57))))] _
      refine XS.ifYes X1.here hx rfl (pc0 := 4) (pc' := 9) rfl (hb hby d28_4) rfl ((if0 _ _).trans (teq hc2).1) (by decide) (by decide) ?_
      show SF p e below T1 m 9 #[vi p0] [] _
      refine XS.iloadN X1.here hx rfl (hb hby d28_9) rfl ?_
      refine XS.bipush X1.here hx rfl (hb hby d28_10) ?_
      exact k)
    by_cases hc4 : p0 < (65 : Int32)
    · skip
      have ohc4 : p0.toInt < 65 := own_lt.mp hc4
      have pre7 : ∀ t, SF p e below T1 m 26 #[vi p0] [(.int 95), (.int p0)] t → SF p e below s₁ m 0 #[vi p0] [] t := fun t k => pre5 t (by
        show SF p e below T1 m 12 #[vi p0] [(.int 65), (.int p0)] _
        refine XS.icmpYes X1.here hx rfl (pc0 := 12) (pc' := 23) rfl (hb hby d28_12) rfl (tlt hc4).1 (by decide) (by decide) ?_
        show SF p e below T1 m 23 #[vi p0] [] _
        refine XS.iloadN X1.here hx rfl (hb hby d28_23) rfl ?_
        refine XS.bipush X1.here hx rfl (hb hby d28_24) ?_
        exact k)
      by_cases hc6 : p0 = (95 : Int32)
      · skip
        have ohc6 : p0.toInt = 95 := own_eq.mp hc6
        obtain ⟨fs, hr, hrun, hended, hW, hsame⟩ := X1.leave (v := some (.int 1)) (fun h => by rw [Bd.returns] at h; cases h)
        refine ⟨_, _, pre0 _ (pre7 _ ?_), hrun, hended, _, _, rfl, ?_, ⟨_, rfl⟩, hW, hsame.mono (by decide) (by decide)⟩
        · skip
          show SF p e below T1 m 26 #[vi p0] [(.int 95), (.int p0)] _
          refine XS.icmpNo X1.here hx rfl (hb hby d28_26) rfl (teq hc6).2 ?_
          show SF p e below T1 m 29 #[vi p0] [] _
          refine XS.iconst X1.here hx rfl (hb hby d28_29) ?_
          refine XS.goto X1.here hx rfl (pc0 := 30) (pc' := 34) rfl (hb hby d28_30) (by decide) (by decide) ?_
          show SF p e below T1 m 34 #[vi p0] [(.int 1)] _
          exact retN X1 hx (t := .boolean) Bd.returns (by simp) (hb hby d28_34) hr
        · show Q28 Z p0 h0 n0 _ T1.heap _
          rw [e1]
          exact ⟨own_b1 (by first | trivial | omega), N1, rfl⟩
      · skip
        have ohc6 : ¬ (p0.toInt = 95) := own_neq.mp hc6
        obtain ⟨fs, hr, hrun, hended, hW, hsame⟩ := X1.leave (v := some (.int 0)) (fun h => by rw [Bd.returns] at h; cases h)
        refine ⟨_, _, pre0 _ (pre7 _ ?_), hrun, hended, _, _, rfl, ?_, ⟨_, rfl⟩, hW, hsame.mono (by decide) (by decide)⟩
        · skip
          show SF p e below T1 m 26 #[vi p0] [(.int 95), (.int p0)] _
          refine XS.icmpYes X1.here hx rfl (pc0 := 26) (pc' := 33) rfl (hb hby d28_26) rfl (feq hc6).2 (by decide) (by decide) ?_
          show SF p e below T1 m 33 #[vi p0] [] _
          refine XS.iconst X1.here hx rfl (hb hby d28_33) ?_
          show SF p e below T1 m 34 #[vi p0] [(.int 0)] _
          exact retN X1 hx (t := .boolean) Bd.returns (by simp) (hb hby d28_34) hr
        · show Q28 Z p0 h0 n0 _ T1.heap _
          rw [e1]
          exact ⟨own_b0 (by first | trivial | omega), N1, rfl⟩
    · skip
      have ohc4 : 65 ≤ p0.toInt := own_nlt.mp hc4
      have pre9 : ∀ t, SF p e below T1 m 18 #[vi p0] [(.int 90), (.int p0)] t → SF p e below s₁ m 0 #[vi p0] [] t := fun t k => pre5 t (by
        show SF p e below T1 m 12 #[vi p0] [(.int 65), (.int p0)] _
        refine XS.icmpNo X1.here hx rfl (hb hby d28_12) rfl (flt hc4).1 ?_
        show SF p e below T1 m 15 #[vi p0] [] _
        refine XS.iloadN X1.here hx rfl (hb hby d28_15) rfl ?_
        refine XS.bipush X1.here hx rfl (hb hby d28_16) ?_
        exact k)
      by_cases hc8 : (90 : Int32) < p0
      · skip
        have ohc8 : 90 < p0.toInt := own_lt.mp hc8
        have pre11 : ∀ t, SF p e below T1 m 26 #[vi p0] [(.int 95), (.int p0)] t → SF p e below s₁ m 0 #[vi p0] [] t := fun t k => pre9 t (by
          show SF p e below T1 m 18 #[vi p0] [(.int 90), (.int p0)] _
          refine XS.icmpYes X1.here hx rfl (pc0 := 18) (pc' := 23) rfl (hb hby d28_18) rfl (tlt hc8).2.2.1 (by decide) (by decide) ?_
          show SF p e below T1 m 23 #[vi p0] [] _
          refine XS.iloadN X1.here hx rfl (hb hby d28_23) rfl ?_
          refine XS.bipush X1.here hx rfl (hb hby d28_24) ?_
          exact k)
        by_cases hc10 : p0 = (95 : Int32)
        · skip
          have ohc10 : p0.toInt = 95 := own_eq.mp hc10
          obtain ⟨fs, hr, hrun, hended, hW, hsame⟩ := X1.leave (v := some (.int 1)) (fun h => by rw [Bd.returns] at h; cases h)
          refine ⟨_, _, pre0 _ (pre11 _ ?_), hrun, hended, _, _, rfl, ?_, ⟨_, rfl⟩, hW, hsame.mono (by decide) (by decide)⟩
          · skip
            show SF p e below T1 m 26 #[vi p0] [(.int 95), (.int p0)] _
            refine XS.icmpNo X1.here hx rfl (hb hby d28_26) rfl (teq hc10).2 ?_
            show SF p e below T1 m 29 #[vi p0] [] _
            refine XS.iconst X1.here hx rfl (hb hby d28_29) ?_
            refine XS.goto X1.here hx rfl (pc0 := 30) (pc' := 34) rfl (hb hby d28_30) (by decide) (by decide) ?_
            show SF p e below T1 m 34 #[vi p0] [(.int 1)] _
            exact retN X1 hx (t := .boolean) Bd.returns (by simp) (hb hby d28_34) hr
          · show Q28 Z p0 h0 n0 _ T1.heap _
            rw [e1]
            exact ⟨own_b1 (by first | trivial | omega), N1, rfl⟩
        · skip
          have ohc10 : ¬ (p0.toInt = 95) := own_neq.mp hc10
          obtain ⟨fs, hr, hrun, hended, hW, hsame⟩ := X1.leave (v := some (.int 0)) (fun h => by rw [Bd.returns] at h; cases h)
          refine ⟨_, _, pre0 _ (pre11 _ ?_), hrun, hended, _, _, rfl, ?_, ⟨_, rfl⟩, hW, hsame.mono (by decide) (by decide)⟩
          · skip
            show SF p e below T1 m 26 #[vi p0] [(.int 95), (.int p0)] _
            refine XS.icmpYes X1.here hx rfl (pc0 := 26) (pc' := 33) rfl (hb hby d28_26) rfl (feq hc10).2 (by decide) (by decide) ?_
            show SF p e below T1 m 33 #[vi p0] [] _
            refine XS.iconst X1.here hx rfl (hb hby d28_33) ?_
            show SF p e below T1 m 34 #[vi p0] [(.int 0)] _
            exact retN X1 hx (t := .boolean) Bd.returns (by simp) (hb hby d28_34) hr
          · show Q28 Z p0 h0 n0 _ T1.heap _
            rw [e1]
            exact ⟨own_b0 (by first | trivial | omega), N1, rfl⟩
      · skip
        have ohc8 : p0.toInt ≤ 90 := own_nlt.mp hc8
        obtain ⟨fs, hr, hrun, hended, hW, hsame⟩ := X1.leave (v := some (.int 1)) (fun h => by rw [Bd.returns] at h; cases h)
        refine ⟨_, _, pre0 _ (pre9 _ ?_), hrun, hended, _, _, rfl, ?_, ⟨_, rfl⟩, hW, hsame.mono (by decide) (by decide)⟩
        · skip
          show SF p e below T1 m 18 #[vi p0] [(.int 90), (.int p0)] _
          refine XS.icmpNo X1.here hx rfl (hb hby d28_18) rfl (flt hc8).2.2.1 ?_
          show SF p e below T1 m 21 #[vi p0] [] _
          refine XS.iconst X1.here hx rfl (hb hby d28_21) ?_
          show SF p e below T1 m 22 #[vi p0] [(.int 1)] _
          exact retN X1 hx (t := .boolean) Bd.returns (by simp) (hb hby d28_22) hr
        · show Q28 Z p0 h0 n0 _ T1.heap _
          rw [e1]
          exact ⟨own_b1 (by first | trivial | omega), N1, rfl⟩
  · skip
    have ohc2 : ¬ ((bI ((97 ≤ p0.toInt ∧ p0.toInt ≤ 122) ∨ (48 ≤ p0.toInt ∧ p0.toInt ≤ 57))).toInt = 0) := own_neq.mp hc2
    obtain ⟨fs, hr, hrun, hended, hW, hsame⟩ := X1.leave (v := some (.int 1)) (fun h => by rw [Bd.returns] at h; cases h)
    refine ⟨_, _, pre0 _ (pre3 _ ?_), hrun, hended, _, _, rfl, ?_, ⟨_, rfl⟩, hW, hsame.mono (by decide) (by decide)⟩
    · skip
      show SF p e below T1 m 4 #[vi p0] [(.int (bI ((97 ≤ p0.toInt ∧ p0.toInt ≤ 122) ∨ (48 ≤ p0.toInt ∧ p0.toInt ≤ 57))))] _
      refine XS.ifNo X1.here hx rfl (hb hby d28_4) rfl ((if0 _ _).trans (feq hc2).1) ?_
      show SF p e below T1 m 7 #[vi p0] [] _
      refine XS.iconst X1.here hx rfl (hb hby d28_7) ?_
      show SF p e below T1 m 8 #[vi p0] [(.int 1)] _
      exact retN X1 hx (t := .boolean) Bd.returns (by simp) (hb hby d28_8) hr
    · show Q28 Z p0 h0 n0 _ T1.heap _
      rw [e1]
      exact ⟨own_b1 (by first | trivial | omega), N1, rfl⟩
def Q2e (Z : State) (r0 : Addr) (r1 : Addr) (p2 : Int32) (p3 : Int32) (h0 : Heap) (n0 : Nat) (v : Option Value) (h : Heap) (L : List Loc) : Prop := v = none ∧ Fr n0 L ∧ Keep h0 h [r0] ∧ Exa Z h r0 "java/lang/String" ∧ ∃ (t : Addr) (kt : ClassId), Fld Z h r0 "java/lang/String" "value" "[B" (.ref t) ∧ Fld Z h r0 "java/lang/String" "coder" "B" (.int 0) ∧ Arv Z h t kt .byte (0 : Int32) [] (.int 0)
set_option maxRecDepth 65536 in
set_option maxHeartbeats 40000000 in
theorem rm2e (l : Launch) (Z : State) (a0 : Array Value) (hw : ∀ d ∈ tables_1, d.before a0 Z = true) (ws : List Jvm.Cond) (r0 : Addr) (r1 : Addr) (p2 : Int32) (p3 : Int32) (h0 : Heap) (n0 : Nat) (Z0 : n0 ≤ h0.size) (E_r0 : Exa Z h0 r0 "java/lang/String") (F_0 : Fld Z h0 r0 "java/lang/String" "value" "[B" .null) (F_1 : Fld Z h0 r0 "java/lang/String" "coder" "B" (.int 0)) (g_r0 : n0 ≤ r0) (hp3 : p3 = (0 : Int32)) :
    MetFree l mN6 (head1 (Jvm.Cond.code mN6 jdk_42_method_149_code 6 none :: ws) (rK 1 4 8 12)) (fun a U => a = #[(.ref r0), (.ref r1), (.int p2), (.int p3), .null] ∧ Z.Warmed39 U.vm ∧ U.heap = h0 ∧ CHv Z consts_1 U.vm h0) (fun _ _ _ _ _ => True) (fun _ U o U' => ∃ v L, o = .returned v ∧ Q2e Z r0 r1 p2 p3 h0 n0 v U'.heap L ∧ CHr Z consts_1 U.vm U.heap U'.vm U'.heap ∧ ReturnedEndW U o U' L (rK 1 4 8 12).cells (rK 1 4 8 12).slots) := by
  refine MetFree.of_bodySF (plainFor_of_name pn_java_lang_String) hisR ?_
  intro p e s m args below meth c s₁ Bd hml0 hP hK
  obtain ⟨rfl, hZ, hh, hH⟩ := hP
  have hx := Bd.exec
  have hby := Bd.bytes
  have hml : c.maxLocals = 6 := hml0
  have hown : s.vm.findClass "java/lang/String" = some m.cls := findClass_of_methodNamed Bd.named
  have hnm := (name_of_methodNamed Bd.named Bd.method).1
  have X0 : Stand p l e (rK 1 4 8 12) (s.setVm s.vm) m #[(.ref r0), (.ref r1), (.int p2), (.int p3), .null] below meth c s₁ [] 0 0 := Stand.of_body Bd
  have e0 : s₁.heap = h0 := by rw [← hh, Bd.state]; rfl
  have N0 := Fr.nil n0
  have pre0 : ∀ t, SF p e below s₁ m 0 #[vr r0, vr r1, vi p2, vi p3, .val .null, .unset] [] t → Steps p.tables e below (s₁.setTop (entryFrame m #[(.ref r0), (.ref r1), (.int p2), (.int p3), .null] 6)) t := fun t k => castTop (ef_2_vvvvn m r0 r1 p2 p3) k
  have hS0 : s.Since s.vm 0 := (State.WarmedH.refl s).since 0
  have hk0 : 0 ≤ h0.size := Nat.zero_le _
  have R0 : CHr Z consts_1 s.vm h0 s.vm h0 := CHr.refl hH
  have hEL : EW Z a0 consts_1 := own_ew hw
  have KR : Keep h0 h0 [r0] := Keep.refl _ _
  have S0_r0 : Safe Z consts_1 s.vm h0 r0 := own_safe0 hZ.alike E_r0 F_0
  obtain ⟨T1, X1, e1, st1⟩ := initO X0 hx hZ hown (tw hw 11 rfl) (tw hw 12 rfl) (tw hw 13 rfl) e0 (g := (mkF m 1 #[vr r0, vr r1, vi p2, vi p3, .val .null, .unset] [(.ref r0)])) rfl (by rw [hml]; rfl) rfl (hb hby d2_1) (by decide) (W := 0) (by show 2 * 0 + _ ≤ _; exact Nat.le_of_eq rfl) (by decide)
  have hc2 : p3 = (0 : Int32) := hp3
  have ohc2 : p3.toInt = 0 := own_eq.mp hc2
  obtain ⟨b3, T3, h3, k3, t3, kb3, X3, e3, E3, hS3, hk3, hZ3, hown3, A3, C3, V3, Y3, la3, lb3, rq3, -, sep3, st3⟩ := ldcCH X1 hx hZ hown (tw hw 14 rfl) (own_str hw) e1 hS0 hk0 hEL (by decide) R0.1 (vs := []) (z := (0 : Int32)) ⟨by decide, by decide⟩ (by decide) rfl (g := (mkF m 9 #[vr r0, vr r1, vi p2, vi p3, .val .null, .unset] [(.ref r0)])) rfl (hb hby d2_9) (n := 0) (by decide) (by decide) (by decide) (by decide)
  have R3 := R0.trans rq3
  have S3_r0 := rq3.safe E_r0.lt S0_r0
  have Z3 : n0 ≤ h3.size := Nat.le_trans Z0 E3.1
  have K3 : Keep h0 h3 [r0] := KR.ext E3
  have c4 : Exa Z h3 r0 "java/lang/String" := E_r0.ext E3
  have c5 : Fld Z h3 r0 "java/lang/String" "value" "[B" .null := F_0.ext E3
  have c6 : Fld Z h3 r0 "java/lang/String" "coder" "B" (.int 0) := F_1.ext E3
  have ne_r0_b3 : r0 ≠ b3 := (sep3 _ S3_r0).1
  have ne_r0_t3 : r0 ≠ t3 := (sep3 _ S3_r0).2
  obtain ⟨T7, X7, e7, st7⟩ := getF X3 hx hZ3 hown3 (host := "") (Or.inl (tw hw 20 rfl)) Via.refl e3 V3 (g := (mkF m 11 #[vr r0, vr r1, vi p2, vi p3, .val .null, .unset] [(.ref b3), (.ref r0)])) rfl rfl (hb hby d2_11)
  obtain ⟨T8, h8, X8, e8, W8, st8⟩ := putF X7 hx hZ3 hown3 (host := "") (Or.inl (tw hw 20 rfl)) Via.refl e7 c5 c4 (Or.inr ⟨(tw hw 16 rfl), rfl, hnm⟩) (tw hw 2 rfl) (ty := (.array .byte)) (by decide) rfl rfl (g := (mkF m 14 #[vr r0, vr r1, vi p2, vi p3, .val .null, .unset] [(.ref t3), (.ref r0)])) rfl rfl (hb hby d2_14)
  have Fw8 : Fld Z h8 r0 "java/lang/String" "value" "[B" (.ref t3) := c5.same W8
  have N8 := Fr.snoc X8 N0 g_r0
  have Z8 : n0 ≤ h8.size := Nat.le_trans Z3 (Keep.of_wr W8).1
  have hk8 : k3 ≤ h8.size := Nat.le_trans hk3 (Keep.of_wr W8).1
  have R8 := R3.trans (CHr.wr W8 S3_r0 R3.1)
  have S8_r0 := Safe.wr W8 S3_r0 R3.1 S3_r0
  have K8 : Keep h0 h8 [r0] := K3.wr W8 (Or.inl (List.mem_of_getElem? (i := 0) rfl))
  have c9 : Exa Z h8 r0 "java/lang/String" := c4.wr W8
  have c10 : Fld Z h8 r0 "java/lang/String" "coder" "B" (.int 0) := c6.other W8 (Or.inr (slot_ne (Or.inr (tw hw 17 rfl)) (Or.inr (tw hw 16 rfl)) (by decide) (t := .byte) (t' := (.array .byte)) (by decide) (by decide)))
  have c11 : Exa Z h8 b3 "java/lang/String" := A3.wr W8
  have c12 : Fld Z h8 b3 "java/lang/String" "coder" "B" (.int 0) := C3.other W8 (Or.inl (Ne.symm ne_r0_b3))
  have c13 : Fld Z h8 b3 "java/lang/String" "value" "[B" (.ref t3) := V3.other W8 (Or.inl (Ne.symm ne_r0_b3))
  have c14 : Arv Z h8 t3 kb3 .byte (0 : Int32) [] (.int 0) := Y3.other W8 (Ne.symm ne_r0_t3)
  obtain ⟨b15, T15, h15, k15, t15, kb15, X15, e15, E15, hS15, hk15, hZ15, hown15, A15, C15, V15, Y15, la15, lb15, rq15, -, sep15, st15⟩ := ldcCH X8 hx hZ3 hown3 (tw hw 14 rfl) (own_str hw) e8 hS3 hk8 hEL (by decide) R8.1 (vs := []) (z := (0 : Int32)) ⟨by decide, by decide⟩ (by decide) rfl (g := (mkF m 18 #[vr r0, vr r1, vi p2, vi p3, .val .null, .unset] [(.ref r0)])) rfl (hb hby d2_18) (n := 0) (by decide) (by decide) (by decide) (by decide)
  have R15 := R8.trans rq15
  have S15_r0 := rq15.safe c9.lt S8_r0
  have Z15 : n0 ≤ h15.size := Nat.le_trans Z8 E15.1
  have K15 : Keep h0 h15 [r0] := K8.ext E15
  have c16 : Exa Z h15 r0 "java/lang/String" := c9.ext E15
  have c17 : Fld Z h15 r0 "java/lang/String" "value" "[B" (.ref t3) := Fw8.ext E15
  have c18 : Fld Z h15 r0 "java/lang/String" "coder" "B" (.int 0) := c10.ext E15
  have c19 : Exa Z h15 b3 "java/lang/String" := c11.ext E15
  have c20 : Fld Z h15 b3 "java/lang/String" "coder" "B" (.int 0) := c12.ext E15
  have c21 : Fld Z h15 b3 "java/lang/String" "value" "[B" (.ref t3) := c13.ext E15
  have c22 : Arv Z h15 t3 kb3 .byte (0 : Int32) [] (.int 0) := c14.ext E15
  have ne_r0_b15 : r0 ≠ b15 := (sep15 _ S15_r0).1
  have ne_r0_t15 : r0 ≠ t15 := (sep15 _ S15_r0).2
  obtain ⟨T23, X23, e23, st23⟩ := getF X15 hx hZ15 hown15 (host := "") (Or.inl (tw hw 21 rfl)) Via.refl e15 C15 (g := (mkF m 20 #[vr r0, vr r1, vi p2, vi p3, .val .null, .unset] [(.ref b15), (.ref r0)])) rfl rfl (hb hby d2_20)
  obtain ⟨T24, h24, X24, e24, W24, st24⟩ := putFN X23 hx hZ15 hown15 (tw hw 21 rfl) Via.refl e23 c18 c16 (Or.inr ⟨(tw hw 17 rfl), rfl, hnm⟩) (tw hw 2 rfl) (ty := .byte) (v' := (.int 0)) (by decide) rfl (by decide) (g := (mkF m 23 #[vr r0, vr r1, vi p2, vi p3, .val .null, .unset] [(.int 0), (.ref r0)])) rfl rfl (hb hby d2_23)
  have Fw24 : Fld Z h24 r0 "java/lang/String" "coder" "B" (.int 0) := c18.same W24
  have N24 := Fr.snoc X24 N8 g_r0
  have Z24 : n0 ≤ h24.size := Nat.le_trans Z15 (Keep.of_wr W24).1
  have hk24 : k15 ≤ h24.size := Nat.le_trans hk15 (Keep.of_wr W24).1
  have R24 := R15.trans (CHr.wr W24 S15_r0 R15.1)
  have S24_r0 := Safe.wr W24 S15_r0 R15.1 S15_r0
  have K24 : Keep h0 h24 [r0] := K15.wr W24 (Or.inl (List.mem_of_getElem? (i := 0) rfl))
  have c25 : Exa Z h24 r0 "java/lang/String" := c16.wr W24
  have c26 : Fld Z h24 r0 "java/lang/String" "value" "[B" (.ref t3) := c17.other W24 (Or.inr (slot_ne (Or.inr (tw hw 16 rfl)) (Or.inr (tw hw 17 rfl)) (by decide) (t := (.array .byte)) (t' := .byte) (by decide) (by decide)))
  have c27 : Exa Z h24 b3 "java/lang/String" := c19.wr W24
  have c28 : Fld Z h24 b3 "java/lang/String" "coder" "B" (.int 0) := c20.other W24 (Or.inl (Ne.symm ne_r0_b3))
  have c29 : Fld Z h24 b3 "java/lang/String" "value" "[B" (.ref t3) := c21.other W24 (Or.inl (Ne.symm ne_r0_b3))
  have c30 : Arv Z h24 t3 kb3 .byte (0 : Int32) [] (.int 0) := c22.other W24 (Ne.symm ne_r0_t3)
  have c31 : Exa Z h24 b15 "java/lang/String" := A15.wr W24
  have c32 : Fld Z h24 b15 "java/lang/String" "coder" "B" (.int 0) := C15.other W24 (Or.inl (Ne.symm ne_r0_b15))
  have c33 : Fld Z h24 b15 "java/lang/String" "value" "[B" (.ref t15) := V15.other W24 (Or.inl (Ne.symm ne_r0_b15))
  have c34 : Arv Z h24 t15 kb15 .byte (0 : Int32) [] (.int 0) := Y15.other W24 (Ne.symm ne_r0_t15)
  obtain ⟨fs, hr, hrun, hended, hR⟩ := X24.leaveW hS15 (by rw [e24]; exact hk24) (v := none) (fun _ => rfl)
  refine ⟨_, _, pre0 _ ?_, hrun, hended, _, _, rfl, ?_, (by rw [hh]; exact (own_ra (T := T24) R24 (by exact e24) (CHv.at X24 hZ15 hEL R24.1) : CHr Z consts_1 s.vm h0 T24.vm T24.heap)), own_rew hR (by decide) (by decide)⟩
  · skip
    show SF p e below s₁ m 0 #[vr r0, vr r1, vi p2, vi p3, .val .null, .unset] [] _
    refine XS.aloadN X0.here hx rfl (hb hby d2_0) rfl rfl ?_
    refine st1 _ ?_
    refine XS.iloadN X1.here hx rfl (hb hby d2_4) rfl ?_
    refine XS.ifNo X1.here hx rfl (hb hby d2_5) rfl ((if0 _ _).trans (teq hc2).2) ?_
    refine XS.aloadN X1.here hx rfl (hb hby d2_8) rfl rfl ?_
    show SF p e below T1 m 9 #[vr r0, vr r1, vi p2, vi p3, .val .null, .unset] [(.ref r0)] _
    refine st3 _ ?_
    refine st7 _ ?_
    refine st8 _ ?_
    refine XS.aloadN X8.here hx rfl (hb hby d2_17) rfl rfl ?_
    refine st15 _ ?_
    show SF p e below T15 m 20 #[vr r0, vr r1, vi p2, vi p3, .val .null, .unset] [(.ref b15), (.ref r0)] _
    refine st23 _ ?_
    refine st24 _ ?_
    show SF p e below T24 m 26 #[vr r0, vr r1, vi p2, vi p3, .val .null, .unset] [] _
    exact X24.returnOut hx Bd.returns (hb hby d2_26) hr
  · show Q2e Z r0 r1 p2 p3 h0 n0 _ T24.heap _
    rw [e24]
    exact ⟨rfl, N24, K24, c25, t3, kb3, c26, Fw24, c30⟩
def Q1e (Z : State) (r0 : Addr) (r1 : Addr) (k1 : ClassId) (h0 : Heap) (n0 : Nat) (v : Option Value) (h : Heap) (L : List Loc) : Prop := v = none ∧ Fr n0 L ∧ Keep h0 h [r0] ∧ Exa Z h r0 "java/lang/String" ∧ ∃ (t : Addr) (kt : ClassId), Fld Z h r0 "java/lang/String" "value" "[B" (.ref t) ∧ Fld Z h r0 "java/lang/String" "coder" "B" (.int 0) ∧ Arv Z h t kt .byte (0 : Int32) [] (.int 0)
set_option maxRecDepth 65536 in
set_option maxHeartbeats 40000000 in
theorem rm1e (l : Launch) (Z : State) (a0 : Array Value) (hw : ∀ d ∈ tables_1, d.before a0 Z = true) (ws : List Jvm.Cond) (r0 : Addr) (r1 : Addr) (k1 : ClassId) (h0 : Heap) (n0 : Nat) (Z0 : n0 ≤ h0.size) (E_r0 : Exa Z h0 r0 "java/lang/String") (F_0 : Fld Z h0 r0 "java/lang/String" "value" "[B" .null) (F_1 : Fld Z h0 r0 "java/lang/String" "coder" "B" (.int 0)) (g_r0 : n0 ≤ r0) (V1 : Arv Z h0 r1 k1 .char (0 : Int32) [] (.int 0)) :
    MetFree l mN7 (head1 (Jvm.Cond.code mN7 jdk_42_method_3_code 2 none :: ws) (rK 2 4 8 29)) (fun a U => a = #[(.ref r0), (.ref r1)] ∧ Z.Warmed39 U.vm ∧ U.heap = h0 ∧ CHv Z consts_1 U.vm h0) (fun _ _ _ _ _ => True) (fun _ U o U' => ∃ v L, o = .returned v ∧ Q1e Z r0 r1 k1 h0 n0 v U'.heap L ∧ CHr Z consts_1 U.vm U.heap U'.vm U'.heap ∧ ReturnedEndW U o U' L (rK 2 4 8 29).cells (rK 2 4 8 29).slots) := by
  refine MetFree.of_bodySF (plainFor_of_name pn_java_lang_String) hisR ?_
  intro p e s m args below meth c s₁ Bd hml0 hP hK
  obtain ⟨rfl, hZ, hh, hH⟩ := hP
  have hx := Bd.exec
  have hby := Bd.bytes
  have hml : c.maxLocals = 2 := hml0
  have hown : s.vm.findClass "java/lang/String" = some m.cls := findClass_of_methodNamed Bd.named
  have hnm := (name_of_methodNamed Bd.named Bd.method).1
  have X0 : Stand p l e (rK 2 4 8 29) (s.setVm s.vm) m #[(.ref r0), (.ref r1)] below meth c s₁ [] 0 0 := Stand.of_body Bd
  have e0 : s₁.heap = h0 := by rw [← hh, Bd.state]; rfl
  have N0 := Fr.nil n0
  have pre0 : ∀ t, SF p e below s₁ m 0 #[vr r0, vr r1] [] t → Steps p.tables e below (s₁.setTop (entryFrame m #[(.ref r0), (.ref r1)] 2)) t := fun t k => castTop (ef_1 m r0 r1) k
  have hS0 : s.Since s.vm 0 := (State.WarmedH.refl s).since 0
  have hk0 : 0 ≤ h0.size := Nat.zero_le _
  have R0 : CHr Z consts_1 s.vm h0 s.vm h0 := CHr.refl hH
  have hEL : EW Z a0 consts_1 := own_ew hw
  have KR : Keep h0 h0 [r0] := Keep.refl _ _
  have S0_r0 : Safe Z consts_1 s.vm h0 r0 := own_safe0 hZ.alike E_r0 F_0
  obtain ⟨cl1, Ar1, -, Sz1, Nn1, -, -⟩ := id V1
  obtain ⟨_, _, ⟨T2, L2, k2, n2⟩, -, X2, hs2, hg2, ⟨Lc2, hQ2, l2, y2, z2, rq2⟩, st2⟩ := X0.specialBackS hx (y := mN6) rfl hown (mvT hZ (tw hw 7 rfl)) (mvT hZ (tw hw 8 rfl)) (mvT hZ (tw hw 10 rfl)) (by decide) (backOfSH (W := 0) (rm2e l Z a0 hw [] r0 r1 (0 : Int32) (0 : Int32)  h0 n0 Z0 E_r0 F_0 F_1 g_r0 rfl) hZ (tw hw 10 rfl) (tw hw 3 rfl) (by decide) (by decide) hEL R0.1) (g := (mkF m 6 #[vr r0, vr r1] [.null, (.int 0), (.int 0), (.ref r1), (.ref r0)])) rfl (by rw [hml]; rfl) (Steps.refl _) (a := r0) (argsL := [(.ref r1), (.int 0), (.int 0), .null]) (rest := []) (lenOf pd_1 rfl) rfl (by show 2 * 0 + _ ≤ _; exact Nat.le_of_eq rfl) (hb hby d1_6) (fun _ _ => ⟨rfl, e0, (by decide : 0 + 4 ≤ _), (by decide : 0 + 8 ≤ _)⟩)
  dsimp only [Pt.U, Pt.locs, Pt.cells, Pt.slots] at X2 l2 y2 z2 st2 hQ2
  subst l2 y2 z2
  have X2 : Stand p l e (rK 2 4 8 29) (s.setVm T2.vm) m #[(.ref r0), (.ref r1)] below meth c T2 _ _ _ := X2
  have hS2 := foldS hS0 (by rw [e0]; exact hk0) hs2 hg2
  have hZ2 : Z.Warmed39 (s.setVm T2.vm).vm := State.Warmed39.trans (t := (s.setVm s.vm)) hZ hs2.1
  have hown2 : (s.setVm T2.vm).vm.findClass "java/lang/String" = some m.cls := by rw [show (s.setVm T2.vm).vm = T2.vm from rfl, hs2.1.alike.findClass]; exact hown
  have hk2 : T2.heap.size ≤ T2.heap.size := Nat.le_refl _
  dsimp only [Pt.U] at rq2
  have R2 := R0.trans rq2
  have S2_r0 := rq2.safe E_r0.lt S0_r0
  obtain ⟨rfl, Nq2, Kq2, Eq2, tq2, kq2', Fv2, Fc2, Yq2⟩ := hQ2
  have N2 := Fr.app N0 Nq2
  have Z2 : n0 ≤ T2.heap.size := Nat.le_trans Z0 Kq2.1
  have K2 : Keep h0 T2.heap [r0] := KR.trans Kq2 (fun x hx => by cases List.mem_singleton.mp hx; exact (Or.inl (List.mem_of_getElem? (i := 0) rfl)))
  obtain ⟨fs, hr, hrun, hended, hR⟩ := X2.leaveW hS2 (by exact hk2) (v := none) (fun _ => rfl)
  refine ⟨_, _, pre0 _ ?_, hrun, hended, _, _, rfl, ?_, (by rw [hh]; exact (own_ra (T := T2) R2 (by rfl) (CHv.at X2 hZ2 hEL R2.1) : CHr Z consts_1 s.vm h0 T2.vm T2.heap)), own_rew hR (by decide) (by decide)⟩
  · skip
    show SF p e below s₁ m 0 #[vr r0, vr r1] [] _
    refine XS.aloadN X0.here hx rfl (hb hby d1_0) rfl rfl ?_
    refine XS.aloadN X0.here hx rfl (hb hby d1_1) rfl rfl ?_
    refine XS.iconst X0.here hx rfl (hb hby d1_2) ?_
    refine XS.aloadN X0.here hx rfl (hb hby d1_3) rfl rfl ?_
    refine X0.arraylength hx (by rw [e0]; exact Ar1.1) (State.isArrayOf_alike hZ.alike Ar1.2.1) (g := (mkF m 4 #[vr r0, vr r1] [(.ref r1), (.int 0), (.ref r1), (.ref r0)])) rfl rfl (hb hby d1_4) _ ?_
    rw [len_of Sz1 Nn1]
    show SF p e below s₁ m 5 #[vr r0, vr r1] [(.int 0), (.int 0), (.ref r1), (.ref r0)] _
    refine XS.aconstNull X0.here hx rfl (hb hby d1_5) ?_
    refine st2.trans ?_
    show SF p e below T2 m 9 #[vr r0, vr r1] [] _
    exact X2.returnOut hx Bd.returns (hb hby d1_9) hr
  · show Q1e Z r0 r1 k1 h0 n0 _ T2.heap _
    exact ⟨rfl, N2, K2, Eq2, tq2, kq2', Fv2, Fc2, Yq2⟩
def Qnbl_1 (Z : State)  (h0 : Heap) (n0 : Nat) (v : Option Value) (h : Heap) (L : List Loc) : Prop := v = some (.int 2) ∧ Fr n0 L ∧ h = h0
set_option maxRecDepth 65536 in
set_option maxHeartbeats 40000000 in
theorem rmnbl_1 (l : Launch) (Z : State) (a0 : Array Value) (hw : ∀ d ∈ tables_1, d.before a0 Z = true) (ws : List Jvm.Cond)  (h0 : Heap) (n0 : Nat) (Z0 : n0 ≤ h0.size) :
    MF l Z mN8 jdk_52_method_3_code 1 (some .int) ws (rK 0 0 0 0) #[(.int 1)] h0 (Qnbl_1 Z  h0 n0) := by
  refine MetFree.of_bodySF (plainFor_of_name pn_java_lang_StringUTF16) hisR ?_
  intro p e s m args below meth c s₁ Bd hml0 hP hK
  obtain ⟨rfl, hZ, hh⟩ := hP
  have hx := Bd.exec
  have hby := Bd.bytes
  have hml : c.maxLocals = 1 := hml0
  have hown : s.vm.findClass "java/lang/StringUTF16" = some m.cls := findClass_of_methodNamed Bd.named
  have hnm := (name_of_methodNamed Bd.named Bd.method).1
  have X0 : Stand p l e (rK 0 0 0 0) s m #[(.int 1)] below meth c s₁ [] 0 0 := Stand.of_body Bd
  have e0 : s₁.heap = h0 := by rw [← hh, Bd.state]; rfl
  have N0 := Fr.nil n0
  have pre0 : ∀ t, SF p e below s₁ m 0 #[vi 1] [] t → Steps p.tables e below (s₁.setTop (entryFrame m #[(.int 1)] 1)) t := fun t k => castTop (ef_19 m (1 : Int32)) k
  have hc1 : ¬ ((1 : Int32) < (0 : Int32)) := by decide
  have hc2 : (1 : Int32) < (1073741823 : Int32) := by decide
  obtain ⟨fs, hr, hrun, hended, hW, hsame⟩ := X0.leave (v := some (.int 2)) (fun h => by rw [Bd.returns] at h; cases h)
  refine ⟨_, _, pre0 _ ?_, hrun, hended, _, _, rfl, ?_, ⟨_, rfl⟩, hW, hsame.mono (by decide) (by decide)⟩
  · skip
    show SF p e below s₁ m 0 #[vi 1] [] _
    refine XS.iloadN X0.here hx rfl (hb hby d19_0) rfl ?_
    refine XS.ifYes X0.here hx rfl (pc0 := 1) (pc' := 12) rfl (hb hby d19_1) rfl ((if0 _ _).trans (flt hc1).2.1) (by decide) (by decide) ?_
    refine XS.iloadN X0.here hx rfl (hb hby d19_12) rfl ?_
    refine X0.ldcInt hx hown (mvT hZ (tw hw 83 rfl)) (g := (mkF m 13 #[vi 1] [(.int 1)])) rfl (hb hby d19_13) _ ?_
    refine XS.icmpYes X0.here hx rfl (pc0 := 15) (pc' := 55) rfl (hb hby d19_15) rfl (tlt hc2).1 (by decide) (by decide) ?_
    show SF p e below s₁ m 55 #[vi 1] [] _
    refine XS.iloadN X0.here hx rfl (hb hby d19_55) rfl ?_
    refine XS.iconst X0.here hx rfl (hb hby d19_56) ?_
    refine XS.ishl X0.here hx rfl (hb hby d19_57) rfl ?_
    show SF p e below s₁ m 58 #[vi 1] [(.int 2)] _
    exact retI X0 hx Bd.returns (hb hby d19_58) hr
  · show Qnbl_1 Z  h0 n0 _ s₁.heap _
    rw [e0]
    exact ⟨rfl, N0, rfl⟩
def Qnbf_1 (Z : State)  (h0 : Heap) (n0 : Nat) (v : Option Value) (h : Heap) (L : List Loc) : Prop := ∃ (b : Addr) (kb : ClassId), v = some (.ref b) ∧ Fr n0 L ∧ Keep h0 h [] ∧ h0.size ≤ b ∧ Arv Z h b kb .byte (2 : Int32) [(.int 0), (.int 0)] (.int 0)
set_option maxRecDepth 65536 in
set_option maxHeartbeats 40000000 in
theorem rmnbf_1 (l : Launch) (Z : State) (a0 : Array Value) (hw : ∀ d ∈ tables_1, d.before a0 Z = true) (ws : List Jvm.Cond)  (h0 : Heap) (n0 : Nat) (Z0 : n0 ≤ h0.size) :
    MF l Z mN9 jdk_52_method_2_code 1 (some (.array .byte)) ws (rK 1 1 2 12) #[(.int 1)] h0 (Qnbf_1 Z  h0 n0) := by
  refine MetFree.of_bodySF (plainFor_of_name pn_java_lang_StringUTF16) hisR ?_
  intro p e s m args below meth c s₁ Bd hml0 hP hK
  obtain ⟨rfl, hZ, hh⟩ := hP
  have hx := Bd.exec
  have hby := Bd.bytes
  have hml : c.maxLocals = 1 := hml0
  have hown : s.vm.findClass "java/lang/StringUTF16" = some m.cls := findClass_of_methodNamed Bd.named
  have hnm := (name_of_methodNamed Bd.named Bd.method).1
  have X0 : Stand p l e (rK 1 1 2 12) s m #[(.int 1)] below meth c s₁ [] 0 0 := Stand.of_body Bd
  have e0 : s₁.heap = h0 := by rw [← hh, Bd.state]; rfl
  have N0 := Fr.nil n0
  have pre0 : ∀ t, SF p e below s₁ m 0 #[vi 1] [] t → Steps p.tables e below (s₁.setTop (entryFrame m #[(.int 1)] 1)) t := fun t k => castTop (ef_18 m (1 : Int32)) k
  have KR : Keep h0 h0 [] := Keep.refl _ _
  obtain ⟨_, _, ⟨T1, L1, k1, n1⟩, -, X1, ⟨Lc1, hQ1, l1, y1, z1⟩, st1⟩ := Jvm.LawKit.callS X0 hx (y := mN8) hown (mvT hZ (tw hw 80 rfl)) (mvT hZ (tw hw 81 rfl)) (mvT hZ (tw hw 34 rfl)) (mvT hZ (tw hw 82 rfl)) (by decide) (backOf (W := 0) (rmnbl_1 l Z a0 hw []  h0 n0 Z0 ) hZ (tw hw 82 rfl) (tw hw 34 rfl) (by decide) (by decide)) (g := (mkF m 1 #[vi 1] [(.int 1)])) rfl (by rw [hml]; rfl) (argsL := [(.int 1)]) (rest := []) (lenOf pd_2 rfl) rfl (by show 2 * 0 + _ ≤ _; exact Nat.le_of_eq rfl) (hb hby d18_1) (fun _ _ => ⟨rfl, e0, (by decide : 0 + 0 ≤ _), (by decide : 0 + 0 ≤ _)⟩)
  dsimp only [Pt.U, Pt.locs, Pt.cells, Pt.slots] at X1 l1 y1 z1 st1 hQ1
  subst l1 y1 z1
  obtain ⟨rfl, Nq1, e1⟩ := hQ1
  have N1 := Fr.app N0 Nq1
  obtain ⟨T2, h2, k2, X2, e2, E2, A2, st2⟩ := newP X1 hx hZ (tw hw 15 rfl) e1 (g := (mkF m 4 #[vi 1] [(.int 2)])) rfl (hb hby d18_4) rfl (by decide) (cap := 2) (by decide) (by decide) (by decide) (by decide)
  obtain ⟨b2, g2⟩ : ∃ z, z = h0.size := ⟨_, rfl⟩
  rw [← g2] at A2 st2
  have g_b2 : n0 ≤ b2 := Nat.le_trans Z0 (Nat.le_of_eq g2.symm)
  have Z2 : n0 ≤ h2.size := Nat.le_trans Z0 E2.1
  have K2 : Keep h0 h2 [] := KR.ext E2
  have sz_b2 : h0.size ≤ b2 := Nat.le_trans KR.1 (Nat.le_of_eq g2.symm)
  have V2 : Arv Z h2 b2 k2 .byte (2 : Int32) [(.int 0), (.int 0)] (.int 0) := (Arv.new A2 (by decide)).pad (pad_rep [] (.int 0) 2)
  obtain ⟨fs, hr, hrun, hended, hW, hsame⟩ := X2.leave (v := some (.ref b2)) (fun h => by rw [Bd.returns] at h; cases h)
  refine ⟨_, _, pre0 _ ?_, hrun, hended, _, _, rfl, ?_, ⟨_, rfl⟩, hW, hsame.mono (by decide) (by decide)⟩
  · skip
    show SF p e below s₁ m 0 #[vi 1] [] _
    refine XS.iloadN X0.here hx rfl (hb hby d18_0) rfl ?_
    refine st1 _ ?_
    refine st2 _ ?_
    show SF p e below T2 m 6 #[vi 1] [(.ref b2)] _
    jvm_step X2.here [X2.here.top, hx, (hb hby d18_6), X2.method', Bd.returns, Value.isRef, FieldType.isReference]
    first | (intro acts; rw [hr _ acts rfl rfl rfl]) | rw [hr _ _ rfl rfl rfl]
    exact Steps.refl _
  · show Qnbf_1 Z  h0 n0 _ T2.heap _
    rw [e2]
    exact ⟨b2, k2, rfl, N1, K2, sz_b2, V2⟩
def Qpc_1_0 (Z : State) (r0 : Addr) (p2 : Int32) (k0 : ClassId) (v0 : Int32) (v1 : Int32) (h0 : Heap) (n0 : Nat) (v : Option Value) (h : Heap) (L : List Loc) : Prop := v = none ∧ Fr n0 L ∧ Keep h0 h [r0] ∧ Arv Z h r0 k0 .byte (2 : Int32) [(.int (loB p2)), (.int (hiB p2))] (.int 0)
set_option maxRecDepth 65536 in
set_option maxHeartbeats 40000000 in
theorem rmpc_1_0 (l : Launch) (Z : State) (a0 : Array Value) (hw : ∀ d ∈ tables_1, d.before a0 Z = true) (ws : List Jvm.Cond) (r0 : Addr) (p2 : Int32) (k0 : ClassId) (v0 : Int32) (v1 : Int32) (h0 : Heap) (n0 : Nat) (Z0 : n0 ≤ h0.size) (V0 : Arv Z h0 r0 k0 .byte (2 : Int32) [(.int v0), (.int v1)] (.int 0)) (g_r0 : n0 ≤ r0) (OA : sA Z h0) (OH : sH Z h0) (OL : sL Z h0) :
    MF l Z mN10 jdk_52_method_4_code 3 none ws (rK 0 0 0 0) #[(.ref r0), (.int 0), (.int p2)] h0 (Qpc_1_0 Z r0 p2 k0 v0 v1 h0 n0) := by
  refine MetFree.of_bodySF (plainFor_of_name pn_java_lang_StringUTF16) hisR ?_
  intro p e s m args below meth c s₁ Bd hml0 hP hK
  obtain ⟨rfl, hZ, hh⟩ := hP
  have hx := Bd.exec
  have hby := Bd.bytes
  have hml : c.maxLocals = 3 := hml0
  have hown : s.vm.findClass "java/lang/StringUTF16" = some m.cls := findClass_of_methodNamed Bd.named
  have hnm := (name_of_methodNamed Bd.named Bd.method).1
  have X0 : Stand p l e (rK 0 0 0 0) s m #[(.ref r0), (.int 0), (.int p2)] below meth c s₁ [] 0 0 := Stand.of_body Bd
  have e0 : s₁.heap = h0 := by rw [← hh, Bd.state]; rfl
  have N0 := Fr.nil n0
  have pre0 : ∀ t, SF p e below s₁ m 0 #[vr r0, vi 0, vi p2] [] t → Steps p.tables e below (s₁.setTop (entryFrame m #[(.ref r0), (.int 0), (.int p2)] 3)) t := fun t k => castTop (ef_20 m r0 (0 : Int32) p2) k
  have KR : Keep h0 h0 [r0] := Keep.refl _ _
  obtain ⟨T1, X1, e1, st1⟩ := getS2 X0 hx hZ hown (host := "") (Or.inl (tw hw 87 rfl)) Via.refl e0 OA (g := (mkF m 0 #[vr r0, vi 0, vi p2] [])) rfl (hb hby d20_0)
  have hc2 : ¬ ((1 : Int32) = (0 : Int32)) := by decide
  obtain ⟨T3, X3, e3, st3⟩ := getS2 X1 hx hZ hown (host := "") (Or.inl (tw hw 88 rfl)) Via.refl e1 OH (g := (mkF m 38 #[vr r0, vi 1, vi p2] [(.int p2), (.int 0), (.ref r0)])) rfl (hb hby d20_38)
  obtain ⟨cl4, Ar4, q4, Sz4, Nn4, Hh4, Gg4⟩ := id V0
  have hin4 : ¬ ((0 : Int32) < 0 ∨ cl4.slots.size ≤ ((0 : Int32)).toNatClampNeg) := inb_of Sz4 ⟨by decide, by decide⟩
  obtain ⟨T5, h5, X5, e5, W5, st5⟩ := stB X3 hx hZ e3 Ar4 (j := (0 : Int32)) hin4 (g := (mkF m 43 #[vr r0, vi 1, vi p2] [(.int ((p2 >>> ((0 : Int32) &&& 31)).toInt8.toInt32)), (.int 0), (.ref r0)])) rfl rfl (hb hby d20_43)
  have V5 : Arv Z h5 r0 k0 .byte (2 : Int32) [(.int (nar .byte ((p2 >>> ((0 : Int32) &&& 31)).toInt8.toInt32))), (.int v1)] (.int 0) := Arv.set Ar4 q4 Sz4 Nn4 Hh4 Gg4 (fits_nar_byte _) W5 0 rfl (Nat.le_of_ble_eq_true rfl)
  have N5 := Fr.snoc X5 N0 g_r0
  have Z5 : n0 ≤ h5.size := Nat.le_trans Z0 (Keep.of_wr W5).1
  have K5 : Keep h0 h5 [r0] := KR.wr W5 (Or.inl (List.mem_of_getElem? (i := 0) rfl))
  have c6 : sA Z h5 := OA.wr W5
  have c7 : sH Z h5 := OH.wr W5
  have c8 : sL Z h5 := OL.wr W5
  obtain ⟨T9, X9, e9, st9⟩ := getS2 X5 hx hZ hown (host := "") (Or.inl (tw hw 89 rfl)) Via.refl e5 c8 (g := (mkF m 47 #[vr r0, vi 1, vi p2] [(.int p2), (.int 1), (.ref r0)])) rfl (hb hby d20_47)
  obtain ⟨cl10, Ar10, q10, Sz10, Nn10, Hh10, Gg10⟩ := id V5
  have hin10 : ¬ ((1 : Int32) < 0 ∨ cl10.slots.size ≤ ((1 : Int32)).toNatClampNeg) := inb_of Sz10 ⟨by decide, by decide⟩
  obtain ⟨T11, h11, X11, e11, W11, st11⟩ := stB X9 hx hZ e9 Ar10 (j := (1 : Int32)) hin10 (g := (mkF m 52 #[vr r0, vi 1, vi p2] [(.int ((p2 >>> ((8 : Int32) &&& 31)).toInt8.toInt32)), (.int 1), (.ref r0)])) rfl rfl (hb hby d20_52)
  have V11 : Arv Z h11 r0 k0 .byte (2 : Int32) [(.int (nar .byte ((p2 >>> ((0 : Int32) &&& 31)).toInt8.toInt32))), (.int (nar .byte ((p2 >>> ((8 : Int32) &&& 31)).toInt8.toInt32)))] (.int 0) := Arv.set Ar10 q10 Sz10 Nn10 Hh10 Gg10 (fits_nar_byte _) W11 1 rfl (Nat.le_of_ble_eq_true rfl)
  have N11 := Fr.snoc X11 N5 g_r0
  have Z11 : n0 ≤ h11.size := Nat.le_trans Z5 (Keep.of_wr W11).1
  have K11 : Keep h0 h11 [r0] := K5.wr W11 (Or.inl (List.mem_of_getElem? (i := 0) rfl))
  have c12 : sA Z h11 := c6.wr W11
  have c13 : sH Z h11 := c7.wr W11
  have c14 : sL Z h11 := c8.wr W11
  obtain ⟨fs, hr, hrun, hended, hW, hsame⟩ := X11.leave (v := none) (fun _ => rfl)
  refine ⟨_, _, pre0 _ ?_, hrun, hended, _, _, rfl, ?_, ⟨_, rfl⟩, hW, hsame.mono (by decide) (by decide)⟩
  · skip
    show SF p e below s₁ m 0 #[vr r0, vi 0, vi p2] [] _
    refine st1 _ ?_
    refine XS.ifYes X1.here hx rfl (pc0 := 3) (pc' := 28) rfl (hb hby d20_3) rfl ((if0 _ _).trans (feq hc2).2) (by decide) (by decide) ?_
    refine XS.iloadN X1.here hx rfl (hb hby d20_28) rfl ?_
    refine XS.iconst X1.here hx rfl (hb hby d20_29) ?_
    refine XS.ishl X1.here hx rfl (hb hby d20_30) rfl ?_
    show SF p e below T1 m 31 #[vr r0, vi 0, vi p2] [(.int 0)] _
    refine XS.istoreN X1.here hx rfl (hb hby d20_31) rfl (l' := #[vr r0, vi 0, vi p2]) rfl ?_
    refine XS.aloadN X1.here hx rfl (hb hby d20_32) rfl rfl ?_
    refine XS.iloadN X1.here hx rfl (hb hby d20_33) rfl ?_
    refine XS.iinc X1.here hx rfl (hb hby d20_34) rfl (l' := #[vr r0, vi 1, vi p2]) rfl ?_
    refine XS.iloadN X1.here hx rfl (hb hby d20_37) rfl ?_
    show SF p e below T1 m 38 #[vr r0, vi 1, vi p2] [(.int p2), (.int 0), (.ref r0)] _
    refine st3 _ ?_
    refine XS.ishr X3.here hx rfl (hb hby d20_41) rfl ?_
    refine XS.i2b X3.here hx rfl (hb hby d20_42) rfl ?_
    refine st5 _ ?_
    refine XS.aloadN X5.here hx rfl (hb hby d20_44) rfl rfl ?_
    show SF p e below T5 m 45 #[vr r0, vi 1, vi p2] [(.ref r0)] _
    refine XS.iloadN X5.here hx rfl (hb hby d20_45) rfl ?_
    refine XS.iloadN X5.here hx rfl (hb hby d20_46) rfl ?_
    refine st9 _ ?_
    refine XS.ishr X9.here hx rfl (hb hby d20_50) rfl ?_
    refine XS.i2b X9.here hx rfl (hb hby d20_51) rfl ?_
    show SF p e below T9 m 52 #[vr r0, vi 1, vi p2] [(.int ((p2 >>> ((8 : Int32) &&& 31)).toInt8.toInt32)), (.int 1), (.ref r0)] _
    refine st11 _ ?_
    show SF p e below T11 m 53 #[vr r0, vi 1, vi p2] [] _
    exact X11.returnOut hx Bd.returns (hb hby d20_53) hr
  · show Qpc_1_0 Z r0 p2 k0 v0 v1 h0 n0 _ T11.heap _
    rw [e11]
    exact ⟨rfl, N11, K11, V11⟩
def Qtb_1 (Z : State) (r0 : Addr) (k0 : ClassId) (ch0 : Int32) (h0 : Heap) (n0 : Nat) (v : Option Value) (h : Heap) (L : List Loc) : Prop := ∃ (b : Addr) (kb : ClassId), v = some (.ref b) ∧ Fr n0 L ∧ Keep h0 h [] ∧ h0.size ≤ b ∧ Arv Z h b kb .byte (2 : Int32) [(.int (loB ch0)), (.int (hiB ch0))] (.int 0)
set_option maxRecDepth 65536 in
set_option maxHeartbeats 40000000 in
theorem rmtb_1 (l : Launch) (Z : State) (a0 : Array Value) (hw : ∀ d ∈ tables_1, d.before a0 Z = true) (ws : List Jvm.Cond) (r0 : Addr) (k0 : ClassId) (ch0 : Int32) (h0 : Heap) (n0 : Nat) (Z0 : n0 ≤ h0.size) (V0 : Arv Z h0 r0 k0 .char (1 : Int32) [(.int ch0)] (.int 0)) (OA : sA Z h0) (OH : sH Z h0) (OL : sL Z h0) :
    MF l Z mN11 jdk_52_method_14_code 5 (some (.array .byte)) ws (rK 2 1 2 24) #[(.ref r0), (.int 0), (.int 1)] h0 (Qtb_1 Z r0 k0 ch0 h0 n0) := by
  refine MetFree.of_bodySF (plainFor_of_name pn_java_lang_StringUTF16) hisR ?_
  intro p e s m args below meth c s₁ Bd hml0 hP hK
  obtain ⟨rfl, hZ, hh⟩ := hP
  have hx := Bd.exec
  have hby := Bd.bytes
  have hml : c.maxLocals = 5 := hml0
  have hown : s.vm.findClass "java/lang/StringUTF16" = some m.cls := findClass_of_methodNamed Bd.named
  have hnm := (name_of_methodNamed Bd.named Bd.method).1
  have X0 : Stand p l e (rK 2 1 2 24) s m #[(.ref r0), (.int 0), (.int 1)] below meth c s₁ [] 0 0 := Stand.of_body Bd
  have e0 : s₁.heap = h0 := by rw [← hh, Bd.state]; rfl
  have N0 := Fr.nil n0
  have pre0 : ∀ t, SF p e below s₁ m 0 #[vr r0, vi 0, vi 1, .unset, .unset] [] t → Steps p.tables e below (s₁.setTop (entryFrame m #[(.ref r0), (.int 0), (.int 1)] 5)) t := fun t k => castTop (ef_17 m r0 (0 : Int32) (1 : Int32)) k
  have KR : Keep h0 h0 [] := Keep.refl _ _
  obtain ⟨_, _, ⟨T1, L1, k1, n1⟩, -, X1, ⟨Lc1, hQ1, l1, y1, z1⟩, st1⟩ := Jvm.LawKit.callS X0 hx (y := mN9) hown (mvT hZ (tw hw 77 rfl)) (mvT hZ (tw hw 78 rfl)) (mvT hZ (tw hw 34 rfl)) (mvT hZ (tw hw 79 rfl)) (by decide) (backOf (W := 0) (rmnbf_1 l Z a0 hw []  h0 n0 Z0 ) hZ (tw hw 79 rfl) (tw hw 34 rfl) (by decide) (by decide)) (g := (mkF m 1 #[vr r0, vi 0, vi 1, .unset, .unset] [(.int 1)])) rfl (by rw [hml]; rfl) (argsL := [(.int 1)]) (rest := []) (lenOf pd_3 rfl) rfl (by show 2 * 0 + _ ≤ _; exact Nat.le_of_eq rfl) (hb hby d17_1) (fun _ _ => ⟨rfl, e0, (by decide : 0 + 1 ≤ _), (by decide : 0 + 2 ≤ _)⟩)
  dsimp only [Pt.U, Pt.locs, Pt.cells, Pt.slots] at X1 l1 y1 z1 st1 hQ1
  subst l1 y1 z1
  obtain ⟨b1, kb1, rfl, Nq1, Kq1, sq1, Vq1⟩ := hQ1
  have N1 := Fr.app N0 Nq1
  have Z1 : n0 ≤ T1.heap.size := Nat.le_trans Z0 Kq1.1
  have ne_r0_b1 : r0 ≠ b1 := Nat.ne_of_lt (Nat.lt_of_lt_of_le V0.lt sq1)
  have g_b1 : n0 ≤ b1 := Nat.le_trans Z0 sq1
  have sz_b1 : h0.size ≤ b1 := Nat.le_trans KR.1 sq1
  have K1 : Keep h0 T1.heap [] := KR.trans Kq1 (fun x hx => by cases hx)
  have c2 : Arv Z T1.heap r0 k0 .char (1 : Int32) [(.int ch0)] (.int 0) := V0.keep Kq1 (by simp)
  have hc3 : (0 : Int32) < (1 : Int32) := by decide
  obtain ⟨cl4, Ar4, -, Sz4, Nn4, Hh4, -⟩ := id c2
  have hin4 : ¬ ((0 : Int32) < 0 ∨ cl4.slots.size ≤ ((0 : Int32)).toNatClampNeg) := inb_of Sz4 ⟨by decide, by decide⟩
  have hat4 : cl4.slots[((0 : Int32)).toNatClampNeg]? = some (.int ch0) := Hh4 0 (by rw [Sz4]; decide)
  obtain ⟨_, _, ⟨T5, L5, k5, n5⟩, -, X5, ⟨Lc5, hQ5, l5, y5, z5⟩, st5⟩ := Jvm.LawKit.callS X1 hx (y := mN10) hown (mvT hZ (tw hw 84 rfl)) (mvT hZ (tw hw 85 rfl)) (mvT hZ (tw hw 34 rfl)) (mvT hZ (tw hw 86 rfl)) (by decide) (backOf (W := 0) (rmpc_1_0 l Z a0 hw [] b1 ch0 kb1 (0 : Int32) (0 : Int32) T1.heap n0 Z1 Vq1 g_b1 (own_s0 OA K1) (own_s0 OH K1) (own_s0 OL K1)) hZ (tw hw 86 rfl) (tw hw 34 rfl) (by decide) (by decide)) (g := (mkF m 20 #[vr r0, vi 0, vi 1, vr b1, vi 0] [(.int ch0), (.int 0), (.ref b1)])) rfl (by rw [hml]; rfl) (argsL := [(.ref b1), (.int 0), (.int ch0)]) (rest := []) (lenOf pd_4 rfl) rfl (by show 2 * 0 + _ ≤ _; exact Nat.le_of_eq rfl) (hb hby d17_20) (fun _ _ => ⟨rfl, rfl, (by decide : 1 + 0 ≤ _), (by decide : 2 + 0 ≤ _)⟩)
  dsimp only [Pt.U, Pt.locs, Pt.cells, Pt.slots] at X5 l5 y5 z5 st5 hQ5
  subst l5 y5 z5
  obtain ⟨rfl, Nq5, Kq5, Vq5⟩ := hQ5
  have N5 := Fr.app N1 Nq5
  have Z5 : n0 ≤ T5.heap.size := Nat.le_trans Z1 Kq5.1
  have K5 : Keep h0 T5.heap [] := K1.trans Kq5 (fun x hx => by cases List.mem_singleton.mp hx; exact (Or.inr sz_b1))
  have c6 : Arv Z T5.heap r0 k0 .char (1 : Int32) [(.int ch0)] (.int 0) := c2.keep Kq5 (fun q => ne_r0_b1 (List.mem_singleton.mp q))
  have hc7 : ¬ ((1 : Int32) < (1 : Int32)) := by decide
  obtain ⟨fs, hr, hrun, hended, hW, hsame⟩ := X5.leave (v := some (.ref b1)) (fun h => by rw [Bd.returns] at h; cases h)
  refine ⟨_, _, pre0 _ ?_, hrun, hended, _, _, rfl, ?_, ⟨_, rfl⟩, hW, hsame.mono (by decide) (by decide)⟩
  · skip
    show SF p e below s₁ m 0 #[vr r0, vi 0, vi 1, .unset, .unset] [] _
    refine XS.iloadN X0.here hx rfl (hb hby d17_0) rfl ?_
    refine st1 _ ?_
    refine XS.astoreN X1.here hx rfl (hb hby d17_4) rfl rfl (l' := #[vr r0, vi 0, vi 1, vr b1, .unset]) rfl ?_
    refine XS.iconst X1.here hx rfl (hb hby d17_5) ?_
    refine XS.istore X1.here hx rfl (hb hby d17_6) rfl (l' := #[vr r0, vi 0, vi 1, vr b1, vi 0]) rfl ?_
    show SF p e below T1 m 8 #[vr r0, vi 0, vi 1, vr b1, vi 0] [] _
    refine XS.iload X1.here hx rfl (hb hby d17_8) rfl ?_
    refine XS.iloadN X1.here hx rfl (hb hby d17_10) rfl ?_
    refine XS.icmpNo X1.here hx rfl (hb hby d17_11) rfl (tlt hc3).2.1 ?_
    refine XS.aloadN X1.here hx rfl (hb hby d17_14) rfl rfl ?_
    refine XS.iload X1.here hx rfl (hb hby d17_15) rfl ?_
    show SF p e below T1 m 17 #[vr r0, vi 0, vi 1, vr b1, vi 0] [(.int 0), (.ref b1)] _
    refine XS.aloadN X1.here hx rfl (hb hby d17_17) rfl rfl ?_
    refine XS.iloadN X1.here hx rfl (hb hby d17_18) rfl ?_
    refine X1.caload hx (j := (0 : Int32)) (v := (.int ch0)) (by exact Ar4.1) (State.isArrayOf_alike hZ.alike Ar4.2.1) Ar4.2.2 hin4 hat4 (g := (mkF m 19 #[vr r0, vi 0, vi 1, vr b1, vi 0] [(.int 0), (.ref r0), (.int 0), (.ref b1)])) rfl rfl (hb hby d17_19) _ ?_
    refine st5 _ ?_
    refine XS.iinc X5.here hx rfl (hb hby d17_23) rfl (l' := #[vr r0, vi 1, vi 1, vr b1, vi 0]) rfl ?_
    show SF p e below T5 m 26 #[vr r0, vi 1, vi 1, vr b1, vi 0] [] _
    refine XS.iinc X5.here hx rfl (hb hby d17_26) rfl (l' := #[vr r0, vi 1, vi 1, vr b1, vi 1]) rfl ?_
    refine XS.goto X5.here hx rfl (pc0 := 29) (pc' := 8) rfl (hb hby d17_29) (by decide) (by decide) ?_
    refine XS.iload X5.here hx rfl (hb hby d17_8) rfl ?_
    refine XS.iloadN X5.here hx rfl (hb hby d17_10) rfl ?_
    refine XS.icmpYes X5.here hx rfl (pc0 := 11) (pc' := 32) rfl (hb hby d17_11) rfl (flt hc7).2.1 (by decide) (by decide) ?_
    show SF p e below T5 m 32 #[vr r0, vi 1, vi 1, vr b1, vi 1] [] _
    refine XS.aloadN X5.here hx rfl (hb hby d17_32) rfl rfl ?_
    show SF p e below T5 m 33 #[vr r0, vi 1, vi 1, vr b1, vi 1] [(.ref b1)] _
    jvm_step X5.here [X5.here.top, hx, (hb hby d17_33), X5.method', Bd.returns, Value.isRef, FieldType.isReference]
    first | (intro acts; rw [hr _ acts rfl rfl rfl]) | rw [hr _ _ rfl rfl rfl]
    exact Steps.refl _
  · show Qtb_1 Z r0 k0 ch0 h0 n0 _ T5.heap _
    exact ⟨b1, kb1, rfl, N5, K5, sz_b1, Vq5⟩
def Qgc_1_0 (Z : State) (r0 : Addr) (k0 : ClassId) (ch0 : Int32) (h0 : Heap) (n0 : Nat) (v : Option Value) (h : Heap) (L : List Loc) : Prop := v = some (.int ch0) ∧ Fr n0 L ∧ h = h0
set_option maxRecDepth 65536 in
set_option maxHeartbeats 40000000 in
theorem rmgc_1_0 (l : Launch) (Z : State) (a0 : Array Value) (hw : ∀ d ∈ tables_1, d.before a0 Z = true) (ws : List Jvm.Cond) (r0 : Addr) (k0 : ClassId) (ch0 : Int32) (h0 : Heap) (n0 : Nat) (Z0 : n0 ≤ h0.size) (V0 : Arv Z h0 r0 k0 .byte (2 : Int32) [(.int (loB ch0)), (.int (hiB ch0))] (.int 0)) (hbc : 0 ≤ ch0.toInt ∧ ch0.toInt ≤ 65535) (OA : sA Z h0) (OH : sH Z h0) (OL : sL Z h0) :
    MF l Z mN12 jdk_52_method_5_code 2 (some .char) ws (rK 0 0 0 0) #[(.ref r0), (.int 0)] h0 (Qgc_1_0 Z r0 k0 ch0 h0 n0) := by
  refine MetFree.of_bodySF (plainFor_of_name pn_java_lang_StringUTF16) hisR ?_
  intro p e s m args below meth c s₁ Bd hml0 hP hK
  obtain ⟨rfl, hZ, hh⟩ := hP
  have hx := Bd.exec
  have hby := Bd.bytes
  have hml : c.maxLocals = 2 := hml0
  have hown : s.vm.findClass "java/lang/StringUTF16" = some m.cls := findClass_of_methodNamed Bd.named
  have hnm := (name_of_methodNamed Bd.named Bd.method).1
  have X0 : Stand p l e (rK 0 0 0 0) s m #[(.ref r0), (.int 0)] below meth c s₁ [] 0 0 := Stand.of_body Bd
  have e0 : s₁.heap = h0 := by rw [← hh, Bd.state]; rfl
  have N0 := Fr.nil n0
  have pre0 : ∀ t, SF p e below s₁ m 0 #[vr r0, vi 0] [] t → Steps p.tables e below (s₁.setTop (entryFrame m #[(.ref r0), (.int 0)] 2)) t := fun t k => castTop (ef_21 m r0 (0 : Int32)) k
  obtain ⟨T1, X1, e1, st1⟩ := getS2 X0 hx hZ hown (host := "") (Or.inl (tw hw 87 rfl)) Via.refl e0 OA (g := (mkF m 0 #[vr r0, vi 0] [])) rfl (hb hby d21_0)
  have hc2 : ¬ ((1 : Int32) = (0 : Int32)) := by decide
  obtain ⟨cl3, Ar3, -, Sz3, Nn3, Hh3, -⟩ := id V0
  have hin3 : ¬ ((0 : Int32) < 0 ∨ cl3.slots.size ≤ ((0 : Int32)).toNatClampNeg) := inb_of Sz3 ⟨by decide, by decide⟩
  have hat3 : cl3.slots[((0 : Int32)).toNatClampNeg]? = some (.int (loB ch0)) := Hh3 0 (by rw [Sz3]; decide)
  obtain ⟨T4, X4, e4, st4⟩ := getS2 X1 hx hZ hown (host := "") (Or.inl (tw hw 88 rfl)) Via.refl e1 OH (g := (mkF m 42 #[vr r0, vi 1] [(.int ((loB ch0) &&& (255 : Int32)))])) rfl (hb hby d21_42)
  obtain ⟨cl5, Ar5, -, Sz5, Nn5, Hh5, -⟩ := id V0
  have hin5 : ¬ ((1 : Int32) < 0 ∨ cl5.slots.size ≤ ((1 : Int32)).toNatClampNeg) := inb_of Sz5 ⟨by decide, by decide⟩
  have hat5 : cl5.slots[((1 : Int32)).toNatClampNeg]? = some (.int (hiB ch0)) := Hh5 1 (by rw [Sz5]; decide)
  obtain ⟨T6, X6, e6, st6⟩ := getS2 X4 hx hZ hown (host := "") (Or.inl (tw hw 89 rfl)) Via.refl e4 OL (g := (mkF m 53 #[vr r0, vi 1] [(.int ((hiB ch0) &&& (255 : Int32))), (.int (((loB ch0) &&& (255 : Int32)) <<< ((0 : Int32) &&& 31)))])) rfl (hb hby d21_53)
  obtain ⟨fs, hr, hrun, hended, hW, hsame⟩ := X6.leave (v := some (.int (nar .char (((((loB ch0) &&& (255 : Int32)) <<< ((0 : Int32) &&& 31)) ||| (((hiB ch0) &&& (255 : Int32)) <<< ((8 : Int32) &&& 31))).toUInt32.toUInt16.toUInt32.toInt32)))) (fun h => by rw [Bd.returns] at h; cases h)
  refine ⟨_, _, pre0 _ ?_, hrun, hended, _, _, rfl, ?_, ⟨_, rfl⟩, hW, hsame.mono (by decide) (by decide)⟩
  · skip
    show SF p e below s₁ m 0 #[vr r0, vi 0] [] _
    refine st1 _ ?_
    refine XS.ifYes X1.here hx rfl (pc0 := 3) (pc' := 28) rfl (hb hby d21_3) rfl ((if0 _ _).trans (feq hc2).2) (by decide) (by decide) ?_
    refine XS.iloadN X1.here hx rfl (hb hby d21_28) rfl ?_
    refine XS.iconst X1.here hx rfl (hb hby d21_29) ?_
    refine XS.ishl X1.here hx rfl (hb hby d21_30) rfl ?_
    show SF p e below T1 m 31 #[vr r0, vi 0] [(.int 0)] _
    refine XS.istoreN X1.here hx rfl (hb hby d21_31) rfl (l' := #[vr r0, vi 0]) rfl ?_
    refine XS.aloadN X1.here hx rfl (hb hby d21_32) rfl rfl ?_
    refine XS.iloadN X1.here hx rfl (hb hby d21_33) rfl ?_
    refine XS.iinc X1.here hx rfl (hb hby d21_34) rfl (l' := #[vr r0, vi 1]) rfl ?_
    refine X1.baloadBytes hx (j := (0 : Int32)) (v := (.int (loB ch0))) (by rw [e1]; exact Ar3.1) (State.isArrayOf_alike hZ.alike Ar3.2.1) Ar3.2.2 hin3 hat3 (g := (mkF m 37 #[vr r0, vi 1] [(.int 0), (.ref r0)])) rfl rfl (hb hby d21_37) _ ?_
    show SF p e below T1 m 38 #[vr r0, vi 1] [(.int (loB ch0))] _
    refine XS.sipush X1.here hx rfl (hb hby d21_38) ?_
    refine XS.iand X1.here hx rfl (hb hby d21_41) rfl ?_
    refine st4 _ ?_
    refine XS.ishl X4.here hx rfl (hb hby d21_45) rfl ?_
    refine XS.aloadN X4.here hx rfl (hb hby d21_46) rfl rfl ?_
    show SF p e below T4 m 47 #[vr r0, vi 1] [(.ref r0), (.int (((loB ch0) &&& (255 : Int32)) <<< ((0 : Int32) &&& 31)))] _
    refine XS.iloadN X4.here hx rfl (hb hby d21_47) rfl ?_
    refine X4.baloadBytes hx (j := (1 : Int32)) (v := (.int (hiB ch0))) (by rw [e4]; exact Ar5.1) (State.isArrayOf_alike hZ.alike Ar5.2.1) Ar5.2.2 hin5 hat5 (g := (mkF m 48 #[vr r0, vi 1] [(.int 1), (.ref r0), (.int (((loB ch0) &&& (255 : Int32)) <<< ((0 : Int32) &&& 31)))])) rfl rfl (hb hby d21_48) _ ?_
    refine XS.sipush X4.here hx rfl (hb hby d21_49) ?_
    refine XS.iand X4.here hx rfl (hb hby d21_52) rfl ?_
    refine st6 _ ?_
    show SF p e below T6 m 56 #[vr r0, vi 1] [(.int 8), (.int ((hiB ch0) &&& (255 : Int32))), (.int (((loB ch0) &&& (255 : Int32)) <<< ((0 : Int32) &&& 31)))] _
    refine XS.ishl X6.here hx rfl (hb hby d21_56) rfl ?_
    refine XS.ior X6.here hx rfl (hb hby d21_57) rfl ?_
    refine XS.i2c X6.here hx rfl (hb hby d21_58) rfl ?_
    show SF p e below T6 m 59 #[vr r0, vi 1] [(.int (((((loB ch0) &&& (255 : Int32)) <<< ((0 : Int32) &&& 31)) ||| (((hiB ch0) &&& (255 : Int32)) <<< ((8 : Int32) &&& 31))).toUInt32.toUInt16.toUInt32.toInt32))] _
    exact retN X6 hx (t := .char) Bd.returns (by simp) (hb hby d21_59) hr
  · show Qgc_1_0 Z r0 k0 ch0 h0 n0 _ T6.heap _
    rw [e6]
    exact ⟨congrArg (fun z => some (Value.int z)) (own_u16 hbc), N0, rfl⟩
def Qcal_1 (Z : State) (r0 : Addr) (k0 : ClassId) (v0 : Int32) (v1 : Int32) (h0 : Heap) (n0 : Nat) (v : Option Value) (h : Heap) (L : List Loc) : Prop := v = some (.int 1) ∧ Fr n0 L ∧ h = h0
set_option maxRecDepth 65536 in
set_option maxHeartbeats 40000000 in
theorem rmcal_1 (l : Launch) (Z : State) (a0 : Array Value) (hw : ∀ d ∈ tables_1, d.before a0 Z = true) (ws : List Jvm.Cond) (r0 : Addr) (k0 : ClassId) (v0 : Int32) (v1 : Int32) (h0 : Heap) (n0 : Nat) (Z0 : n0 ≤ h0.size) (V0 : Arv Z h0 r0 k0 .byte (2 : Int32) [(.int v0), (.int v1)] (.int 0)) :
    MF l Z mN13 jdk_52_method_15_code 2 (some .byte) ws (rK 0 0 0 0) #[(.ref r0), (.int 1)] h0 (Qcal_1 Z r0 k0 v0 v1 h0 n0) := by
  refine MetFree.of_bodySF (plainFor_of_name pn_java_lang_StringUTF16) hisR ?_
  intro p e s m args below meth c s₁ Bd hml0 hP hK
  obtain ⟨rfl, hZ, hh⟩ := hP
  have hx := Bd.exec
  have hby := Bd.bytes
  have hml : c.maxLocals = 2 := hml0
  have hown : s.vm.findClass "java/lang/StringUTF16" = some m.cls := findClass_of_methodNamed Bd.named
  have hnm := (name_of_methodNamed Bd.named Bd.method).1
  have X0 : Stand p l e (rK 0 0 0 0) s m #[(.ref r0), (.int 1)] below meth c s₁ [] 0 0 := Stand.of_body Bd
  have e0 : s₁.heap = h0 := by rw [← hh, Bd.state]; rfl
  have N0 := Fr.nil n0
  have pre0 : ∀ t, SF p e below s₁ m 0 #[vr r0, vi 1] [] t → Steps p.tables e below (s₁.setTop (entryFrame m #[(.ref r0), (.int 1)] 2)) t := fun t k => castTop (ef_8 m r0 (1 : Int32)) k
  obtain ⟨cl1, Ar1, -, Sz1, Nn1, -, -⟩ := id V0
  obtain ⟨fs, hr, hrun, hended, hW, hsame⟩ := X0.leave (v := some (.int 1)) (fun h => by rw [Bd.returns] at h; cases h)
  refine ⟨_, _, pre0 _ ?_, hrun, hended, _, _, rfl, ?_, ⟨_, rfl⟩, hW, hsame.mono (by decide) (by decide)⟩
  · skip
    show SF p e below s₁ m 0 #[vr r0, vi 1] [] _
    refine XS.iloadN X0.here hx rfl (hb hby d8_0) rfl ?_
    refine XS.aloadN X0.here hx rfl (hb hby d8_1) rfl rfl ?_
    refine X0.arraylength hx (by rw [e0]; exact Ar1.1) (State.isArrayOf_alike hZ.alike Ar1.2.1) (g := (mkF m 2 #[vr r0, vi 1] [(.ref r0), (.int 1)])) rfl rfl (hb hby d8_2) _ ?_
    rw [len_of Sz1 Nn1]
    refine XS.isub X0.here hx rfl (hb hby d8_3) rfl ?_
    refine XS.bipush X0.here hx rfl (hb hby d8_4) ?_
    show SF p e below s₁ m 6 #[vr r0, vi 1] [(.int 31), (.int (-1 : Int32))] _
    refine XS.iushr X0.here hx rfl (hb hby d8_6) rfl ?_
    refine XS.i2b X0.here hx rfl (hb hby d8_7) rfl ?_
    show SF p e below s₁ m 8 #[vr r0, vi 1] [(.int 1)] _
    exact retN X0 hx (t := .byte) Bd.returns (by simp) (hb hby d8_8) hr
  · show Qcal_1 Z r0 k0 v0 v1 h0 n0 _ s₁.heap _
    rw [e0]
    exact ⟨rfl, N0, rfl⟩
def Qc5_1_0 (Z : State) (r0 : Addr) (r2 : Addr) (k0 : ClassId) (k2 : ClassId) (ch0 : Int32) (h0 : Heap) (n0 : Nat) (v : Option Value) (h : Heap) (L : List Loc) : Prop := v = some (.int 0) ∧ Fr n0 L ∧ Keep h0 h [r2]
set_option maxRecDepth 65536 in
set_option maxHeartbeats 40000000 in
theorem rmc5_1_0 (l : Launch) (Z : State) (a0 : Array Value) (hw : ∀ d ∈ tables_1, d.before a0 Z = true) (ws : List Jvm.Cond) (r0 : Addr) (r2 : Addr) (k0 : ClassId) (k2 : ClassId) (ch0 : Int32) (h0 : Heap) (n0 : Nat) (Z0 : n0 ≤ h0.size) (V0 : Arv Z h0 r0 k0 .char (1 : Int32) [(.int ch0)] (.int 0)) (V2 : Arv Z h0 r2 k2 .byte (1 : Int32) [(.int 0)] (.int 0)) (ne_r0_r2 : r0 ≠ r2) (g_r2 : n0 ≤ r2) (hw_0 : (255 : Int32) < ch0) :
    MF l Z mN14 jdk_52_method_21_code 7 (some .int) ws (rK 0 0 0 0) #[(.ref r0), (.int 0), (.ref r2), (.int 0), (.int 1)] h0 (Qc5_1_0 Z r0 r2 k0 k2 ch0 h0 n0) := by
  refine MetFree.of_bodySF (plainFor_of_name pn_java_lang_StringUTF16) hisR ?_
  intro p e s m args below meth c s₁ Bd hml0 hP hK
  obtain ⟨rfl, hZ, hh⟩ := hP
  have hx := Bd.exec
  have hby := Bd.bytes
  have hml : c.maxLocals = 7 := hml0
  have hown : s.vm.findClass "java/lang/StringUTF16" = some m.cls := findClass_of_methodNamed Bd.named
  have hnm := (name_of_methodNamed Bd.named Bd.method).1
  have X0 : Stand p l e (rK 0 0 0 0) s m #[(.ref r0), (.int 0), (.ref r2), (.int 0), (.int 1)] below meth c s₁ [] 0 0 := Stand.of_body Bd
  have e0 : s₁.heap = h0 := by rw [← hh, Bd.state]; rfl
  have N0 := Fr.nil n0
  have pre0 : ∀ t, SF p e below s₁ m 0 #[vr r0, vi 0, vr r2, vi 0, vi 1, .unset, .unset] [] t → Steps p.tables e below (s₁.setTop (entryFrame m #[(.ref r0), (.int 0), (.ref r2), (.int 0), (.int 1)] 7)) t := fun t k => castTop (ef_7 m r0 (0 : Int32) r2 (0 : Int32) (1 : Int32)) k
  have KR : Keep h0 h0 [r2] := Keep.refl _ _
  have hc1 : (0 : Int32) < (1 : Int32) := by decide
  obtain ⟨cl2, Ar2, -, Sz2, Nn2, Hh2, -⟩ := id V0
  have hin2 : ¬ ((0 : Int32) < 0 ∨ cl2.slots.size ≤ ((0 : Int32)).toNatClampNeg) := inb_of Sz2 ⟨by decide, by decide⟩
  have hat2 : cl2.slots[((0 : Int32)).toNatClampNeg]? = some (.int ch0) := Hh2 0 (by rw [Sz2]; decide)
  have hc3 : (255 : Int32) < ch0 := hw_0
  have ohc3 : 255 < ch0.toInt := own_lt.mp hc3
  obtain ⟨fs, hr, hrun, hended, hW, hsame⟩ := X0.leave (v := some (.int 0)) (fun h => by rw [Bd.returns] at h; cases h)
  refine ⟨_, _, pre0 _ ?_, hrun, hended, _, _, rfl, ?_, ⟨_, rfl⟩, hW, hsame.mono (by decide) (by decide)⟩
  · skip
    show SF p e below s₁ m 0 #[vr r0, vi 0, vr r2, vi 0, vi 1, .unset, .unset] [] _
    refine XS.iconst X0.here hx rfl (hb hby d7_0) ?_
    refine XS.istore X0.here hx rfl (hb hby d7_1) rfl (l' := #[vr r0, vi 0, vr r2, vi 0, vi 1, vi 0, .unset]) rfl ?_
    refine XS.iload X0.here hx rfl (hb hby d7_3) rfl ?_
    refine XS.iload X0.here hx rfl (hb hby d7_5) rfl ?_
    refine XS.icmpNo X0.here hx rfl (hb hby d7_7) rfl (tlt hc1).2.1 ?_
    show SF p e below s₁ m 10 #[vr r0, vi 0, vr r2, vi 0, vi 1, vi 0, .unset] [] _
    refine XS.aloadN X0.here hx rfl (hb hby d7_10) rfl rfl ?_
    refine XS.iloadN X0.here hx rfl (hb hby d7_11) rfl ?_
    refine X0.caload hx (j := (0 : Int32)) (v := (.int ch0)) (by rw [e0]; exact Ar2.1) (State.isArrayOf_alike hZ.alike Ar2.2.1) Ar2.2.2 hin2 hat2 (g := (mkF m 12 #[vr r0, vi 0, vr r2, vi 0, vi 1, vi 0, .unset] [(.int 0), (.ref r0)])) rfl rfl (hb hby d7_12) _ ?_
    refine XS.istore X0.here hx rfl (hb hby d7_13) rfl (l' := #[vr r0, vi 0, vr r2, vi 0, vi 1, vi 0, vi ch0]) rfl ?_
    refine XS.iload X0.here hx rfl (hb hby d7_15) rfl ?_
    show SF p e below s₁ m 17 #[vr r0, vi 0, vr r2, vi 0, vi 1, vi 0, vi ch0] [(.int ch0)] _
    refine XS.sipush X0.here hx rfl (hb hby d7_17) ?_
    refine XS.icmpNo X0.here hx rfl (hb hby d7_20) rfl (tlt hc3).2.2.2 ?_
    refine XS.iload X0.here hx rfl (hb hby d7_23) rfl ?_
    show SF p e below s₁ m 25 #[vr r0, vi 0, vr r2, vi 0, vi 1, vi 0, vi ch0] [(.int 0)] _
    exact retI X0 hx Bd.returns (hb hby d7_25) hr
  · show Qc5_1_0 Z r0 r2 k0 k2 ch0 h0 n0 _ s₁.heap _
    rw [e0]
    exact ⟨rfl, N0, KR⟩
def Qc3_1_0 (Z : State) (r0 : Addr) (k0 : ClassId) (ch0 : Int32) (h0 : Heap) (n0 : Nat) (v : Option Value) (h : Heap) (L : List Loc) : Prop := ∃ (b : Addr) (kb : ClassId), v = some (.ref b) ∧ Fr n0 L ∧ Keep h0 h [] ∧ h0.size ≤ b ∧ Arv Z h b kb .byte (2 : Int32) [(.int (loB ch0)), (.int (hiB ch0))] (.int 0)
set_option maxRecDepth 65536 in
set_option maxHeartbeats 40000000 in
theorem rmc3_1_0 (l : Launch) (Z : State) (a0 : Array Value) (hw : ∀ d ∈ tables_1, d.before a0 Z = true) (ws : List Jvm.Cond) (r0 : Addr) (k0 : ClassId) (ch0 : Int32) (h0 : Heap) (n0 : Nat) (Z0 : n0 ≤ h0.size) (V0 : Arv Z h0 r0 k0 .char (1 : Int32) [(.int ch0)] (.int 0)) (hb_0 : 0 ≤ ch0.toInt ∧ ch0.toInt ≤ 65535) (hw_0 : (255 : Int32) < ch0) (OA : sA Z h0) (OH : sH Z h0) (OL : sL Z h0) :
    MF l Z mN15 jdk_52_method_16_code 6 (some (.array .byte)) ws (rK 3 2 3 40) #[(.ref r0), (.int 0), (.int 1)] h0 (Qc3_1_0 Z r0 k0 ch0 h0 n0) := by
  refine MetFree.of_bodySF (plainFor_of_name pn_java_lang_StringUTF16) hisR ?_
  intro p e s m args below meth c s₁ Bd hml0 hP hK
  obtain ⟨rfl, hZ, hh⟩ := hP
  have hx := Bd.exec
  have hby := Bd.bytes
  have hml : c.maxLocals = 6 := hml0
  have hown : s.vm.findClass "java/lang/StringUTF16" = some m.cls := findClass_of_methodNamed Bd.named
  have hnm := (name_of_methodNamed Bd.named Bd.method).1
  have X0 : Stand p l e (rK 3 2 3 40) s m #[(.ref r0), (.int 0), (.int 1)] below meth c s₁ [] 0 0 := Stand.of_body Bd
  have e0 : s₁.heap = h0 := by rw [← hh, Bd.state]; rfl
  have N0 := Fr.nil n0
  have pre0 : ∀ t, SF p e below s₁ m 0 #[vr r0, vi 0, vi 1, .unset, .unset, .unset] [] t → Steps p.tables e below (s₁.setTop (entryFrame m #[(.ref r0), (.int 0), (.int 1)] 6)) t := fun t k => castTop (ef_6 m r0 (0 : Int32) (1 : Int32)) k
  have KR : Keep h0 h0 [] := Keep.refl _ _
  obtain ⟨T1, h1, k1, X1, e1, E1, A1, st1⟩ := newP X0 hx hZ (tw hw 15 rfl) e0 (g := (mkF m 1 #[vr r0, vi 0, vi 1, .unset, .unset, .unset] [(.int 1)])) rfl (hb hby d6_1) rfl (by decide) (cap := 1) (by decide) (by decide) (by decide) (by decide)
  obtain ⟨b1, g1⟩ : ∃ z, z = h0.size := ⟨_, rfl⟩
  rw [← g1] at A1 st1
  have g_b1 : n0 ≤ b1 := Nat.le_trans Z0 (Nat.le_of_eq g1.symm)
  have Z1 : n0 ≤ h1.size := Nat.le_trans Z0 E1.1
  have ne_r0_b1 : r0 ≠ b1 := Nat.ne_of_lt (Nat.lt_of_lt_of_le V0.lt (Nat.le_of_eq g1.symm))
  have K1 : Keep h0 h1 [] := KR.ext E1
  have sz_b1 : h0.size ≤ b1 := Nat.le_trans KR.1 (Nat.le_of_eq g1.symm)
  have c2 : Arv Z h1 r0 k0 .char (1 : Int32) [(.int ch0)] (.int 0) := V0.ext E1
  have V1 : Arv Z h1 b1 k1 .byte (1 : Int32) [(.int 0)] (.int 0) := (Arv.new A1 (by decide)).pad (pad_rep [] (.int 0) 1)
  obtain ⟨_, _, ⟨T3, L3, k3, n3⟩, -, X3, ⟨Lc3, hQ3, l3, y3, z3⟩, st3⟩ := Jvm.LawKit.callS X1 hx (y := mN14) hown (mvT hZ (tw hw 36 rfl)) (mvT hZ (tw hw 37 rfl)) (mvT hZ (tw hw 34 rfl)) (mvT hZ (tw hw 38 rfl)) (by decide) (backOf (W := 0) (rmc5_1_0 l Z a0 hw [] r0 b1 k0 k1 ch0 h1 n0 Z1 c2 V1 ne_r0_b1 g_b1 hw_0) hZ (tw hw 38 rfl) (tw hw 34 rfl) (by decide) (by decide)) (g := (mkF m 9 #[vr r0, vi 0, vi 1, vr b1, .unset, .unset] [(.int 1), (.int 0), (.ref b1), (.int 0), (.ref r0)])) rfl (by rw [hml]; rfl) (argsL := [(.ref r0), (.int 0), (.ref b1), (.int 0), (.int 1)]) (rest := []) (lenOf pd_5 rfl) rfl (by show 2 * 0 + _ ≤ _; exact Nat.le_of_eq rfl) (hb hby d6_9) (fun _ _ => ⟨rfl, e1, (by decide : 1 + 0 ≤ _), (by decide : 1 + 0 ≤ _)⟩)
  dsimp only [Pt.U, Pt.locs, Pt.cells, Pt.slots] at X3 l3 y3 z3 st3 hQ3
  subst l3 y3 z3
  obtain ⟨rfl, Nq3, Kq3⟩ := hQ3
  have N3 := Fr.app N0 Nq3
  have Z3 : n0 ≤ T3.heap.size := Nat.le_trans Z1 Kq3.1
  have K3 : Keep h0 T3.heap [] := K1.trans Kq3 (fun x hx => by cases List.mem_singleton.mp hx; exact (Or.inr sz_b1))
  have c4 : Arv Z T3.heap r0 k0 .char (1 : Int32) [(.int ch0)] (.int 0) := c2.keep Kq3 (fun q => ne_r0_b1 (List.mem_singleton.mp q))
  have hc5 : ¬ ((0 : Int32) = (1 : Int32)) := by decide
  obtain ⟨_, _, ⟨T6, L6, k6, n6⟩, -, X6, ⟨Lc6, hQ6, l6, y6, z6⟩, st6⟩ := Jvm.LawKit.callS X3 hx (y := mN11) hown (mvT hZ (tw hw 74 rfl)) (mvT hZ (tw hw 75 rfl)) (mvT hZ (tw hw 34 rfl)) (mvT hZ (tw hw 76 rfl)) (by decide) (backOf (W := 0) (rmtb_1 l Z a0 hw [] r0 k0 ch0 T3.heap n0 Z3 c4 (own_s0 OA K3) (own_s0 OH K3) (own_s0 OL K3)) hZ (tw hw 76 rfl) (tw hw 34 rfl) (by decide) (by decide)) (g := (mkF m 23 #[vr r0, vi 0, vi 1, vr b1, vi 0, .unset] [(.int 1), (.int 0), (.ref r0)])) rfl (by rw [hml]; rfl) (argsL := [(.ref r0), (.int 0), (.int 1)]) (rest := []) (lenOf pd_6 rfl) rfl (by show 2 * 0 + _ ≤ _; exact Nat.le_of_eq rfl) (hb hby d6_23) (fun _ _ => ⟨rfl, rfl, (by decide : 1 + 1 ≤ _), (by decide : 1 + 2 ≤ _)⟩)
  dsimp only [Pt.U, Pt.locs, Pt.cells, Pt.slots] at X6 l6 y6 z6 st6 hQ6
  subst l6 y6 z6
  obtain ⟨b6, kb6, rfl, Nq6, Kq6, sq6, Vq6⟩ := hQ6
  have N6 := Fr.app N3 Nq6
  have Z6 : n0 ≤ T6.heap.size := Nat.le_trans Z3 Kq6.1
  have ne_r0_b6 : r0 ≠ b6 := Nat.ne_of_lt (Nat.lt_of_lt_of_le c4.lt sq6)
  have g_b6 : n0 ≤ b6 := Nat.le_trans Z3 sq6
  have sz_b6 : h0.size ≤ b6 := Nat.le_trans K3.1 sq6
  have K6 : Keep h0 T6.heap [] := K3.trans Kq6 (fun x hx => by cases hx)
  have c7 : Arv Z T6.heap r0 k0 .char (1 : Int32) [(.int ch0)] (.int 0) := c4.keep Kq6 (by simp)
  obtain ⟨_, _, ⟨T8, L8, k8, n8⟩, -, X8, ⟨Lc8, hQ8, l8, y8, z8⟩, st8⟩ := Jvm.LawKit.callS X6 hx (y := mN12) hown (mvT hZ (tw hw 90 rfl)) (mvT hZ (tw hw 91 rfl)) (mvT hZ (tw hw 34 rfl)) (mvT hZ (tw hw 92 rfl)) (by decide) (backOf (W := 0) (rmgc_1_0 l Z a0 hw [] b6 kb6 ch0 T6.heap n0 Z6 Vq6 hb_0 (own_s0 OA K6) (own_s0 OH K6) (own_s0 OL K6)) hZ (tw hw 92 rfl) (tw hw 34 rfl) (by decide) (by decide)) (g := (mkF m 32 #[vr r0, vi 0, vi 1, vr b1, vi 0, vr b6] [(.int 0), (.ref b6)])) rfl (by rw [hml]; rfl) (argsL := [(.ref b6), (.int 0)]) (rest := []) (lenOf pd_7 rfl) rfl (by show 2 * 0 + _ ≤ _; exact Nat.le_of_eq rfl) (hb hby d6_32) (fun _ _ => ⟨rfl, rfl, (by decide : 2 + 0 ≤ _), (by decide : 3 + 0 ≤ _)⟩)
  dsimp only [Pt.U, Pt.locs, Pt.cells, Pt.slots] at X8 l8 y8 z8 st8 hQ8
  subst l8 y8 z8
  obtain ⟨rfl, Nq8, e8⟩ := hQ8
  have N8 := Fr.app N6 Nq8
  have hc9 : (255 : Int32) < ch0 := hw_0
  have ohc9 : 255 < ch0.toInt := own_lt.mp hc9
  obtain ⟨fs, hr, hrun, hended, hW, hsame⟩ := X8.leave (v := some (.ref b6)) (fun h => by rw [Bd.returns] at h; cases h)
  refine ⟨_, _, pre0 _ ?_, hrun, hended, _, _, rfl, ?_, ⟨_, rfl⟩, hW, hsame.mono (by decide) (by decide)⟩
  · skip
    show SF p e below s₁ m 0 #[vr r0, vi 0, vi 1, .unset, .unset, .unset] [] _
    refine XS.iloadN X0.here hx rfl (hb hby d6_0) rfl ?_
    refine st1 _ ?_
    refine XS.astoreN X1.here hx rfl (hb hby d6_3) rfl rfl (l' := #[vr r0, vi 0, vi 1, vr b1, .unset, .unset]) rfl ?_
    refine XS.aloadN X1.here hx rfl (hb hby d6_4) rfl rfl ?_
    refine XS.iloadN X1.here hx rfl (hb hby d6_5) rfl ?_
    show SF p e below T1 m 6 #[vr r0, vi 0, vi 1, vr b1, .unset, .unset] [(.int 0), (.ref r0)] _
    refine XS.aloadN X1.here hx rfl (hb hby d6_6) rfl rfl ?_
    refine XS.iconst X1.here hx rfl (hb hby d6_7) ?_
    refine XS.iloadN X1.here hx rfl (hb hby d6_8) rfl ?_
    refine st3 _ ?_
    refine XS.istore X3.here hx rfl (hb hby d6_12) rfl (l' := #[vr r0, vi 0, vi 1, vr b1, vi 0, .unset]) rfl ?_
    show SF p e below T3 m 14 #[vr r0, vi 0, vi 1, vr b1, vi 0, .unset] [] _
    refine XS.iload X3.here hx rfl (hb hby d6_14) rfl ?_
    refine XS.iloadN X3.here hx rfl (hb hby d6_16) rfl ?_
    refine XS.icmpNo X3.here hx rfl (hb hby d6_17) rfl (feq hc5).1 ?_
    refine XS.aloadN X3.here hx rfl (hb hby d6_20) rfl rfl ?_
    refine XS.iloadN X3.here hx rfl (hb hby d6_21) rfl ?_
    show SF p e below T3 m 22 #[vr r0, vi 0, vi 1, vr b1, vi 0, .unset] [(.int 0), (.ref r0)] _
    refine XS.iloadN X3.here hx rfl (hb hby d6_22) rfl ?_
    refine st6 _ ?_
    refine XS.astore X6.here hx rfl (hb hby d6_26) rfl rfl (l' := #[vr r0, vi 0, vi 1, vr b1, vi 0, vr b6]) rfl ?_
    refine XS.aload X6.here hx rfl (hb hby d6_28) rfl rfl ?_
    refine XS.iload X6.here hx rfl (hb hby d6_30) rfl ?_
    show SF p e below T6 m 32 #[vr r0, vi 0, vi 1, vr b1, vi 0, vr b6] [(.int 0), (.ref b6)] _
    refine st8 _ ?_
    refine XS.sipush X8.here hx rfl (hb hby d6_35) ?_
    refine XS.icmpYes X8.here hx rfl (pc0 := 38) (pc' := 54) rfl (hb hby d6_38) rfl (tlt hc9).2.2.1 (by decide) (by decide) ?_
    refine XS.aload X8.here hx rfl (hb hby d6_54) rfl rfl ?_
    show SF p e below T8 m 56 #[vr r0, vi 0, vi 1, vr b1, vi 0, vr b6] [(.ref b6)] _
    jvm_step X8.here [X8.here.top, hx, (hb hby d6_56), X8.method', Bd.returns, Value.isRef, FieldType.isReference]
    first | (intro acts; rw [hr _ acts rfl rfl rfl]) | rw [hr _ _ rfl rfl rfl]
    exact Steps.refl _
  · show Qc3_1_0 Z r0 k0 ch0 h0 n0 _ T8.heap _
    rw [e8]
    exact ⟨b6, kb6, rfl, N8, K6, sz_b6, Vq6⟩
def Qc3_1 (Z : State) (r0 : Addr) (k0 : ClassId) (ch0 : Int32) (h0 : Heap) (n0 : Nat) (v : Option Value) (h : Heap) (L : List Loc) : Prop := ∃ (b : Addr) (kb : ClassId), v = some (.ref b) ∧ Fr n0 L ∧ Keep h0 h [] ∧ h0.size ≤ b ∧ Arv Z h b kb .byte (2 : Int32) [(.int (loB ch0)), (.int (hiB ch0))] (.int 0)
theorem rmc3_1 (l : Launch) (Z : State) (a0 : Array Value) (hw : ∀ d ∈ tables_1, d.before a0 Z = true) (ws : List Jvm.Cond) (r0 : Addr) (k0 : ClassId) (ch0 : Int32) (h0 : Heap) (n0 : Nat) (Z0 : n0 ≤ h0.size) (V0 : Arv Z h0 r0 k0 .char (1 : Int32) [(.int ch0)] (.int 0)) (hb_0 : 0 ≤ ch0.toInt ∧ ch0.toInt ≤ 65535) (hW : ((255 : Int32) < ch0)) (OA : sA Z h0) (OH : sH Z h0) (OL : sL Z h0) :
    MF l Z mN15 jdk_52_method_16_code 6 (some (.array .byte)) ws (rK 3 2 3 40) #[(.ref r0), (.int 0), (.int 1)] h0 (Qc3_1 Z r0 k0 ch0 h0 n0) := by
  have hw_0 := hW
  · exact rmc3_1_0 l Z a0 hw ws r0 k0 ch0 h0 n0 Z0 V0 hb_0 hw_0 OA OH OL
def Qi4_1 (Z : State) (r0 : Addr) (r1 : Addr) (k1 : ClassId) (ch0 : Int32) (G1 : Int32) (G3 : Value) (h0 : Heap) (n0 : Nat) (v : Option Value) (h : Heap) (L : List Loc) : Prop := v = none ∧ Fr n0 L ∧ Keep h0 h [r0] ∧ OW Z h r0 (2 : Int32) [(.int (loB ch0)), (.int (hiB ch0))]
set_option maxRecDepth 65536 in
set_option maxHeartbeats 40000000 in
theorem rmi4_1 (l : Launch) (Z : State) (a0 : Array Value) (hw : ∀ d ∈ tables_1, d.before a0 Z = true) (ws : List Jvm.Cond) (r0 : Addr) (r1 : Addr) (k1 : ClassId) (ch0 : Int32) (G1 : Int32) (G3 : Value) (h0 : Heap) (n0 : Nat) (Z0 : n0 ≤ h0.size) (E_r0 : Exa Z h0 r0 "java/lang/String") (F_0 : Fld Z h0 r0 "java/lang/String" "value" "[B" .null) (F_1 : Fld Z h0 r0 "java/lang/String" "coder" "B" (.int 0)) (g_r0 : n0 ≤ r0) (V1 : Arv Z h0 r1 k1 .char (1 : Int32) [(.int ch0)] (.int 0)) (hb_0 : 0 ≤ ch0.toInt ∧ ch0.toInt ≤ 65535) (hW : ((255 : Int32) < ch0)) (O2 : sC Z h0 G1) (P5 : ¬ (G1 = (0 : Int32))) (O4 : sI Z h0 G3) (rG3 : G3.isRef = true) (OA : sA Z h0) (OH : sH Z h0) (OL : sL Z h0) :
    MF l Z mN6 jdk_42_method_149_code 6 none ws (rK 4 2 3 57) #[(.ref r0), (.ref r1), (.int 0), (.int 1), .null] h0 (Qi4_1 Z r0 r1 k1 ch0 G1 G3 h0 n0) := by
  refine MetFree.of_bodySF (plainFor_of_name pn_java_lang_String) hisR ?_
  intro p e s m args below meth c s₁ Bd hml0 hP hK
  obtain ⟨rfl, hZ, hh⟩ := hP
  have hx := Bd.exec
  have hby := Bd.bytes
  have hml : c.maxLocals = 6 := hml0
  have hown : s.vm.findClass "java/lang/String" = some m.cls := findClass_of_methodNamed Bd.named
  have hnm := (name_of_methodNamed Bd.named Bd.method).1
  have X0 : Stand p l e (rK 4 2 3 57) s m #[(.ref r0), (.ref r1), (.int 0), (.int 1), .null] below meth c s₁ [] 0 0 := Stand.of_body Bd
  have e0 : s₁.heap = h0 := by rw [← hh, Bd.state]; rfl
  have N0 := Fr.nil n0
  have pre0 : ∀ t, SF p e below s₁ m 0 #[vr r0, vr r1, vi 0, vi 1, .val .null, .unset] [] t → Steps p.tables e below (s₁.setTop (entryFrame m #[(.ref r0), (.ref r1), (.int 0), (.int 1), .null] 6)) t := fun t k => castTop (ef_2_vvvvn m r0 r1 (0 : Int32) (1 : Int32)) k
  have KR : Keep h0 h0 [r0] := Keep.refl _ _
  obtain ⟨T1, X1, e1, st1⟩ := initO X0 hx hZ hown (tw hw 11 rfl) (tw hw 12 rfl) (tw hw 13 rfl) e0 (g := (mkF m 1 #[vr r0, vr r1, vi 0, vi 1, .val .null, .unset] [(.ref r0)])) rfl (by rw [hml]; rfl) rfl (hb hby d2_1) (by decide) (W := 0) (by show 2 * 0 + _ ≤ _; exact Nat.le_of_eq rfl) (by decide)
  have hc2 : ¬ ((1 : Int32) = (0 : Int32)) := by decide
  obtain ⟨T3, X3, e3, st3⟩ := getS2 X1 hx hZ hown (host := "") (Or.inl (tw hw 31 rfl)) Via.refl e1 O2 (g := (mkF m 27 #[vr r0, vr r1, vi 0, vi 1, .val .null, .unset] [])) rfl (hb hby d2_27)
  have hc4 : ¬ (G1 = (0 : Int32)) := P5
  have ohc4 : ¬ (G1.toInt = 0) := own_neq.mp hc4
  obtain ⟨_, _, ⟨T5, L5, k5, n5⟩, -, X5, ⟨Lc5, hQ5, l5, y5, z5⟩, st5⟩ := Jvm.LawKit.callS X3 hx (y := mN15) hown (mvT hZ (tw hw 32 rfl)) (mvT hZ (tw hw 33 rfl)) (mvT hZ (tw hw 34 rfl)) (mvT hZ (tw hw 35 rfl)) (by decide) (backOf (W := 0) (rmc3_1 l Z a0 hw [] r1 k1 ch0 h0 n0 Z0 V1 hb_0 hW OA OH OL) hZ (tw hw 35 rfl) (tw hw 34 rfl) (by decide) (by decide)) (g := (mkF m 36 #[vr r0, vr r1, vi 0, vi 1, .val .null, .unset] [(.int 1), (.int 0), (.ref r1)])) rfl (by rw [hml]; rfl) (argsL := [(.ref r1), (.int 0), (.int 1)]) (rest := []) (lenOf pd_6 rfl) rfl (by show 2 * 0 + _ ≤ _; exact Nat.le_of_eq rfl) (hb hby d2_36) (fun _ _ => ⟨rfl, e3, (by decide : 0 + 2 ≤ _), (by decide : 0 + 3 ≤ _)⟩)
  dsimp only [Pt.U, Pt.locs, Pt.cells, Pt.slots] at X5 l5 y5 z5 st5 hQ5
  subst l5 y5 z5
  obtain ⟨b5, kb5, rfl, Nq5, Kq5, sq5, Vq5⟩ := hQ5
  have N5 := Fr.app N0 Nq5
  have Z5 : n0 ≤ T5.heap.size := Nat.le_trans Z0 Kq5.1
  have ne_r0_b5 : r0 ≠ b5 := Nat.ne_of_lt (Nat.lt_of_lt_of_le E_r0.lt sq5)
  have ne_r1_b5 : r1 ≠ b5 := Nat.ne_of_lt (Nat.lt_of_lt_of_le V1.lt sq5)
  have g_b5 : n0 ≤ b5 := Nat.le_trans Z0 sq5
  have sz_b5 : h0.size ≤ b5 := Nat.le_trans KR.1 sq5
  have K5 : Keep h0 T5.heap [r0] := KR.trans Kq5 (fun x hx => by cases hx)
  have c6 : sC Z T5.heap G1 := own_s0 O2 Kq5
  have c7 : sI Z T5.heap G3 := own_s0 O4 Kq5
  have c8 : sA Z T5.heap := own_s0 OA Kq5
  have c9 : sH Z T5.heap := own_s0 OH Kq5
  have c10 : sL Z T5.heap := own_s0 OL Kq5
  have c11 : Exa Z T5.heap r0 "java/lang/String" := E_r0.keep Kq5
  have c12 : Fld Z T5.heap r0 "java/lang/String" "value" "[B" .null := F_0.keep Kq5 (by simp)
  have c13 : Fld Z T5.heap r0 "java/lang/String" "coder" "B" (.int 0) := F_1.keep Kq5 (by simp)
  have c14 : Arv Z T5.heap r1 k1 .char (1 : Int32) [(.int ch0)] (.int 0) := V1.keep Kq5 (by simp)
  obtain ⟨_, _, ⟨T15, L15, k15, n15⟩, -, X15, ⟨Lc15, hQ15, l15, y15, z15⟩, st15⟩ := Jvm.LawKit.callS X5 hx (y := mN13) hown (mvT hZ (tw hw 39 rfl)) (mvT hZ (tw hw 40 rfl)) (mvT hZ (tw hw 34 rfl)) (mvT hZ (tw hw 41 rfl)) (by decide) (backOf (W := 1) (rmcal_1 l Z a0 hw [] b5 kb5 (loB ch0) (hiB ch0) T5.heap n0 Z5 Vq5) hZ (tw hw 41 rfl) (tw hw 34 rfl) (by decide) (by decide)) (g := (mkF m 45 #[vr r0, vr r1, vi 0, vi 1, .val .null, vr b5] [(.int 1), (.ref b5), (.ref r0)])) rfl (by rw [hml]; rfl) (argsL := [(.ref b5), (.int 1)]) (rest := [(.ref r0)]) (lenOf pd_8 rfl) rfl (by show 2 * 0 + _ ≤ _; exact Nat.le_of_eq rfl) (hb hby d2_45) (fun _ _ => ⟨rfl, rfl, (by decide : 2 + 0 ≤ _), (by decide : 3 + 0 ≤ _)⟩)
  dsimp only [Pt.U, Pt.locs, Pt.cells, Pt.slots] at X15 l15 y15 z15 st15 hQ15
  subst l15 y15 z15
  obtain ⟨rfl, Nq15, e15⟩ := hQ15
  have N15 := Fr.app N5 Nq15
  obtain ⟨T16, h16, X16, e16, W16, st16⟩ := putFN X15 hx hZ hown (tw hw 21 rfl) Via.refl e15 c13 c11 (Or.inr ⟨(tw hw 17 rfl), rfl, hnm⟩) (tw hw 2 rfl) (ty := .byte) (v' := (.int 1)) (by decide) rfl (by decide) (g := (mkF m 48 #[vr r0, vr r1, vi 0, vi 1, .val .null, vr b5] [(.int 1), (.ref r0)])) rfl rfl (hb hby d2_48)
  have Fw16 : Fld Z h16 r0 "java/lang/String" "coder" "B" (.int 1) := c13.same W16
  have N16 := Fr.snoc X16 N15 g_r0
  have Z16 : n0 ≤ h16.size := Nat.le_trans Z5 (Keep.of_wr W16).1
  have K16 : Keep h0 h16 [r0] := K5.wr W16 (Or.inl (List.mem_of_getElem? (i := 0) rfl))
  have c17 : sC Z h16 G1 := c6.wr W16
  have c18 : sI Z h16 G3 := c7.wr W16
  have c19 : sA Z h16 := c8.wr W16
  have c20 : sH Z h16 := c9.wr W16
  have c21 : sL Z h16 := c10.wr W16
  have c22 : Exa Z h16 r0 "java/lang/String" := c11.wr W16
  have c23 : Fld Z h16 r0 "java/lang/String" "value" "[B" .null := c12.other W16 (Or.inr (slot_ne (Or.inr (tw hw 16 rfl)) (Or.inr (tw hw 17 rfl)) (by decide) (t := (.array .byte)) (t' := .byte) (by decide) (by decide)))
  have c24 : Arv Z h16 b5 kb5 .byte (2 : Int32) [(.int (loB ch0)), (.int (hiB ch0))] (.int 0) := Vq5.other W16 (Ne.symm ne_r0_b5)
  obtain ⟨T25, h25, X25, e25, W25, st25⟩ := putF X16 hx hZ hown (host := "") (Or.inl (tw hw 20 rfl)) Via.refl e16 c23 c22 (Or.inr ⟨(tw hw 16 rfl), rfl, hnm⟩) (tw hw 2 rfl) (ty := (.array .byte)) (by decide) rfl rfl (g := (mkF m 54 #[vr r0, vr r1, vi 0, vi 1, .val .null, vr b5] [(.ref b5), (.ref r0)])) rfl rfl (hb hby d2_54)
  have Fw25 : Fld Z h25 r0 "java/lang/String" "value" "[B" (.ref b5) := c23.same W25
  have N25 := Fr.snoc X25 N16 g_r0
  have Z25 : n0 ≤ h25.size := Nat.le_trans Z16 (Keep.of_wr W25).1
  have K25 : Keep h0 h25 [r0] := K16.wr W25 (Or.inl (List.mem_of_getElem? (i := 0) rfl))
  have c26 : sC Z h25 G1 := c17.wr W25
  have c27 : sI Z h25 G3 := c18.wr W25
  have c28 : sA Z h25 := c19.wr W25
  have c29 : sH Z h25 := c20.wr W25
  have c30 : sL Z h25 := c21.wr W25
  have c31 : Exa Z h25 r0 "java/lang/String" := c22.wr W25
  have c32 : Fld Z h25 r0 "java/lang/String" "coder" "B" (.int 1) := Fw16.other W25 (Or.inr (slot_ne (Or.inr (tw hw 17 rfl)) (Or.inr (tw hw 16 rfl)) (by decide) (t := .byte) (t' := (.array .byte)) (by decide) (by decide)))
  have c33 : Arv Z h25 b5 kb5 .byte (2 : Int32) [(.int (loB ch0)), (.int (hiB ch0))] (.int 0) := c24.other W25 (Ne.symm ne_r0_b5)
  obtain ⟨fs, hr, hrun, hended, hW, hsame⟩ := X25.leave (v := none) (fun _ => rfl)
  refine ⟨_, _, pre0 _ ?_, hrun, hended, _, _, rfl, ?_, ⟨_, rfl⟩, hW, hsame.mono (by decide) (by decide)⟩
  · skip
    show SF p e below s₁ m 0 #[vr r0, vr r1, vi 0, vi 1, .val .null, .unset] [] _
    refine XS.aloadN X0.here hx rfl (hb hby d2_0) rfl rfl ?_
    refine st1 _ ?_
    refine XS.iloadN X1.here hx rfl (hb hby d2_4) rfl ?_
    refine XS.ifYes X1.here hx rfl (pc0 := 5) (pc' := 27) rfl (hb hby d2_5) rfl ((if0 _ _).trans (feq hc2).2) (by decide) (by decide) ?_
    refine st3 _ ?_
    show SF p e below T3 m 30 #[vr r0, vr r1, vi 0, vi 1, .val .null, .unset] [(.int G1)] _
    refine XS.ifNo X3.here hx rfl (hb hby d2_30) rfl ((if0 _ _).trans (feq hc4).1) ?_
    refine XS.aloadN X3.here hx rfl (hb hby d2_33) rfl rfl ?_
    refine XS.iloadN X3.here hx rfl (hb hby d2_34) rfl ?_
    refine XS.iloadN X3.here hx rfl (hb hby d2_35) rfl ?_
    refine st5 _ ?_
    show SF p e below T5 m 39 #[vr r0, vr r1, vi 0, vi 1, .val .null, .unset] [(.ref b5)] _
    refine XS.astore X5.here hx rfl (hb hby d2_39) rfl rfl (l' := #[vr r0, vr r1, vi 0, vi 1, .val .null, vr b5]) rfl ?_
    refine XS.aloadN X5.here hx rfl (hb hby d2_41) rfl rfl ?_
    refine XS.aload X5.here hx rfl (hb hby d2_42) rfl rfl ?_
    refine XS.iloadN X5.here hx rfl (hb hby d2_44) rfl ?_
    refine st15 _ ?_
    show SF p e below T15 m 48 #[vr r0, vr r1, vi 0, vi 1, .val .null, vr b5] [(.int 1), (.ref r0)] _
    refine st16 _ ?_
    refine XS.aloadN X16.here hx rfl (hb hby d2_51) rfl rfl ?_
    refine XS.aload X16.here hx rfl (hb hby d2_52) rfl rfl ?_
    refine st25 _ ?_
    show SF p e below T25 m 57 #[vr r0, vr r1, vi 0, vi 1, .val .null, vr b5] [] _
    exact X25.returnOut hx Bd.returns (hb hby d2_57) hr
  · show Qi4_1 Z r0 r1 k1 ch0 G1 G3 h0 n0 _ T25.heap _
    rw [e25]
    exact ⟨rfl, N25, K25, b5, kb5, c31, Fw25, c32, c33⟩
def Qi2_1 (Z : State) (r0 : Addr) (r1 : Addr) (k1 : ClassId) (ch0 : Int32) (G1 : Int32) (G3 : Value) (h0 : Heap) (n0 : Nat) (v : Option Value) (h : Heap) (L : List Loc) : Prop := v = none ∧ Fr n0 L ∧ Keep h0 h [r0] ∧ OW Z h r0 (2 : Int32) [(.int (loB ch0)), (.int (hiB ch0))]
set_option maxRecDepth 65536 in
set_option maxHeartbeats 40000000 in
theorem rmi2_1 (l : Launch) (Z : State) (a0 : Array Value) (hw : ∀ d ∈ tables_1, d.before a0 Z = true) (ws : List Jvm.Cond) (r0 : Addr) (r1 : Addr) (k1 : ClassId) (ch0 : Int32) (G1 : Int32) (G3 : Value) (h0 : Heap) (n0 : Nat) (Z0 : n0 ≤ h0.size) (E_r0 : Exa Z h0 r0 "java/lang/String") (F_0 : Fld Z h0 r0 "java/lang/String" "value" "[B" .null) (F_1 : Fld Z h0 r0 "java/lang/String" "coder" "B" (.int 0)) (g_r0 : n0 ≤ r0) (V1 : Arv Z h0 r1 k1 .char (1 : Int32) [(.int ch0)] (.int 0)) (hb_0 : 0 ≤ ch0.toInt ∧ ch0.toInt ≤ 65535) (hW : ((255 : Int32) < ch0)) (O2 : sC Z h0 G1) (P5 : ¬ (G1 = (0 : Int32))) (O4 : sI Z h0 G3) (rG3 : G3.isRef = true) (OA : sA Z h0) (OH : sH Z h0) (OL : sL Z h0) :
    MF l Z mN7 jdk_42_method_3_code 2 none ws (rK 5 2 3 74) #[(.ref r0), (.ref r1)] h0 (Qi2_1 Z r0 r1 k1 ch0 G1 G3 h0 n0) := by
  refine MetFree.of_bodySF (plainFor_of_name pn_java_lang_String) hisR ?_
  intro p e s m args below meth c s₁ Bd hml0 hP hK
  obtain ⟨rfl, hZ, hh⟩ := hP
  have hx := Bd.exec
  have hby := Bd.bytes
  have hml : c.maxLocals = 2 := hml0
  have hown : s.vm.findClass "java/lang/String" = some m.cls := findClass_of_methodNamed Bd.named
  have hnm := (name_of_methodNamed Bd.named Bd.method).1
  have X0 : Stand p l e (rK 5 2 3 74) s m #[(.ref r0), (.ref r1)] below meth c s₁ [] 0 0 := Stand.of_body Bd
  have e0 : s₁.heap = h0 := by rw [← hh, Bd.state]; rfl
  have N0 := Fr.nil n0
  have pre0 : ∀ t, SF p e below s₁ m 0 #[vr r0, vr r1] [] t → Steps p.tables e below (s₁.setTop (entryFrame m #[(.ref r0), (.ref r1)] 2)) t := fun t k => castTop (ef_1 m r0 r1) k
  have KR : Keep h0 h0 [r0] := Keep.refl _ _
  obtain ⟨cl1, Ar1, -, Sz1, Nn1, -, -⟩ := id V1
  obtain ⟨_, _, ⟨T2, L2, k2, n2⟩, -, X2, ⟨Lc2, hQ2, l2, y2, z2⟩, st2⟩ := X0.specialBack hx (y := mN6) rfl hown (mvT hZ (tw hw 7 rfl)) (mvT hZ (tw hw 8 rfl)) (mvT hZ (tw hw 10 rfl)) (by decide) (backOf (W := 0) (rmi4_1 l Z a0 hw [] r0 r1 k1 ch0 G1 G3 h0 n0 Z0 E_r0 F_0 F_1 g_r0 V1 hb_0 hW O2 P5 O4 rG3 OA OH OL) hZ (tw hw 10 rfl) (tw hw 3 rfl) (by decide) (by decide)) (g := (mkF m 6 #[vr r0, vr r1] [.null, (.int 1), (.int 0), (.ref r1), (.ref r0)])) rfl (by rw [hml]; rfl) (Steps.refl _) (a := r0) (argsL := [(.ref r1), (.int 0), (.int 1), .null]) (rest := []) (lenOf pd_1 rfl) rfl (by show 2 * 0 + _ ≤ _; exact Nat.le_of_eq rfl) (hb hby d1_6) (fun _ _ => ⟨rfl, e0, (by decide : 0 + 2 ≤ _), (by decide : 0 + 3 ≤ _)⟩)
  dsimp only [Pt.U, Pt.locs, Pt.cells, Pt.slots] at X2 l2 y2 z2 st2 hQ2
  subst l2 y2 z2
  obtain ⟨rfl, Nq2, Kq2, Sq2⟩ := hQ2
  have N2 := Fr.app N0 Nq2
  have Z2 : n0 ≤ T2.heap.size := Nat.le_trans Z0 Kq2.1
  have K2 : Keep h0 T2.heap [r0] := KR.trans Kq2 (fun x hx => by cases List.mem_singleton.mp hx; exact (Or.inl (List.mem_of_getElem? (i := 0) rfl)))
  have c3 : sC Z T2.heap G1 := own_sk O2 Kq2 E_r0
  have c4 : sI Z T2.heap G3 := own_sk O4 Kq2 E_r0
  have c5 : sA Z T2.heap := own_sk OA Kq2 E_r0
  have c6 : sH Z T2.heap := own_sk OH Kq2 E_r0
  have c7 : sL Z T2.heap := own_sk OL Kq2 E_r0
  obtain ⟨fs, hr, hrun, hended, hW, hsame⟩ := X2.leave (v := none) (fun _ => rfl)
  refine ⟨_, _, pre0 _ ?_, hrun, hended, _, _, rfl, ?_, ⟨_, rfl⟩, hW, hsame.mono (by decide) (by decide)⟩
  · skip
    show SF p e below s₁ m 0 #[vr r0, vr r1] [] _
    refine XS.aloadN X0.here hx rfl (hb hby d1_0) rfl rfl ?_
    refine XS.aloadN X0.here hx rfl (hb hby d1_1) rfl rfl ?_
    refine XS.iconst X0.here hx rfl (hb hby d1_2) ?_
    refine XS.aloadN X0.here hx rfl (hb hby d1_3) rfl rfl ?_
    refine X0.arraylength hx (by rw [e0]; exact Ar1.1) (State.isArrayOf_alike hZ.alike Ar1.2.1) (g := (mkF m 4 #[vr r0, vr r1] [(.ref r1), (.int 0), (.ref r1), (.ref r0)])) rfl rfl (hb hby d1_4) _ ?_
    rw [len_of Sz1 Nn1]
    show SF p e below s₁ m 5 #[vr r0, vr r1] [(.int 1), (.int 0), (.ref r1), (.ref r0)] _
    refine XS.aconstNull X0.here hx rfl (hb hby d1_5) ?_
    refine st2.trans ?_
    show SF p e below T2 m 9 #[vr r0, vr r1] [] _
    exact X2.returnOut hx Bd.returns (hb hby d1_9) hr
  · show Qi2_1 Z r0 r1 k1 ch0 G1 G3 h0 n0 _ T2.heap _
    exact ⟨rfl, N2, K2, Sq2⟩
def Qnbl_2 (Z : State)  (h0 : Heap) (n0 : Nat) (v : Option Value) (h : Heap) (L : List Loc) : Prop := v = some (.int 4) ∧ Fr n0 L ∧ h = h0
set_option maxRecDepth 65536 in
set_option maxHeartbeats 40000000 in
theorem rmnbl_2 (l : Launch) (Z : State) (a0 : Array Value) (hw : ∀ d ∈ tables_1, d.before a0 Z = true) (ws : List Jvm.Cond)  (h0 : Heap) (n0 : Nat) (Z0 : n0 ≤ h0.size) :
    MF l Z mN8 jdk_52_method_3_code 1 (some .int) ws (rK 0 0 0 0) #[(.int 2)] h0 (Qnbl_2 Z  h0 n0) := by
  refine MetFree.of_bodySF (plainFor_of_name pn_java_lang_StringUTF16) hisR ?_
  intro p e s m args below meth c s₁ Bd hml0 hP hK
  obtain ⟨rfl, hZ, hh⟩ := hP
  have hx := Bd.exec
  have hby := Bd.bytes
  have hml : c.maxLocals = 1 := hml0
  have hown : s.vm.findClass "java/lang/StringUTF16" = some m.cls := findClass_of_methodNamed Bd.named
  have hnm := (name_of_methodNamed Bd.named Bd.method).1
  have X0 : Stand p l e (rK 0 0 0 0) s m #[(.int 2)] below meth c s₁ [] 0 0 := Stand.of_body Bd
  have e0 : s₁.heap = h0 := by rw [← hh, Bd.state]; rfl
  have N0 := Fr.nil n0
  have pre0 : ∀ t, SF p e below s₁ m 0 #[vi 2] [] t → Steps p.tables e below (s₁.setTop (entryFrame m #[(.int 2)] 1)) t := fun t k => castTop (ef_19 m (2 : Int32)) k
  have hc1 : ¬ ((2 : Int32) < (0 : Int32)) := by decide
  have hc2 : (2 : Int32) < (1073741823 : Int32) := by decide
  obtain ⟨fs, hr, hrun, hended, hW, hsame⟩ := X0.leave (v := some (.int 4)) (fun h => by rw [Bd.returns] at h; cases h)
  refine ⟨_, _, pre0 _ ?_, hrun, hended, _, _, rfl, ?_, ⟨_, rfl⟩, hW, hsame.mono (by decide) (by decide)⟩
  · skip
    show SF p e below s₁ m 0 #[vi 2] [] _
    refine XS.iloadN X0.here hx rfl (hb hby d19_0) rfl ?_
    refine XS.ifYes X0.here hx rfl (pc0 := 1) (pc' := 12) rfl (hb hby d19_1) rfl ((if0 _ _).trans (flt hc1).2.1) (by decide) (by decide) ?_
    refine XS.iloadN X0.here hx rfl (hb hby d19_12) rfl ?_
    refine X0.ldcInt hx hown (mvT hZ (tw hw 83 rfl)) (g := (mkF m 13 #[vi 2] [(.int 2)])) rfl (hb hby d19_13) _ ?_
    refine XS.icmpYes X0.here hx rfl (pc0 := 15) (pc' := 55) rfl (hb hby d19_15) rfl (tlt hc2).1 (by decide) (by decide) ?_
    show SF p e below s₁ m 55 #[vi 2] [] _
    refine XS.iloadN X0.here hx rfl (hb hby d19_55) rfl ?_
    refine XS.iconst X0.here hx rfl (hb hby d19_56) ?_
    refine XS.ishl X0.here hx rfl (hb hby d19_57) rfl ?_
    show SF p e below s₁ m 58 #[vi 2] [(.int 4)] _
    exact retI X0 hx Bd.returns (hb hby d19_58) hr
  · show Qnbl_2 Z  h0 n0 _ s₁.heap _
    rw [e0]
    exact ⟨rfl, N0, rfl⟩
def Qnbf_2 (Z : State)  (h0 : Heap) (n0 : Nat) (v : Option Value) (h : Heap) (L : List Loc) : Prop := ∃ (b : Addr) (kb : ClassId), v = some (.ref b) ∧ Fr n0 L ∧ Keep h0 h [] ∧ h0.size ≤ b ∧ Arv Z h b kb .byte (4 : Int32) [(.int 0), (.int 0), (.int 0), (.int 0)] (.int 0)
set_option maxRecDepth 65536 in
set_option maxHeartbeats 40000000 in
theorem rmnbf_2 (l : Launch) (Z : State) (a0 : Array Value) (hw : ∀ d ∈ tables_1, d.before a0 Z = true) (ws : List Jvm.Cond)  (h0 : Heap) (n0 : Nat) (Z0 : n0 ≤ h0.size) :
    MF l Z mN9 jdk_52_method_2_code 1 (some (.array .byte)) ws (rK 1 1 4 12) #[(.int 2)] h0 (Qnbf_2 Z  h0 n0) := by
  refine MetFree.of_bodySF (plainFor_of_name pn_java_lang_StringUTF16) hisR ?_
  intro p e s m args below meth c s₁ Bd hml0 hP hK
  obtain ⟨rfl, hZ, hh⟩ := hP
  have hx := Bd.exec
  have hby := Bd.bytes
  have hml : c.maxLocals = 1 := hml0
  have hown : s.vm.findClass "java/lang/StringUTF16" = some m.cls := findClass_of_methodNamed Bd.named
  have hnm := (name_of_methodNamed Bd.named Bd.method).1
  have X0 : Stand p l e (rK 1 1 4 12) s m #[(.int 2)] below meth c s₁ [] 0 0 := Stand.of_body Bd
  have e0 : s₁.heap = h0 := by rw [← hh, Bd.state]; rfl
  have N0 := Fr.nil n0
  have pre0 : ∀ t, SF p e below s₁ m 0 #[vi 2] [] t → Steps p.tables e below (s₁.setTop (entryFrame m #[(.int 2)] 1)) t := fun t k => castTop (ef_18 m (2 : Int32)) k
  have KR : Keep h0 h0 [] := Keep.refl _ _
  obtain ⟨_, _, ⟨T1, L1, k1, n1⟩, -, X1, ⟨Lc1, hQ1, l1, y1, z1⟩, st1⟩ := Jvm.LawKit.callS X0 hx (y := mN8) hown (mvT hZ (tw hw 80 rfl)) (mvT hZ (tw hw 81 rfl)) (mvT hZ (tw hw 34 rfl)) (mvT hZ (tw hw 82 rfl)) (by decide) (backOf (W := 0) (rmnbl_2 l Z a0 hw []  h0 n0 Z0 ) hZ (tw hw 82 rfl) (tw hw 34 rfl) (by decide) (by decide)) (g := (mkF m 1 #[vi 2] [(.int 2)])) rfl (by rw [hml]; rfl) (argsL := [(.int 2)]) (rest := []) (lenOf pd_2 rfl) rfl (by show 2 * 0 + _ ≤ _; exact Nat.le_of_eq rfl) (hb hby d18_1) (fun _ _ => ⟨rfl, e0, (by decide : 0 + 0 ≤ _), (by decide : 0 + 0 ≤ _)⟩)
  dsimp only [Pt.U, Pt.locs, Pt.cells, Pt.slots] at X1 l1 y1 z1 st1 hQ1
  subst l1 y1 z1
  obtain ⟨rfl, Nq1, e1⟩ := hQ1
  have N1 := Fr.app N0 Nq1
  obtain ⟨T2, h2, k2, X2, e2, E2, A2, st2⟩ := newP X1 hx hZ (tw hw 15 rfl) e1 (g := (mkF m 4 #[vi 2] [(.int 4)])) rfl (hb hby d18_4) rfl (by decide) (cap := 4) (by decide) (by decide) (by decide) (by decide)
  obtain ⟨b2, g2⟩ : ∃ z, z = h0.size := ⟨_, rfl⟩
  rw [← g2] at A2 st2
  have g_b2 : n0 ≤ b2 := Nat.le_trans Z0 (Nat.le_of_eq g2.symm)
  have Z2 : n0 ≤ h2.size := Nat.le_trans Z0 E2.1
  have K2 : Keep h0 h2 [] := KR.ext E2
  have sz_b2 : h0.size ≤ b2 := Nat.le_trans KR.1 (Nat.le_of_eq g2.symm)
  have V2 : Arv Z h2 b2 k2 .byte (4 : Int32) [(.int 0), (.int 0), (.int 0), (.int 0)] (.int 0) := (Arv.new A2 (by decide)).pad (pad_rep [] (.int 0) 4)
  obtain ⟨fs, hr, hrun, hended, hW, hsame⟩ := X2.leave (v := some (.ref b2)) (fun h => by rw [Bd.returns] at h; cases h)
  refine ⟨_, _, pre0 _ ?_, hrun, hended, _, _, rfl, ?_, ⟨_, rfl⟩, hW, hsame.mono (by decide) (by decide)⟩
  · skip
    show SF p e below s₁ m 0 #[vi 2] [] _
    refine XS.iloadN X0.here hx rfl (hb hby d18_0) rfl ?_
    refine st1 _ ?_
    refine st2 _ ?_
    show SF p e below T2 m 6 #[vi 2] [(.ref b2)] _
    jvm_step X2.here [X2.here.top, hx, (hb hby d18_6), X2.method', Bd.returns, Value.isRef, FieldType.isReference]
    first | (intro acts; rw [hr _ acts rfl rfl rfl]) | rw [hr _ _ rfl rfl rfl]
    exact Steps.refl _
  · show Qnbf_2 Z  h0 n0 _ T2.heap _
    rw [e2]
    exact ⟨b2, k2, rfl, N1, K2, sz_b2, V2⟩
def Qpc_2_0 (Z : State) (r0 : Addr) (p2 : Int32) (k0 : ClassId) (v0 : Int32) (v1 : Int32) (v2 : Int32) (v3 : Int32) (h0 : Heap) (n0 : Nat) (v : Option Value) (h : Heap) (L : List Loc) : Prop := v = none ∧ Fr n0 L ∧ Keep h0 h [r0] ∧ Arv Z h r0 k0 .byte (4 : Int32) [(.int (loB p2)), (.int (hiB p2)), (.int v2), (.int v3)] (.int 0)
set_option maxRecDepth 65536 in
set_option maxHeartbeats 40000000 in
theorem rmpc_2_0 (l : Launch) (Z : State) (a0 : Array Value) (hw : ∀ d ∈ tables_1, d.before a0 Z = true) (ws : List Jvm.Cond) (r0 : Addr) (p2 : Int32) (k0 : ClassId) (v0 : Int32) (v1 : Int32) (v2 : Int32) (v3 : Int32) (h0 : Heap) (n0 : Nat) (Z0 : n0 ≤ h0.size) (V0 : Arv Z h0 r0 k0 .byte (4 : Int32) [(.int v0), (.int v1), (.int v2), (.int v3)] (.int 0)) (g_r0 : n0 ≤ r0) (OA : sA Z h0) (OH : sH Z h0) (OL : sL Z h0) :
    MF l Z mN10 jdk_52_method_4_code 3 none ws (rK 0 0 0 0) #[(.ref r0), (.int 0), (.int p2)] h0 (Qpc_2_0 Z r0 p2 k0 v0 v1 v2 v3 h0 n0) := by
  refine MetFree.of_bodySF (plainFor_of_name pn_java_lang_StringUTF16) hisR ?_
  intro p e s m args below meth c s₁ Bd hml0 hP hK
  obtain ⟨rfl, hZ, hh⟩ := hP
  have hx := Bd.exec
  have hby := Bd.bytes
  have hml : c.maxLocals = 3 := hml0
  have hown : s.vm.findClass "java/lang/StringUTF16" = some m.cls := findClass_of_methodNamed Bd.named
  have hnm := (name_of_methodNamed Bd.named Bd.method).1
  have X0 : Stand p l e (rK 0 0 0 0) s m #[(.ref r0), (.int 0), (.int p2)] below meth c s₁ [] 0 0 := Stand.of_body Bd
  have e0 : s₁.heap = h0 := by rw [← hh, Bd.state]; rfl
  have N0 := Fr.nil n0
  have pre0 : ∀ t, SF p e below s₁ m 0 #[vr r0, vi 0, vi p2] [] t → Steps p.tables e below (s₁.setTop (entryFrame m #[(.ref r0), (.int 0), (.int p2)] 3)) t := fun t k => castTop (ef_20 m r0 (0 : Int32) p2) k
  have KR : Keep h0 h0 [r0] := Keep.refl _ _
  obtain ⟨T1, X1, e1, st1⟩ := getS2 X0 hx hZ hown (host := "") (Or.inl (tw hw 87 rfl)) Via.refl e0 OA (g := (mkF m 0 #[vr r0, vi 0, vi p2] [])) rfl (hb hby d20_0)
  have hc2 : ¬ ((1 : Int32) = (0 : Int32)) := by decide
  obtain ⟨T3, X3, e3, st3⟩ := getS2 X1 hx hZ hown (host := "") (Or.inl (tw hw 88 rfl)) Via.refl e1 OH (g := (mkF m 38 #[vr r0, vi 1, vi p2] [(.int p2), (.int 0), (.ref r0)])) rfl (hb hby d20_38)
  obtain ⟨cl4, Ar4, q4, Sz4, Nn4, Hh4, Gg4⟩ := id V0
  have hin4 : ¬ ((0 : Int32) < 0 ∨ cl4.slots.size ≤ ((0 : Int32)).toNatClampNeg) := inb_of Sz4 ⟨by decide, by decide⟩
  obtain ⟨T5, h5, X5, e5, W5, st5⟩ := stB X3 hx hZ e3 Ar4 (j := (0 : Int32)) hin4 (g := (mkF m 43 #[vr r0, vi 1, vi p2] [(.int ((p2 >>> ((0 : Int32) &&& 31)).toInt8.toInt32)), (.int 0), (.ref r0)])) rfl rfl (hb hby d20_43)
  have V5 : Arv Z h5 r0 k0 .byte (4 : Int32) [(.int (nar .byte ((p2 >>> ((0 : Int32) &&& 31)).toInt8.toInt32))), (.int v1), (.int v2), (.int v3)] (.int 0) := Arv.set Ar4 q4 Sz4 Nn4 Hh4 Gg4 (fits_nar_byte _) W5 0 rfl (Nat.le_of_ble_eq_true rfl)
  have N5 := Fr.snoc X5 N0 g_r0
  have Z5 : n0 ≤ h5.size := Nat.le_trans Z0 (Keep.of_wr W5).1
  have K5 : Keep h0 h5 [r0] := KR.wr W5 (Or.inl (List.mem_of_getElem? (i := 0) rfl))
  have c6 : sA Z h5 := OA.wr W5
  have c7 : sH Z h5 := OH.wr W5
  have c8 : sL Z h5 := OL.wr W5
  obtain ⟨T9, X9, e9, st9⟩ := getS2 X5 hx hZ hown (host := "") (Or.inl (tw hw 89 rfl)) Via.refl e5 c8 (g := (mkF m 47 #[vr r0, vi 1, vi p2] [(.int p2), (.int 1), (.ref r0)])) rfl (hb hby d20_47)
  obtain ⟨cl10, Ar10, q10, Sz10, Nn10, Hh10, Gg10⟩ := id V5
  have hin10 : ¬ ((1 : Int32) < 0 ∨ cl10.slots.size ≤ ((1 : Int32)).toNatClampNeg) := inb_of Sz10 ⟨by decide, by decide⟩
  obtain ⟨T11, h11, X11, e11, W11, st11⟩ := stB X9 hx hZ e9 Ar10 (j := (1 : Int32)) hin10 (g := (mkF m 52 #[vr r0, vi 1, vi p2] [(.int ((p2 >>> ((8 : Int32) &&& 31)).toInt8.toInt32)), (.int 1), (.ref r0)])) rfl rfl (hb hby d20_52)
  have V11 : Arv Z h11 r0 k0 .byte (4 : Int32) [(.int (nar .byte ((p2 >>> ((0 : Int32) &&& 31)).toInt8.toInt32))), (.int (nar .byte ((p2 >>> ((8 : Int32) &&& 31)).toInt8.toInt32))), (.int v2), (.int v3)] (.int 0) := Arv.set Ar10 q10 Sz10 Nn10 Hh10 Gg10 (fits_nar_byte _) W11 1 rfl (Nat.le_of_ble_eq_true rfl)
  have N11 := Fr.snoc X11 N5 g_r0
  have Z11 : n0 ≤ h11.size := Nat.le_trans Z5 (Keep.of_wr W11).1
  have K11 : Keep h0 h11 [r0] := K5.wr W11 (Or.inl (List.mem_of_getElem? (i := 0) rfl))
  have c12 : sA Z h11 := c6.wr W11
  have c13 : sH Z h11 := c7.wr W11
  have c14 : sL Z h11 := c8.wr W11
  obtain ⟨fs, hr, hrun, hended, hW, hsame⟩ := X11.leave (v := none) (fun _ => rfl)
  refine ⟨_, _, pre0 _ ?_, hrun, hended, _, _, rfl, ?_, ⟨_, rfl⟩, hW, hsame.mono (by decide) (by decide)⟩
  · skip
    show SF p e below s₁ m 0 #[vr r0, vi 0, vi p2] [] _
    refine st1 _ ?_
    refine XS.ifYes X1.here hx rfl (pc0 := 3) (pc' := 28) rfl (hb hby d20_3) rfl ((if0 _ _).trans (feq hc2).2) (by decide) (by decide) ?_
    refine XS.iloadN X1.here hx rfl (hb hby d20_28) rfl ?_
    refine XS.iconst X1.here hx rfl (hb hby d20_29) ?_
    refine XS.ishl X1.here hx rfl (hb hby d20_30) rfl ?_
    show SF p e below T1 m 31 #[vr r0, vi 0, vi p2] [(.int 0)] _
    refine XS.istoreN X1.here hx rfl (hb hby d20_31) rfl (l' := #[vr r0, vi 0, vi p2]) rfl ?_
    refine XS.aloadN X1.here hx rfl (hb hby d20_32) rfl rfl ?_
    refine XS.iloadN X1.here hx rfl (hb hby d20_33) rfl ?_
    refine XS.iinc X1.here hx rfl (hb hby d20_34) rfl (l' := #[vr r0, vi 1, vi p2]) rfl ?_
    refine XS.iloadN X1.here hx rfl (hb hby d20_37) rfl ?_
    show SF p e below T1 m 38 #[vr r0, vi 1, vi p2] [(.int p2), (.int 0), (.ref r0)] _
    refine st3 _ ?_
    refine XS.ishr X3.here hx rfl (hb hby d20_41) rfl ?_
    refine XS.i2b X3.here hx rfl (hb hby d20_42) rfl ?_
    refine st5 _ ?_
    refine XS.aloadN X5.here hx rfl (hb hby d20_44) rfl rfl ?_
    show SF p e below T5 m 45 #[vr r0, vi 1, vi p2] [(.ref r0)] _
    refine XS.iloadN X5.here hx rfl (hb hby d20_45) rfl ?_
    refine XS.iloadN X5.here hx rfl (hb hby d20_46) rfl ?_
    refine st9 _ ?_
    refine XS.ishr X9.here hx rfl (hb hby d20_50) rfl ?_
    refine XS.i2b X9.here hx rfl (hb hby d20_51) rfl ?_
    show SF p e below T9 m 52 #[vr r0, vi 1, vi p2] [(.int ((p2 >>> ((8 : Int32) &&& 31)).toInt8.toInt32)), (.int 1), (.ref r0)] _
    refine st11 _ ?_
    show SF p e below T11 m 53 #[vr r0, vi 1, vi p2] [] _
    exact X11.returnOut hx Bd.returns (hb hby d20_53) hr
  · show Qpc_2_0 Z r0 p2 k0 v0 v1 v2 v3 h0 n0 _ T11.heap _
    rw [e11]
    exact ⟨rfl, N11, K11, V11⟩
def Qpc_2_1 (Z : State) (r0 : Addr) (p2 : Int32) (k0 : ClassId) (v0 : Int32) (v1 : Int32) (v2 : Int32) (v3 : Int32) (h0 : Heap) (n0 : Nat) (v : Option Value) (h : Heap) (L : List Loc) : Prop := v = none ∧ Fr n0 L ∧ Keep h0 h [r0] ∧ Arv Z h r0 k0 .byte (4 : Int32) [(.int v0), (.int v1), (.int (loB p2)), (.int (hiB p2))] (.int 0)
set_option maxRecDepth 65536 in
set_option maxHeartbeats 40000000 in
theorem rmpc_2_1 (l : Launch) (Z : State) (a0 : Array Value) (hw : ∀ d ∈ tables_1, d.before a0 Z = true) (ws : List Jvm.Cond) (r0 : Addr) (p2 : Int32) (k0 : ClassId) (v0 : Int32) (v1 : Int32) (v2 : Int32) (v3 : Int32) (h0 : Heap) (n0 : Nat) (Z0 : n0 ≤ h0.size) (V0 : Arv Z h0 r0 k0 .byte (4 : Int32) [(.int v0), (.int v1), (.int v2), (.int v3)] (.int 0)) (g_r0 : n0 ≤ r0) (OA : sA Z h0) (OH : sH Z h0) (OL : sL Z h0) :
    MF l Z mN10 jdk_52_method_4_code 3 none ws (rK 0 0 0 0) #[(.ref r0), (.int 1), (.int p2)] h0 (Qpc_2_1 Z r0 p2 k0 v0 v1 v2 v3 h0 n0) := by
  refine MetFree.of_bodySF (plainFor_of_name pn_java_lang_StringUTF16) hisR ?_
  intro p e s m args below meth c s₁ Bd hml0 hP hK
  obtain ⟨rfl, hZ, hh⟩ := hP
  have hx := Bd.exec
  have hby := Bd.bytes
  have hml : c.maxLocals = 3 := hml0
  have hown : s.vm.findClass "java/lang/StringUTF16" = some m.cls := findClass_of_methodNamed Bd.named
  have hnm := (name_of_methodNamed Bd.named Bd.method).1
  have X0 : Stand p l e (rK 0 0 0 0) s m #[(.ref r0), (.int 1), (.int p2)] below meth c s₁ [] 0 0 := Stand.of_body Bd
  have e0 : s₁.heap = h0 := by rw [← hh, Bd.state]; rfl
  have N0 := Fr.nil n0
  have pre0 : ∀ t, SF p e below s₁ m 0 #[vr r0, vi 1, vi p2] [] t → Steps p.tables e below (s₁.setTop (entryFrame m #[(.ref r0), (.int 1), (.int p2)] 3)) t := fun t k => castTop (ef_20 m r0 (1 : Int32) p2) k
  have KR : Keep h0 h0 [r0] := Keep.refl _ _
  obtain ⟨T1, X1, e1, st1⟩ := getS2 X0 hx hZ hown (host := "") (Or.inl (tw hw 87 rfl)) Via.refl e0 OA (g := (mkF m 0 #[vr r0, vi 1, vi p2] [])) rfl (hb hby d20_0)
  have hc2 : ¬ ((1 : Int32) = (0 : Int32)) := by decide
  obtain ⟨T3, X3, e3, st3⟩ := getS2 X1 hx hZ hown (host := "") (Or.inl (tw hw 88 rfl)) Via.refl e1 OH (g := (mkF m 38 #[vr r0, vi 3, vi p2] [(.int p2), (.int 2), (.ref r0)])) rfl (hb hby d20_38)
  obtain ⟨cl4, Ar4, q4, Sz4, Nn4, Hh4, Gg4⟩ := id V0
  have hin4 : ¬ ((2 : Int32) < 0 ∨ cl4.slots.size ≤ ((2 : Int32)).toNatClampNeg) := inb_of Sz4 ⟨by decide, by decide⟩
  obtain ⟨T5, h5, X5, e5, W5, st5⟩ := stB X3 hx hZ e3 Ar4 (j := (2 : Int32)) hin4 (g := (mkF m 43 #[vr r0, vi 3, vi p2] [(.int ((p2 >>> ((0 : Int32) &&& 31)).toInt8.toInt32)), (.int 2), (.ref r0)])) rfl rfl (hb hby d20_43)
  have V5 : Arv Z h5 r0 k0 .byte (4 : Int32) [(.int v0), (.int v1), (.int (nar .byte ((p2 >>> ((0 : Int32) &&& 31)).toInt8.toInt32))), (.int v3)] (.int 0) := Arv.set Ar4 q4 Sz4 Nn4 Hh4 Gg4 (fits_nar_byte _) W5 2 rfl (Nat.le_of_ble_eq_true rfl)
  have N5 := Fr.snoc X5 N0 g_r0
  have Z5 : n0 ≤ h5.size := Nat.le_trans Z0 (Keep.of_wr W5).1
  have K5 : Keep h0 h5 [r0] := KR.wr W5 (Or.inl (List.mem_of_getElem? (i := 0) rfl))
  have c6 : sA Z h5 := OA.wr W5
  have c7 : sH Z h5 := OH.wr W5
  have c8 : sL Z h5 := OL.wr W5
  obtain ⟨T9, X9, e9, st9⟩ := getS2 X5 hx hZ hown (host := "") (Or.inl (tw hw 89 rfl)) Via.refl e5 c8 (g := (mkF m 47 #[vr r0, vi 3, vi p2] [(.int p2), (.int 3), (.ref r0)])) rfl (hb hby d20_47)
  obtain ⟨cl10, Ar10, q10, Sz10, Nn10, Hh10, Gg10⟩ := id V5
  have hin10 : ¬ ((3 : Int32) < 0 ∨ cl10.slots.size ≤ ((3 : Int32)).toNatClampNeg) := inb_of Sz10 ⟨by decide, by decide⟩
  obtain ⟨T11, h11, X11, e11, W11, st11⟩ := stB X9 hx hZ e9 Ar10 (j := (3 : Int32)) hin10 (g := (mkF m 52 #[vr r0, vi 3, vi p2] [(.int ((p2 >>> ((8 : Int32) &&& 31)).toInt8.toInt32)), (.int 3), (.ref r0)])) rfl rfl (hb hby d20_52)
  have V11 : Arv Z h11 r0 k0 .byte (4 : Int32) [(.int v0), (.int v1), (.int (nar .byte ((p2 >>> ((0 : Int32) &&& 31)).toInt8.toInt32))), (.int (nar .byte ((p2 >>> ((8 : Int32) &&& 31)).toInt8.toInt32)))] (.int 0) := Arv.set Ar10 q10 Sz10 Nn10 Hh10 Gg10 (fits_nar_byte _) W11 3 rfl (Nat.le_of_ble_eq_true rfl)
  have N11 := Fr.snoc X11 N5 g_r0
  have Z11 : n0 ≤ h11.size := Nat.le_trans Z5 (Keep.of_wr W11).1
  have K11 : Keep h0 h11 [r0] := K5.wr W11 (Or.inl (List.mem_of_getElem? (i := 0) rfl))
  have c12 : sA Z h11 := c6.wr W11
  have c13 : sH Z h11 := c7.wr W11
  have c14 : sL Z h11 := c8.wr W11
  obtain ⟨fs, hr, hrun, hended, hW, hsame⟩ := X11.leave (v := none) (fun _ => rfl)
  refine ⟨_, _, pre0 _ ?_, hrun, hended, _, _, rfl, ?_, ⟨_, rfl⟩, hW, hsame.mono (by decide) (by decide)⟩
  · skip
    show SF p e below s₁ m 0 #[vr r0, vi 1, vi p2] [] _
    refine st1 _ ?_
    refine XS.ifYes X1.here hx rfl (pc0 := 3) (pc' := 28) rfl (hb hby d20_3) rfl ((if0 _ _).trans (feq hc2).2) (by decide) (by decide) ?_
    refine XS.iloadN X1.here hx rfl (hb hby d20_28) rfl ?_
    refine XS.iconst X1.here hx rfl (hb hby d20_29) ?_
    refine XS.ishl X1.here hx rfl (hb hby d20_30) rfl ?_
    show SF p e below T1 m 31 #[vr r0, vi 1, vi p2] [(.int 2)] _
    refine XS.istoreN X1.here hx rfl (hb hby d20_31) rfl (l' := #[vr r0, vi 2, vi p2]) rfl ?_
    refine XS.aloadN X1.here hx rfl (hb hby d20_32) rfl rfl ?_
    refine XS.iloadN X1.here hx rfl (hb hby d20_33) rfl ?_
    refine XS.iinc X1.here hx rfl (hb hby d20_34) rfl (l' := #[vr r0, vi 3, vi p2]) rfl ?_
    refine XS.iloadN X1.here hx rfl (hb hby d20_37) rfl ?_
    show SF p e below T1 m 38 #[vr r0, vi 3, vi p2] [(.int p2), (.int 2), (.ref r0)] _
    refine st3 _ ?_
    refine XS.ishr X3.here hx rfl (hb hby d20_41) rfl ?_
    refine XS.i2b X3.here hx rfl (hb hby d20_42) rfl ?_
    refine st5 _ ?_
    refine XS.aloadN X5.here hx rfl (hb hby d20_44) rfl rfl ?_
    show SF p e below T5 m 45 #[vr r0, vi 3, vi p2] [(.ref r0)] _
    refine XS.iloadN X5.here hx rfl (hb hby d20_45) rfl ?_
    refine XS.iloadN X5.here hx rfl (hb hby d20_46) rfl ?_
    refine st9 _ ?_
    refine XS.ishr X9.here hx rfl (hb hby d20_50) rfl ?_
    refine XS.i2b X9.here hx rfl (hb hby d20_51) rfl ?_
    show SF p e below T9 m 52 #[vr r0, vi 3, vi p2] [(.int ((p2 >>> ((8 : Int32) &&& 31)).toInt8.toInt32)), (.int 3), (.ref r0)] _
    refine st11 _ ?_
    show SF p e below T11 m 53 #[vr r0, vi 3, vi p2] [] _
    exact X11.returnOut hx Bd.returns (hb hby d20_53) hr
  · show Qpc_2_1 Z r0 p2 k0 v0 v1 v2 v3 h0 n0 _ T11.heap _
    rw [e11]
    exact ⟨rfl, N11, K11, V11⟩
def Qtb_2 (Z : State) (r0 : Addr) (k0 : ClassId) (ch0 : Int32) (ch1 : Int32) (h0 : Heap) (n0 : Nat) (v : Option Value) (h : Heap) (L : List Loc) : Prop := ∃ (b : Addr) (kb : ClassId), v = some (.ref b) ∧ Fr n0 L ∧ Keep h0 h [] ∧ h0.size ≤ b ∧ Arv Z h b kb .byte (4 : Int32) [(.int (loB ch0)), (.int (hiB ch0)), (.int (loB ch1)), (.int (hiB ch1))] (.int 0)
set_option maxRecDepth 65536 in
set_option maxHeartbeats 40000000 in
theorem rmtb_2 (l : Launch) (Z : State) (a0 : Array Value) (hw : ∀ d ∈ tables_1, d.before a0 Z = true) (ws : List Jvm.Cond) (r0 : Addr) (k0 : ClassId) (ch0 : Int32) (ch1 : Int32) (h0 : Heap) (n0 : Nat) (Z0 : n0 ≤ h0.size) (V0 : Arv Z h0 r0 k0 .char (2 : Int32) [(.int ch0), (.int ch1)] (.int 0)) (OA : sA Z h0) (OH : sH Z h0) (OL : sL Z h0) :
    MF l Z mN11 jdk_52_method_14_code 5 (some (.array .byte)) ws (rK 2 1 4 24) #[(.ref r0), (.int 0), (.int 2)] h0 (Qtb_2 Z r0 k0 ch0 ch1 h0 n0) := by
  refine MetFree.of_bodySF (plainFor_of_name pn_java_lang_StringUTF16) hisR ?_
  intro p e s m args below meth c s₁ Bd hml0 hP hK
  obtain ⟨rfl, hZ, hh⟩ := hP
  have hx := Bd.exec
  have hby := Bd.bytes
  have hml : c.maxLocals = 5 := hml0
  have hown : s.vm.findClass "java/lang/StringUTF16" = some m.cls := findClass_of_methodNamed Bd.named
  have hnm := (name_of_methodNamed Bd.named Bd.method).1
  have X0 : Stand p l e (rK 2 1 4 24) s m #[(.ref r0), (.int 0), (.int 2)] below meth c s₁ [] 0 0 := Stand.of_body Bd
  have e0 : s₁.heap = h0 := by rw [← hh, Bd.state]; rfl
  have N0 := Fr.nil n0
  have pre0 : ∀ t, SF p e below s₁ m 0 #[vr r0, vi 0, vi 2, .unset, .unset] [] t → Steps p.tables e below (s₁.setTop (entryFrame m #[(.ref r0), (.int 0), (.int 2)] 5)) t := fun t k => castTop (ef_17 m r0 (0 : Int32) (2 : Int32)) k
  have KR : Keep h0 h0 [] := Keep.refl _ _
  obtain ⟨_, _, ⟨T1, L1, k1, n1⟩, -, X1, ⟨Lc1, hQ1, l1, y1, z1⟩, st1⟩ := Jvm.LawKit.callS X0 hx (y := mN9) hown (mvT hZ (tw hw 77 rfl)) (mvT hZ (tw hw 78 rfl)) (mvT hZ (tw hw 34 rfl)) (mvT hZ (tw hw 79 rfl)) (by decide) (backOf (W := 0) (rmnbf_2 l Z a0 hw []  h0 n0 Z0 ) hZ (tw hw 79 rfl) (tw hw 34 rfl) (by decide) (by decide)) (g := (mkF m 1 #[vr r0, vi 0, vi 2, .unset, .unset] [(.int 2)])) rfl (by rw [hml]; rfl) (argsL := [(.int 2)]) (rest := []) (lenOf pd_3 rfl) rfl (by show 2 * 0 + _ ≤ _; exact Nat.le_of_eq rfl) (hb hby d17_1) (fun _ _ => ⟨rfl, e0, (by decide : 0 + 1 ≤ _), (by decide : 0 + 4 ≤ _)⟩)
  dsimp only [Pt.U, Pt.locs, Pt.cells, Pt.slots] at X1 l1 y1 z1 st1 hQ1
  subst l1 y1 z1
  obtain ⟨b1, kb1, rfl, Nq1, Kq1, sq1, Vq1⟩ := hQ1
  have N1 := Fr.app N0 Nq1
  have Z1 : n0 ≤ T1.heap.size := Nat.le_trans Z0 Kq1.1
  have ne_r0_b1 : r0 ≠ b1 := Nat.ne_of_lt (Nat.lt_of_lt_of_le V0.lt sq1)
  have g_b1 : n0 ≤ b1 := Nat.le_trans Z0 sq1
  have sz_b1 : h0.size ≤ b1 := Nat.le_trans KR.1 sq1
  have K1 : Keep h0 T1.heap [] := KR.trans Kq1 (fun x hx => by cases hx)
  have c2 : Arv Z T1.heap r0 k0 .char (2 : Int32) [(.int ch0), (.int ch1)] (.int 0) := V0.keep Kq1 (by simp)
  have hc3 : (0 : Int32) < (2 : Int32) := by decide
  obtain ⟨cl4, Ar4, -, Sz4, Nn4, Hh4, -⟩ := id c2
  have hin4 : ¬ ((0 : Int32) < 0 ∨ cl4.slots.size ≤ ((0 : Int32)).toNatClampNeg) := inb_of Sz4 ⟨by decide, by decide⟩
  have hat4 : cl4.slots[((0 : Int32)).toNatClampNeg]? = some (.int ch0) := Hh4 0 (by rw [Sz4]; decide)
  obtain ⟨_, _, ⟨T5, L5, k5, n5⟩, -, X5, ⟨Lc5, hQ5, l5, y5, z5⟩, st5⟩ := Jvm.LawKit.callS X1 hx (y := mN10) hown (mvT hZ (tw hw 84 rfl)) (mvT hZ (tw hw 85 rfl)) (mvT hZ (tw hw 34 rfl)) (mvT hZ (tw hw 86 rfl)) (by decide) (backOf (W := 0) (rmpc_2_0 l Z a0 hw [] b1 ch0 kb1 (0 : Int32) (0 : Int32) (0 : Int32) (0 : Int32) T1.heap n0 Z1 Vq1 g_b1 (own_s0 OA K1) (own_s0 OH K1) (own_s0 OL K1)) hZ (tw hw 86 rfl) (tw hw 34 rfl) (by decide) (by decide)) (g := (mkF m 20 #[vr r0, vi 0, vi 2, vr b1, vi 0] [(.int ch0), (.int 0), (.ref b1)])) rfl (by rw [hml]; rfl) (argsL := [(.ref b1), (.int 0), (.int ch0)]) (rest := []) (lenOf pd_4 rfl) rfl (by show 2 * 0 + _ ≤ _; exact Nat.le_of_eq rfl) (hb hby d17_20) (fun _ _ => ⟨rfl, rfl, (by decide : 1 + 0 ≤ _), (by decide : 4 + 0 ≤ _)⟩)
  dsimp only [Pt.U, Pt.locs, Pt.cells, Pt.slots] at X5 l5 y5 z5 st5 hQ5
  subst l5 y5 z5
  obtain ⟨rfl, Nq5, Kq5, Vq5⟩ := hQ5
  have N5 := Fr.app N1 Nq5
  have Z5 : n0 ≤ T5.heap.size := Nat.le_trans Z1 Kq5.1
  have K5 : Keep h0 T5.heap [] := K1.trans Kq5 (fun x hx => by cases List.mem_singleton.mp hx; exact (Or.inr sz_b1))
  have c6 : Arv Z T5.heap r0 k0 .char (2 : Int32) [(.int ch0), (.int ch1)] (.int 0) := c2.keep Kq5 (fun q => ne_r0_b1 (List.mem_singleton.mp q))
  have hc7 : (1 : Int32) < (2 : Int32) := by decide
  obtain ⟨cl8, Ar8, -, Sz8, Nn8, Hh8, -⟩ := id c6
  have hin8 : ¬ ((1 : Int32) < 0 ∨ cl8.slots.size ≤ ((1 : Int32)).toNatClampNeg) := inb_of Sz8 ⟨by decide, by decide⟩
  have hat8 : cl8.slots[((1 : Int32)).toNatClampNeg]? = some (.int ch1) := Hh8 1 (by rw [Sz8]; decide)
  obtain ⟨_, _, ⟨T9, L9, k9, n9⟩, -, X9, ⟨Lc9, hQ9, l9, y9, z9⟩, st9⟩ := Jvm.LawKit.callS X5 hx (y := mN10) hown (mvT hZ (tw hw 84 rfl)) (mvT hZ (tw hw 85 rfl)) (mvT hZ (tw hw 34 rfl)) (mvT hZ (tw hw 86 rfl)) (by decide) (backOf (W := 0) (rmpc_2_1 l Z a0 hw [] b1 ch1 kb1 (loB ch0) (hiB ch0) (0 : Int32) (0 : Int32) T5.heap n0 Z5 Vq5 g_b1 (own_s0 OA K5) (own_s0 OH K5) (own_s0 OL K5)) hZ (tw hw 86 rfl) (tw hw 34 rfl) (by decide) (by decide)) (g := (mkF m 20 #[vr r0, vi 1, vi 2, vr b1, vi 1] [(.int ch1), (.int 1), (.ref b1)])) rfl (by rw [hml]; rfl) (argsL := [(.ref b1), (.int 1), (.int ch1)]) (rest := []) (lenOf pd_4 rfl) rfl (by show 2 * 0 + _ ≤ _; exact Nat.le_of_eq rfl) (hb hby d17_20) (fun _ _ => ⟨rfl, rfl, (by decide : 1 + 0 ≤ _), (by decide : 4 + 0 ≤ _)⟩)
  dsimp only [Pt.U, Pt.locs, Pt.cells, Pt.slots] at X9 l9 y9 z9 st9 hQ9
  subst l9 y9 z9
  obtain ⟨rfl, Nq9, Kq9, Vq9⟩ := hQ9
  have N9 := Fr.app N5 Nq9
  have Z9 : n0 ≤ T9.heap.size := Nat.le_trans Z5 Kq9.1
  have K9 : Keep h0 T9.heap [] := K5.trans Kq9 (fun x hx => by cases List.mem_singleton.mp hx; exact (Or.inr sz_b1))
  have c10 : Arv Z T9.heap r0 k0 .char (2 : Int32) [(.int ch0), (.int ch1)] (.int 0) := c6.keep Kq9 (fun q => ne_r0_b1 (List.mem_singleton.mp q))
  have hc11 : ¬ ((2 : Int32) < (2 : Int32)) := by decide
  obtain ⟨fs, hr, hrun, hended, hW, hsame⟩ := X9.leave (v := some (.ref b1)) (fun h => by rw [Bd.returns] at h; cases h)
  refine ⟨_, _, pre0 _ ?_, hrun, hended, _, _, rfl, ?_, ⟨_, rfl⟩, hW, hsame.mono (by decide) (by decide)⟩
  · skip
    show SF p e below s₁ m 0 #[vr r0, vi 0, vi 2, .unset, .unset] [] _
    refine XS.iloadN X0.here hx rfl (hb hby d17_0) rfl ?_
    refine st1 _ ?_
    refine XS.astoreN X1.here hx rfl (hb hby d17_4) rfl rfl (l' := #[vr r0, vi 0, vi 2, vr b1, .unset]) rfl ?_
    refine XS.iconst X1.here hx rfl (hb hby d17_5) ?_
    refine XS.istore X1.here hx rfl (hb hby d17_6) rfl (l' := #[vr r0, vi 0, vi 2, vr b1, vi 0]) rfl ?_
    show SF p e below T1 m 8 #[vr r0, vi 0, vi 2, vr b1, vi 0] [] _
    refine XS.iload X1.here hx rfl (hb hby d17_8) rfl ?_
    refine XS.iloadN X1.here hx rfl (hb hby d17_10) rfl ?_
    refine XS.icmpNo X1.here hx rfl (hb hby d17_11) rfl (tlt hc3).2.1 ?_
    refine XS.aloadN X1.here hx rfl (hb hby d17_14) rfl rfl ?_
    refine XS.iload X1.here hx rfl (hb hby d17_15) rfl ?_
    show SF p e below T1 m 17 #[vr r0, vi 0, vi 2, vr b1, vi 0] [(.int 0), (.ref b1)] _
    refine XS.aloadN X1.here hx rfl (hb hby d17_17) rfl rfl ?_
    refine XS.iloadN X1.here hx rfl (hb hby d17_18) rfl ?_
    refine X1.caload hx (j := (0 : Int32)) (v := (.int ch0)) (by exact Ar4.1) (State.isArrayOf_alike hZ.alike Ar4.2.1) Ar4.2.2 hin4 hat4 (g := (mkF m 19 #[vr r0, vi 0, vi 2, vr b1, vi 0] [(.int 0), (.ref r0), (.int 0), (.ref b1)])) rfl rfl (hb hby d17_19) _ ?_
    refine st5 _ ?_
    refine XS.iinc X5.here hx rfl (hb hby d17_23) rfl (l' := #[vr r0, vi 1, vi 2, vr b1, vi 0]) rfl ?_
    show SF p e below T5 m 26 #[vr r0, vi 1, vi 2, vr b1, vi 0] [] _
    refine XS.iinc X5.here hx rfl (hb hby d17_26) rfl (l' := #[vr r0, vi 1, vi 2, vr b1, vi 1]) rfl ?_
    refine XS.goto X5.here hx rfl (pc0 := 29) (pc' := 8) rfl (hb hby d17_29) (by decide) (by decide) ?_
    refine XS.iload X5.here hx rfl (hb hby d17_8) rfl ?_
    refine XS.iloadN X5.here hx rfl (hb hby d17_10) rfl ?_
    refine XS.icmpNo X5.here hx rfl (hb hby d17_11) rfl (tlt hc7).2.1 ?_
    show SF p e below T5 m 14 #[vr r0, vi 1, vi 2, vr b1, vi 1] [] _
    refine XS.aloadN X5.here hx rfl (hb hby d17_14) rfl rfl ?_
    refine XS.iload X5.here hx rfl (hb hby d17_15) rfl ?_
    refine XS.aloadN X5.here hx rfl (hb hby d17_17) rfl rfl ?_
    refine XS.iloadN X5.here hx rfl (hb hby d17_18) rfl ?_
    refine X5.caload hx (j := (1 : Int32)) (v := (.int ch1)) (by exact Ar8.1) (State.isArrayOf_alike hZ.alike Ar8.2.1) Ar8.2.2 hin8 hat8 (g := (mkF m 19 #[vr r0, vi 1, vi 2, vr b1, vi 1] [(.int 1), (.ref r0), (.int 1), (.ref b1)])) rfl rfl (hb hby d17_19) _ ?_
    show SF p e below T5 m 20 #[vr r0, vi 1, vi 2, vr b1, vi 1] [(.int ch1), (.int 1), (.ref b1)] _
    refine st9 _ ?_
    refine XS.iinc X9.here hx rfl (hb hby d17_23) rfl (l' := #[vr r0, vi 2, vi 2, vr b1, vi 1]) rfl ?_
    refine XS.iinc X9.here hx rfl (hb hby d17_26) rfl (l' := #[vr r0, vi 2, vi 2, vr b1, vi 2]) rfl ?_
    refine XS.goto X9.here hx rfl (pc0 := 29) (pc' := 8) rfl (hb hby d17_29) (by decide) (by decide) ?_
    refine XS.iload X9.here hx rfl (hb hby d17_8) rfl ?_
    show SF p e below T9 m 10 #[vr r0, vi 2, vi 2, vr b1, vi 2] [(.int 2)] _
    refine XS.iloadN X9.here hx rfl (hb hby d17_10) rfl ?_
    refine XS.icmpYes X9.here hx rfl (pc0 := 11) (pc' := 32) rfl (hb hby d17_11) rfl (flt hc11).2.1 (by decide) (by decide) ?_
    refine XS.aloadN X9.here hx rfl (hb hby d17_32) rfl rfl ?_
    show SF p e below T9 m 33 #[vr r0, vi 2, vi 2, vr b1, vi 2] [(.ref b1)] _
    jvm_step X9.here [X9.here.top, hx, (hb hby d17_33), X9.method', Bd.returns, Value.isRef, FieldType.isReference]
    first | (intro acts; rw [hr _ acts rfl rfl rfl]) | rw [hr _ _ rfl rfl rfl]
    exact Steps.refl _
  · show Qtb_2 Z r0 k0 ch0 ch1 h0 n0 _ T9.heap _
    exact ⟨b1, kb1, rfl, N9, K9, sz_b1, Vq9⟩
def Qgc_2_0 (Z : State) (r0 : Addr) (k0 : ClassId) (ch0 : Int32) (ch1 : Int32) (h0 : Heap) (n0 : Nat) (v : Option Value) (h : Heap) (L : List Loc) : Prop := v = some (.int ch0) ∧ Fr n0 L ∧ h = h0
set_option maxRecDepth 65536 in
set_option maxHeartbeats 40000000 in
theorem rmgc_2_0 (l : Launch) (Z : State) (a0 : Array Value) (hw : ∀ d ∈ tables_1, d.before a0 Z = true) (ws : List Jvm.Cond) (r0 : Addr) (k0 : ClassId) (ch0 : Int32) (ch1 : Int32) (h0 : Heap) (n0 : Nat) (Z0 : n0 ≤ h0.size) (V0 : Arv Z h0 r0 k0 .byte (4 : Int32) [(.int (loB ch0)), (.int (hiB ch0)), (.int (loB ch1)), (.int (hiB ch1))] (.int 0)) (hbc : 0 ≤ ch0.toInt ∧ ch0.toInt ≤ 65535) (OA : sA Z h0) (OH : sH Z h0) (OL : sL Z h0) :
    MF l Z mN12 jdk_52_method_5_code 2 (some .char) ws (rK 0 0 0 0) #[(.ref r0), (.int 0)] h0 (Qgc_2_0 Z r0 k0 ch0 ch1 h0 n0) := by
  refine MetFree.of_bodySF (plainFor_of_name pn_java_lang_StringUTF16) hisR ?_
  intro p e s m args below meth c s₁ Bd hml0 hP hK
  obtain ⟨rfl, hZ, hh⟩ := hP
  have hx := Bd.exec
  have hby := Bd.bytes
  have hml : c.maxLocals = 2 := hml0
  have hown : s.vm.findClass "java/lang/StringUTF16" = some m.cls := findClass_of_methodNamed Bd.named
  have hnm := (name_of_methodNamed Bd.named Bd.method).1
  have X0 : Stand p l e (rK 0 0 0 0) s m #[(.ref r0), (.int 0)] below meth c s₁ [] 0 0 := Stand.of_body Bd
  have e0 : s₁.heap = h0 := by rw [← hh, Bd.state]; rfl
  have N0 := Fr.nil n0
  have pre0 : ∀ t, SF p e below s₁ m 0 #[vr r0, vi 0] [] t → Steps p.tables e below (s₁.setTop (entryFrame m #[(.ref r0), (.int 0)] 2)) t := fun t k => castTop (ef_21 m r0 (0 : Int32)) k
  obtain ⟨T1, X1, e1, st1⟩ := getS2 X0 hx hZ hown (host := "") (Or.inl (tw hw 87 rfl)) Via.refl e0 OA (g := (mkF m 0 #[vr r0, vi 0] [])) rfl (hb hby d21_0)
  have hc2 : ¬ ((1 : Int32) = (0 : Int32)) := by decide
  obtain ⟨cl3, Ar3, -, Sz3, Nn3, Hh3, -⟩ := id V0
  have hin3 : ¬ ((0 : Int32) < 0 ∨ cl3.slots.size ≤ ((0 : Int32)).toNatClampNeg) := inb_of Sz3 ⟨by decide, by decide⟩
  have hat3 : cl3.slots[((0 : Int32)).toNatClampNeg]? = some (.int (loB ch0)) := Hh3 0 (by rw [Sz3]; decide)
  obtain ⟨T4, X4, e4, st4⟩ := getS2 X1 hx hZ hown (host := "") (Or.inl (tw hw 88 rfl)) Via.refl e1 OH (g := (mkF m 42 #[vr r0, vi 1] [(.int ((loB ch0) &&& (255 : Int32)))])) rfl (hb hby d21_42)
  obtain ⟨cl5, Ar5, -, Sz5, Nn5, Hh5, -⟩ := id V0
  have hin5 : ¬ ((1 : Int32) < 0 ∨ cl5.slots.size ≤ ((1 : Int32)).toNatClampNeg) := inb_of Sz5 ⟨by decide, by decide⟩
  have hat5 : cl5.slots[((1 : Int32)).toNatClampNeg]? = some (.int (hiB ch0)) := Hh5 1 (by rw [Sz5]; decide)
  obtain ⟨T6, X6, e6, st6⟩ := getS2 X4 hx hZ hown (host := "") (Or.inl (tw hw 89 rfl)) Via.refl e4 OL (g := (mkF m 53 #[vr r0, vi 1] [(.int ((hiB ch0) &&& (255 : Int32))), (.int (((loB ch0) &&& (255 : Int32)) <<< ((0 : Int32) &&& 31)))])) rfl (hb hby d21_53)
  obtain ⟨fs, hr, hrun, hended, hW, hsame⟩ := X6.leave (v := some (.int (nar .char (((((loB ch0) &&& (255 : Int32)) <<< ((0 : Int32) &&& 31)) ||| (((hiB ch0) &&& (255 : Int32)) <<< ((8 : Int32) &&& 31))).toUInt32.toUInt16.toUInt32.toInt32)))) (fun h => by rw [Bd.returns] at h; cases h)
  refine ⟨_, _, pre0 _ ?_, hrun, hended, _, _, rfl, ?_, ⟨_, rfl⟩, hW, hsame.mono (by decide) (by decide)⟩
  · skip
    show SF p e below s₁ m 0 #[vr r0, vi 0] [] _
    refine st1 _ ?_
    refine XS.ifYes X1.here hx rfl (pc0 := 3) (pc' := 28) rfl (hb hby d21_3) rfl ((if0 _ _).trans (feq hc2).2) (by decide) (by decide) ?_
    refine XS.iloadN X1.here hx rfl (hb hby d21_28) rfl ?_
    refine XS.iconst X1.here hx rfl (hb hby d21_29) ?_
    refine XS.ishl X1.here hx rfl (hb hby d21_30) rfl ?_
    show SF p e below T1 m 31 #[vr r0, vi 0] [(.int 0)] _
    refine XS.istoreN X1.here hx rfl (hb hby d21_31) rfl (l' := #[vr r0, vi 0]) rfl ?_
    refine XS.aloadN X1.here hx rfl (hb hby d21_32) rfl rfl ?_
    refine XS.iloadN X1.here hx rfl (hb hby d21_33) rfl ?_
    refine XS.iinc X1.here hx rfl (hb hby d21_34) rfl (l' := #[vr r0, vi 1]) rfl ?_
    refine X1.baloadBytes hx (j := (0 : Int32)) (v := (.int (loB ch0))) (by rw [e1]; exact Ar3.1) (State.isArrayOf_alike hZ.alike Ar3.2.1) Ar3.2.2 hin3 hat3 (g := (mkF m 37 #[vr r0, vi 1] [(.int 0), (.ref r0)])) rfl rfl (hb hby d21_37) _ ?_
    show SF p e below T1 m 38 #[vr r0, vi 1] [(.int (loB ch0))] _
    refine XS.sipush X1.here hx rfl (hb hby d21_38) ?_
    refine XS.iand X1.here hx rfl (hb hby d21_41) rfl ?_
    refine st4 _ ?_
    refine XS.ishl X4.here hx rfl (hb hby d21_45) rfl ?_
    refine XS.aloadN X4.here hx rfl (hb hby d21_46) rfl rfl ?_
    show SF p e below T4 m 47 #[vr r0, vi 1] [(.ref r0), (.int (((loB ch0) &&& (255 : Int32)) <<< ((0 : Int32) &&& 31)))] _
    refine XS.iloadN X4.here hx rfl (hb hby d21_47) rfl ?_
    refine X4.baloadBytes hx (j := (1 : Int32)) (v := (.int (hiB ch0))) (by rw [e4]; exact Ar5.1) (State.isArrayOf_alike hZ.alike Ar5.2.1) Ar5.2.2 hin5 hat5 (g := (mkF m 48 #[vr r0, vi 1] [(.int 1), (.ref r0), (.int (((loB ch0) &&& (255 : Int32)) <<< ((0 : Int32) &&& 31)))])) rfl rfl (hb hby d21_48) _ ?_
    refine XS.sipush X4.here hx rfl (hb hby d21_49) ?_
    refine XS.iand X4.here hx rfl (hb hby d21_52) rfl ?_
    refine st6 _ ?_
    show SF p e below T6 m 56 #[vr r0, vi 1] [(.int 8), (.int ((hiB ch0) &&& (255 : Int32))), (.int (((loB ch0) &&& (255 : Int32)) <<< ((0 : Int32) &&& 31)))] _
    refine XS.ishl X6.here hx rfl (hb hby d21_56) rfl ?_
    refine XS.ior X6.here hx rfl (hb hby d21_57) rfl ?_
    refine XS.i2c X6.here hx rfl (hb hby d21_58) rfl ?_
    show SF p e below T6 m 59 #[vr r0, vi 1] [(.int (((((loB ch0) &&& (255 : Int32)) <<< ((0 : Int32) &&& 31)) ||| (((hiB ch0) &&& (255 : Int32)) <<< ((8 : Int32) &&& 31))).toUInt32.toUInt16.toUInt32.toInt32))] _
    exact retN X6 hx (t := .char) Bd.returns (by simp) (hb hby d21_59) hr
  · show Qgc_2_0 Z r0 k0 ch0 ch1 h0 n0 _ T6.heap _
    rw [e6]
    exact ⟨congrArg (fun z => some (Value.int z)) (own_u16 hbc), N0, rfl⟩
def Qgc_2_1 (Z : State) (r0 : Addr) (k0 : ClassId) (ch0 : Int32) (ch1 : Int32) (h0 : Heap) (n0 : Nat) (v : Option Value) (h : Heap) (L : List Loc) : Prop := v = some (.int ch1) ∧ Fr n0 L ∧ h = h0
set_option maxRecDepth 65536 in
set_option maxHeartbeats 40000000 in
theorem rmgc_2_1 (l : Launch) (Z : State) (a0 : Array Value) (hw : ∀ d ∈ tables_1, d.before a0 Z = true) (ws : List Jvm.Cond) (r0 : Addr) (k0 : ClassId) (ch0 : Int32) (ch1 : Int32) (h0 : Heap) (n0 : Nat) (Z0 : n0 ≤ h0.size) (V0 : Arv Z h0 r0 k0 .byte (4 : Int32) [(.int (loB ch0)), (.int (hiB ch0)), (.int (loB ch1)), (.int (hiB ch1))] (.int 0)) (hbc : 0 ≤ ch1.toInt ∧ ch1.toInt ≤ 65535) (OA : sA Z h0) (OH : sH Z h0) (OL : sL Z h0) :
    MF l Z mN12 jdk_52_method_5_code 2 (some .char) ws (rK 0 0 0 0) #[(.ref r0), (.int 1)] h0 (Qgc_2_1 Z r0 k0 ch0 ch1 h0 n0) := by
  refine MetFree.of_bodySF (plainFor_of_name pn_java_lang_StringUTF16) hisR ?_
  intro p e s m args below meth c s₁ Bd hml0 hP hK
  obtain ⟨rfl, hZ, hh⟩ := hP
  have hx := Bd.exec
  have hby := Bd.bytes
  have hml : c.maxLocals = 2 := hml0
  have hown : s.vm.findClass "java/lang/StringUTF16" = some m.cls := findClass_of_methodNamed Bd.named
  have hnm := (name_of_methodNamed Bd.named Bd.method).1
  have X0 : Stand p l e (rK 0 0 0 0) s m #[(.ref r0), (.int 1)] below meth c s₁ [] 0 0 := Stand.of_body Bd
  have e0 : s₁.heap = h0 := by rw [← hh, Bd.state]; rfl
  have N0 := Fr.nil n0
  have pre0 : ∀ t, SF p e below s₁ m 0 #[vr r0, vi 1] [] t → Steps p.tables e below (s₁.setTop (entryFrame m #[(.ref r0), (.int 1)] 2)) t := fun t k => castTop (ef_21 m r0 (1 : Int32)) k
  obtain ⟨T1, X1, e1, st1⟩ := getS2 X0 hx hZ hown (host := "") (Or.inl (tw hw 87 rfl)) Via.refl e0 OA (g := (mkF m 0 #[vr r0, vi 1] [])) rfl (hb hby d21_0)
  have hc2 : ¬ ((1 : Int32) = (0 : Int32)) := by decide
  obtain ⟨cl3, Ar3, -, Sz3, Nn3, Hh3, -⟩ := id V0
  have hin3 : ¬ ((2 : Int32) < 0 ∨ cl3.slots.size ≤ ((2 : Int32)).toNatClampNeg) := inb_of Sz3 ⟨by decide, by decide⟩
  have hat3 : cl3.slots[((2 : Int32)).toNatClampNeg]? = some (.int (loB ch1)) := Hh3 2 (by rw [Sz3]; decide)
  obtain ⟨T4, X4, e4, st4⟩ := getS2 X1 hx hZ hown (host := "") (Or.inl (tw hw 88 rfl)) Via.refl e1 OH (g := (mkF m 42 #[vr r0, vi 3] [(.int ((loB ch1) &&& (255 : Int32)))])) rfl (hb hby d21_42)
  obtain ⟨cl5, Ar5, -, Sz5, Nn5, Hh5, -⟩ := id V0
  have hin5 : ¬ ((3 : Int32) < 0 ∨ cl5.slots.size ≤ ((3 : Int32)).toNatClampNeg) := inb_of Sz5 ⟨by decide, by decide⟩
  have hat5 : cl5.slots[((3 : Int32)).toNatClampNeg]? = some (.int (hiB ch1)) := Hh5 3 (by rw [Sz5]; decide)
  obtain ⟨T6, X6, e6, st6⟩ := getS2 X4 hx hZ hown (host := "") (Or.inl (tw hw 89 rfl)) Via.refl e4 OL (g := (mkF m 53 #[vr r0, vi 3] [(.int ((hiB ch1) &&& (255 : Int32))), (.int (((loB ch1) &&& (255 : Int32)) <<< ((0 : Int32) &&& 31)))])) rfl (hb hby d21_53)
  obtain ⟨fs, hr, hrun, hended, hW, hsame⟩ := X6.leave (v := some (.int (nar .char (((((loB ch1) &&& (255 : Int32)) <<< ((0 : Int32) &&& 31)) ||| (((hiB ch1) &&& (255 : Int32)) <<< ((8 : Int32) &&& 31))).toUInt32.toUInt16.toUInt32.toInt32)))) (fun h => by rw [Bd.returns] at h; cases h)
  refine ⟨_, _, pre0 _ ?_, hrun, hended, _, _, rfl, ?_, ⟨_, rfl⟩, hW, hsame.mono (by decide) (by decide)⟩
  · skip
    show SF p e below s₁ m 0 #[vr r0, vi 1] [] _
    refine st1 _ ?_
    refine XS.ifYes X1.here hx rfl (pc0 := 3) (pc' := 28) rfl (hb hby d21_3) rfl ((if0 _ _).trans (feq hc2).2) (by decide) (by decide) ?_
    refine XS.iloadN X1.here hx rfl (hb hby d21_28) rfl ?_
    refine XS.iconst X1.here hx rfl (hb hby d21_29) ?_
    refine XS.ishl X1.here hx rfl (hb hby d21_30) rfl ?_
    show SF p e below T1 m 31 #[vr r0, vi 1] [(.int 2)] _
    refine XS.istoreN X1.here hx rfl (hb hby d21_31) rfl (l' := #[vr r0, vi 2]) rfl ?_
    refine XS.aloadN X1.here hx rfl (hb hby d21_32) rfl rfl ?_
    refine XS.iloadN X1.here hx rfl (hb hby d21_33) rfl ?_
    refine XS.iinc X1.here hx rfl (hb hby d21_34) rfl (l' := #[vr r0, vi 3]) rfl ?_
    refine X1.baloadBytes hx (j := (2 : Int32)) (v := (.int (loB ch1))) (by rw [e1]; exact Ar3.1) (State.isArrayOf_alike hZ.alike Ar3.2.1) Ar3.2.2 hin3 hat3 (g := (mkF m 37 #[vr r0, vi 3] [(.int 2), (.ref r0)])) rfl rfl (hb hby d21_37) _ ?_
    show SF p e below T1 m 38 #[vr r0, vi 3] [(.int (loB ch1))] _
    refine XS.sipush X1.here hx rfl (hb hby d21_38) ?_
    refine XS.iand X1.here hx rfl (hb hby d21_41) rfl ?_
    refine st4 _ ?_
    refine XS.ishl X4.here hx rfl (hb hby d21_45) rfl ?_
    refine XS.aloadN X4.here hx rfl (hb hby d21_46) rfl rfl ?_
    show SF p e below T4 m 47 #[vr r0, vi 3] [(.ref r0), (.int (((loB ch1) &&& (255 : Int32)) <<< ((0 : Int32) &&& 31)))] _
    refine XS.iloadN X4.here hx rfl (hb hby d21_47) rfl ?_
    refine X4.baloadBytes hx (j := (3 : Int32)) (v := (.int (hiB ch1))) (by rw [e4]; exact Ar5.1) (State.isArrayOf_alike hZ.alike Ar5.2.1) Ar5.2.2 hin5 hat5 (g := (mkF m 48 #[vr r0, vi 3] [(.int 3), (.ref r0), (.int (((loB ch1) &&& (255 : Int32)) <<< ((0 : Int32) &&& 31)))])) rfl rfl (hb hby d21_48) _ ?_
    refine XS.sipush X4.here hx rfl (hb hby d21_49) ?_
    refine XS.iand X4.here hx rfl (hb hby d21_52) rfl ?_
    refine st6 _ ?_
    show SF p e below T6 m 56 #[vr r0, vi 3] [(.int 8), (.int ((hiB ch1) &&& (255 : Int32))), (.int (((loB ch1) &&& (255 : Int32)) <<< ((0 : Int32) &&& 31)))] _
    refine XS.ishl X6.here hx rfl (hb hby d21_56) rfl ?_
    refine XS.ior X6.here hx rfl (hb hby d21_57) rfl ?_
    refine XS.i2c X6.here hx rfl (hb hby d21_58) rfl ?_
    show SF p e below T6 m 59 #[vr r0, vi 3] [(.int (((((loB ch1) &&& (255 : Int32)) <<< ((0 : Int32) &&& 31)) ||| (((hiB ch1) &&& (255 : Int32)) <<< ((8 : Int32) &&& 31))).toUInt32.toUInt16.toUInt32.toInt32))] _
    exact retN X6 hx (t := .char) Bd.returns (by simp) (hb hby d21_59) hr
  · show Qgc_2_1 Z r0 k0 ch0 ch1 h0 n0 _ T6.heap _
    rw [e6]
    exact ⟨congrArg (fun z => some (Value.int z)) (own_u16 hbc), N0, rfl⟩
def Qcal_2 (Z : State) (r0 : Addr) (k0 : ClassId) (v0 : Int32) (v1 : Int32) (v2 : Int32) (v3 : Int32) (h0 : Heap) (n0 : Nat) (v : Option Value) (h : Heap) (L : List Loc) : Prop := v = some (.int 1) ∧ Fr n0 L ∧ h = h0
set_option maxRecDepth 65536 in
set_option maxHeartbeats 40000000 in
theorem rmcal_2 (l : Launch) (Z : State) (a0 : Array Value) (hw : ∀ d ∈ tables_1, d.before a0 Z = true) (ws : List Jvm.Cond) (r0 : Addr) (k0 : ClassId) (v0 : Int32) (v1 : Int32) (v2 : Int32) (v3 : Int32) (h0 : Heap) (n0 : Nat) (Z0 : n0 ≤ h0.size) (V0 : Arv Z h0 r0 k0 .byte (4 : Int32) [(.int v0), (.int v1), (.int v2), (.int v3)] (.int 0)) :
    MF l Z mN13 jdk_52_method_15_code 2 (some .byte) ws (rK 0 0 0 0) #[(.ref r0), (.int 2)] h0 (Qcal_2 Z r0 k0 v0 v1 v2 v3 h0 n0) := by
  refine MetFree.of_bodySF (plainFor_of_name pn_java_lang_StringUTF16) hisR ?_
  intro p e s m args below meth c s₁ Bd hml0 hP hK
  obtain ⟨rfl, hZ, hh⟩ := hP
  have hx := Bd.exec
  have hby := Bd.bytes
  have hml : c.maxLocals = 2 := hml0
  have hown : s.vm.findClass "java/lang/StringUTF16" = some m.cls := findClass_of_methodNamed Bd.named
  have hnm := (name_of_methodNamed Bd.named Bd.method).1
  have X0 : Stand p l e (rK 0 0 0 0) s m #[(.ref r0), (.int 2)] below meth c s₁ [] 0 0 := Stand.of_body Bd
  have e0 : s₁.heap = h0 := by rw [← hh, Bd.state]; rfl
  have N0 := Fr.nil n0
  have pre0 : ∀ t, SF p e below s₁ m 0 #[vr r0, vi 2] [] t → Steps p.tables e below (s₁.setTop (entryFrame m #[(.ref r0), (.int 2)] 2)) t := fun t k => castTop (ef_8 m r0 (2 : Int32)) k
  obtain ⟨cl1, Ar1, -, Sz1, Nn1, -, -⟩ := id V0
  obtain ⟨fs, hr, hrun, hended, hW, hsame⟩ := X0.leave (v := some (.int 1)) (fun h => by rw [Bd.returns] at h; cases h)
  refine ⟨_, _, pre0 _ ?_, hrun, hended, _, _, rfl, ?_, ⟨_, rfl⟩, hW, hsame.mono (by decide) (by decide)⟩
  · skip
    show SF p e below s₁ m 0 #[vr r0, vi 2] [] _
    refine XS.iloadN X0.here hx rfl (hb hby d8_0) rfl ?_
    refine XS.aloadN X0.here hx rfl (hb hby d8_1) rfl rfl ?_
    refine X0.arraylength hx (by rw [e0]; exact Ar1.1) (State.isArrayOf_alike hZ.alike Ar1.2.1) (g := (mkF m 2 #[vr r0, vi 2] [(.ref r0), (.int 2)])) rfl rfl (hb hby d8_2) _ ?_
    rw [len_of Sz1 Nn1]
    refine XS.isub X0.here hx rfl (hb hby d8_3) rfl ?_
    refine XS.bipush X0.here hx rfl (hb hby d8_4) ?_
    show SF p e below s₁ m 6 #[vr r0, vi 2] [(.int 31), (.int (-2 : Int32))] _
    refine XS.iushr X0.here hx rfl (hb hby d8_6) rfl ?_
    refine XS.i2b X0.here hx rfl (hb hby d8_7) rfl ?_
    show SF p e below s₁ m 8 #[vr r0, vi 2] [(.int 1)] _
    exact retN X0 hx (t := .byte) Bd.returns (by simp) (hb hby d8_8) hr
  · show Qcal_2 Z r0 k0 v0 v1 v2 v3 h0 n0 _ s₁.heap _
    rw [e0]
    exact ⟨rfl, N0, rfl⟩
def Qc5_2_0 (Z : State) (r0 : Addr) (r2 : Addr) (k0 : ClassId) (k2 : ClassId) (ch0 : Int32) (ch1 : Int32) (h0 : Heap) (n0 : Nat) (v : Option Value) (h : Heap) (L : List Loc) : Prop := v = some (.int 0) ∧ Fr n0 L ∧ Keep h0 h [r2]
set_option maxRecDepth 65536 in
set_option maxHeartbeats 40000000 in
theorem rmc5_2_0 (l : Launch) (Z : State) (a0 : Array Value) (hw : ∀ d ∈ tables_1, d.before a0 Z = true) (ws : List Jvm.Cond) (r0 : Addr) (r2 : Addr) (k0 : ClassId) (k2 : ClassId) (ch0 : Int32) (ch1 : Int32) (h0 : Heap) (n0 : Nat) (Z0 : n0 ≤ h0.size) (V0 : Arv Z h0 r0 k0 .char (2 : Int32) [(.int ch0), (.int ch1)] (.int 0)) (V2 : Arv Z h0 r2 k2 .byte (2 : Int32) [(.int 0), (.int 0)] (.int 0)) (ne_r0_r2 : r0 ≠ r2) (g_r2 : n0 ≤ r2) (hw_0 : (255 : Int32) < ch0) :
    MF l Z mN14 jdk_52_method_21_code 7 (some .int) ws (rK 0 0 0 0) #[(.ref r0), (.int 0), (.ref r2), (.int 0), (.int 2)] h0 (Qc5_2_0 Z r0 r2 k0 k2 ch0 ch1 h0 n0) := by
  refine MetFree.of_bodySF (plainFor_of_name pn_java_lang_StringUTF16) hisR ?_
  intro p e s m args below meth c s₁ Bd hml0 hP hK
  obtain ⟨rfl, hZ, hh⟩ := hP
  have hx := Bd.exec
  have hby := Bd.bytes
  have hml : c.maxLocals = 7 := hml0
  have hown : s.vm.findClass "java/lang/StringUTF16" = some m.cls := findClass_of_methodNamed Bd.named
  have hnm := (name_of_methodNamed Bd.named Bd.method).1
  have X0 : Stand p l e (rK 0 0 0 0) s m #[(.ref r0), (.int 0), (.ref r2), (.int 0), (.int 2)] below meth c s₁ [] 0 0 := Stand.of_body Bd
  have e0 : s₁.heap = h0 := by rw [← hh, Bd.state]; rfl
  have N0 := Fr.nil n0
  have pre0 : ∀ t, SF p e below s₁ m 0 #[vr r0, vi 0, vr r2, vi 0, vi 2, .unset, .unset] [] t → Steps p.tables e below (s₁.setTop (entryFrame m #[(.ref r0), (.int 0), (.ref r2), (.int 0), (.int 2)] 7)) t := fun t k => castTop (ef_7 m r0 (0 : Int32) r2 (0 : Int32) (2 : Int32)) k
  have KR : Keep h0 h0 [r2] := Keep.refl _ _
  have hc1 : (0 : Int32) < (2 : Int32) := by decide
  obtain ⟨cl2, Ar2, -, Sz2, Nn2, Hh2, -⟩ := id V0
  have hin2 : ¬ ((0 : Int32) < 0 ∨ cl2.slots.size ≤ ((0 : Int32)).toNatClampNeg) := inb_of Sz2 ⟨by decide, by decide⟩
  have hat2 : cl2.slots[((0 : Int32)).toNatClampNeg]? = some (.int ch0) := Hh2 0 (by rw [Sz2]; decide)
  have hc3 : (255 : Int32) < ch0 := hw_0
  have ohc3 : 255 < ch0.toInt := own_lt.mp hc3
  obtain ⟨fs, hr, hrun, hended, hW, hsame⟩ := X0.leave (v := some (.int 0)) (fun h => by rw [Bd.returns] at h; cases h)
  refine ⟨_, _, pre0 _ ?_, hrun, hended, _, _, rfl, ?_, ⟨_, rfl⟩, hW, hsame.mono (by decide) (by decide)⟩
  · skip
    show SF p e below s₁ m 0 #[vr r0, vi 0, vr r2, vi 0, vi 2, .unset, .unset] [] _
    refine XS.iconst X0.here hx rfl (hb hby d7_0) ?_
    refine XS.istore X0.here hx rfl (hb hby d7_1) rfl (l' := #[vr r0, vi 0, vr r2, vi 0, vi 2, vi 0, .unset]) rfl ?_
    refine XS.iload X0.here hx rfl (hb hby d7_3) rfl ?_
    refine XS.iload X0.here hx rfl (hb hby d7_5) rfl ?_
    refine XS.icmpNo X0.here hx rfl (hb hby d7_7) rfl (tlt hc1).2.1 ?_
    show SF p e below s₁ m 10 #[vr r0, vi 0, vr r2, vi 0, vi 2, vi 0, .unset] [] _
    refine XS.aloadN X0.here hx rfl (hb hby d7_10) rfl rfl ?_
    refine XS.iloadN X0.here hx rfl (hb hby d7_11) rfl ?_
    refine X0.caload hx (j := (0 : Int32)) (v := (.int ch0)) (by rw [e0]; exact Ar2.1) (State.isArrayOf_alike hZ.alike Ar2.2.1) Ar2.2.2 hin2 hat2 (g := (mkF m 12 #[vr r0, vi 0, vr r2, vi 0, vi 2, vi 0, .unset] [(.int 0), (.ref r0)])) rfl rfl (hb hby d7_12) _ ?_
    refine XS.istore X0.here hx rfl (hb hby d7_13) rfl (l' := #[vr r0, vi 0, vr r2, vi 0, vi 2, vi 0, vi ch0]) rfl ?_
    refine XS.iload X0.here hx rfl (hb hby d7_15) rfl ?_
    show SF p e below s₁ m 17 #[vr r0, vi 0, vr r2, vi 0, vi 2, vi 0, vi ch0] [(.int ch0)] _
    refine XS.sipush X0.here hx rfl (hb hby d7_17) ?_
    refine XS.icmpNo X0.here hx rfl (hb hby d7_20) rfl (tlt hc3).2.2.2 ?_
    refine XS.iload X0.here hx rfl (hb hby d7_23) rfl ?_
    show SF p e below s₁ m 25 #[vr r0, vi 0, vr r2, vi 0, vi 2, vi 0, vi ch0] [(.int 0)] _
    exact retI X0 hx Bd.returns (hb hby d7_25) hr
  · show Qc5_2_0 Z r0 r2 k0 k2 ch0 ch1 h0 n0 _ s₁.heap _
    rw [e0]
    exact ⟨rfl, N0, KR⟩
def Qc3_2_0 (Z : State) (r0 : Addr) (k0 : ClassId) (ch0 : Int32) (ch1 : Int32) (h0 : Heap) (n0 : Nat) (v : Option Value) (h : Heap) (L : List Loc) : Prop := ∃ (b : Addr) (kb : ClassId), v = some (.ref b) ∧ Fr n0 L ∧ Keep h0 h [] ∧ h0.size ≤ b ∧ Arv Z h b kb .byte (4 : Int32) [(.int (loB ch0)), (.int (hiB ch0)), (.int (loB ch1)), (.int (hiB ch1))] (.int 0)
set_option maxRecDepth 65536 in
set_option maxHeartbeats 40000000 in
theorem rmc3_2_0 (l : Launch) (Z : State) (a0 : Array Value) (hw : ∀ d ∈ tables_1, d.before a0 Z = true) (ws : List Jvm.Cond) (r0 : Addr) (k0 : ClassId) (ch0 : Int32) (ch1 : Int32) (h0 : Heap) (n0 : Nat) (Z0 : n0 ≤ h0.size) (V0 : Arv Z h0 r0 k0 .char (2 : Int32) [(.int ch0), (.int ch1)] (.int 0)) (hb_0 : 0 ≤ ch0.toInt ∧ ch0.toInt ≤ 65535) (hw_0 : (255 : Int32) < ch0) (OA : sA Z h0) (OH : sH Z h0) (OL : sL Z h0) :
    MF l Z mN15 jdk_52_method_16_code 6 (some (.array .byte)) ws (rK 3 2 6 40) #[(.ref r0), (.int 0), (.int 2)] h0 (Qc3_2_0 Z r0 k0 ch0 ch1 h0 n0) := by
  refine MetFree.of_bodySF (plainFor_of_name pn_java_lang_StringUTF16) hisR ?_
  intro p e s m args below meth c s₁ Bd hml0 hP hK
  obtain ⟨rfl, hZ, hh⟩ := hP
  have hx := Bd.exec
  have hby := Bd.bytes
  have hml : c.maxLocals = 6 := hml0
  have hown : s.vm.findClass "java/lang/StringUTF16" = some m.cls := findClass_of_methodNamed Bd.named
  have hnm := (name_of_methodNamed Bd.named Bd.method).1
  have X0 : Stand p l e (rK 3 2 6 40) s m #[(.ref r0), (.int 0), (.int 2)] below meth c s₁ [] 0 0 := Stand.of_body Bd
  have e0 : s₁.heap = h0 := by rw [← hh, Bd.state]; rfl
  have N0 := Fr.nil n0
  have pre0 : ∀ t, SF p e below s₁ m 0 #[vr r0, vi 0, vi 2, .unset, .unset, .unset] [] t → Steps p.tables e below (s₁.setTop (entryFrame m #[(.ref r0), (.int 0), (.int 2)] 6)) t := fun t k => castTop (ef_6 m r0 (0 : Int32) (2 : Int32)) k
  have KR : Keep h0 h0 [] := Keep.refl _ _
  obtain ⟨T1, h1, k1, X1, e1, E1, A1, st1⟩ := newP X0 hx hZ (tw hw 15 rfl) e0 (g := (mkF m 1 #[vr r0, vi 0, vi 2, .unset, .unset, .unset] [(.int 2)])) rfl (hb hby d6_1) rfl (by decide) (cap := 2) (by decide) (by decide) (by decide) (by decide)
  obtain ⟨b1, g1⟩ : ∃ z, z = h0.size := ⟨_, rfl⟩
  rw [← g1] at A1 st1
  have g_b1 : n0 ≤ b1 := Nat.le_trans Z0 (Nat.le_of_eq g1.symm)
  have Z1 : n0 ≤ h1.size := Nat.le_trans Z0 E1.1
  have ne_r0_b1 : r0 ≠ b1 := Nat.ne_of_lt (Nat.lt_of_lt_of_le V0.lt (Nat.le_of_eq g1.symm))
  have K1 : Keep h0 h1 [] := KR.ext E1
  have sz_b1 : h0.size ≤ b1 := Nat.le_trans KR.1 (Nat.le_of_eq g1.symm)
  have c2 : Arv Z h1 r0 k0 .char (2 : Int32) [(.int ch0), (.int ch1)] (.int 0) := V0.ext E1
  have V1 : Arv Z h1 b1 k1 .byte (2 : Int32) [(.int 0), (.int 0)] (.int 0) := (Arv.new A1 (by decide)).pad (pad_rep [] (.int 0) 2)
  obtain ⟨_, _, ⟨T3, L3, k3, n3⟩, -, X3, ⟨Lc3, hQ3, l3, y3, z3⟩, st3⟩ := Jvm.LawKit.callS X1 hx (y := mN14) hown (mvT hZ (tw hw 36 rfl)) (mvT hZ (tw hw 37 rfl)) (mvT hZ (tw hw 34 rfl)) (mvT hZ (tw hw 38 rfl)) (by decide) (backOf (W := 0) (rmc5_2_0 l Z a0 hw [] r0 b1 k0 k1 ch0 ch1 h1 n0 Z1 c2 V1 ne_r0_b1 g_b1 hw_0) hZ (tw hw 38 rfl) (tw hw 34 rfl) (by decide) (by decide)) (g := (mkF m 9 #[vr r0, vi 0, vi 2, vr b1, .unset, .unset] [(.int 2), (.int 0), (.ref b1), (.int 0), (.ref r0)])) rfl (by rw [hml]; rfl) (argsL := [(.ref r0), (.int 0), (.ref b1), (.int 0), (.int 2)]) (rest := []) (lenOf pd_5 rfl) rfl (by show 2 * 0 + _ ≤ _; exact Nat.le_of_eq rfl) (hb hby d6_9) (fun _ _ => ⟨rfl, e1, (by decide : 1 + 0 ≤ _), (by decide : 2 + 0 ≤ _)⟩)
  dsimp only [Pt.U, Pt.locs, Pt.cells, Pt.slots] at X3 l3 y3 z3 st3 hQ3
  subst l3 y3 z3
  obtain ⟨rfl, Nq3, Kq3⟩ := hQ3
  have N3 := Fr.app N0 Nq3
  have Z3 : n0 ≤ T3.heap.size := Nat.le_trans Z1 Kq3.1
  have K3 : Keep h0 T3.heap [] := K1.trans Kq3 (fun x hx => by cases List.mem_singleton.mp hx; exact (Or.inr sz_b1))
  have c4 : Arv Z T3.heap r0 k0 .char (2 : Int32) [(.int ch0), (.int ch1)] (.int 0) := c2.keep Kq3 (fun q => ne_r0_b1 (List.mem_singleton.mp q))
  have hc5 : ¬ ((0 : Int32) = (2 : Int32)) := by decide
  obtain ⟨_, _, ⟨T6, L6, k6, n6⟩, -, X6, ⟨Lc6, hQ6, l6, y6, z6⟩, st6⟩ := Jvm.LawKit.callS X3 hx (y := mN11) hown (mvT hZ (tw hw 74 rfl)) (mvT hZ (tw hw 75 rfl)) (mvT hZ (tw hw 34 rfl)) (mvT hZ (tw hw 76 rfl)) (by decide) (backOf (W := 0) (rmtb_2 l Z a0 hw [] r0 k0 ch0 ch1 T3.heap n0 Z3 c4 (own_s0 OA K3) (own_s0 OH K3) (own_s0 OL K3)) hZ (tw hw 76 rfl) (tw hw 34 rfl) (by decide) (by decide)) (g := (mkF m 23 #[vr r0, vi 0, vi 2, vr b1, vi 0, .unset] [(.int 2), (.int 0), (.ref r0)])) rfl (by rw [hml]; rfl) (argsL := [(.ref r0), (.int 0), (.int 2)]) (rest := []) (lenOf pd_6 rfl) rfl (by show 2 * 0 + _ ≤ _; exact Nat.le_of_eq rfl) (hb hby d6_23) (fun _ _ => ⟨rfl, rfl, (by decide : 1 + 1 ≤ _), (by decide : 2 + 4 ≤ _)⟩)
  dsimp only [Pt.U, Pt.locs, Pt.cells, Pt.slots] at X6 l6 y6 z6 st6 hQ6
  subst l6 y6 z6
  obtain ⟨b6, kb6, rfl, Nq6, Kq6, sq6, Vq6⟩ := hQ6
  have N6 := Fr.app N3 Nq6
  have Z6 : n0 ≤ T6.heap.size := Nat.le_trans Z3 Kq6.1
  have ne_r0_b6 : r0 ≠ b6 := Nat.ne_of_lt (Nat.lt_of_lt_of_le c4.lt sq6)
  have g_b6 : n0 ≤ b6 := Nat.le_trans Z3 sq6
  have sz_b6 : h0.size ≤ b6 := Nat.le_trans K3.1 sq6
  have K6 : Keep h0 T6.heap [] := K3.trans Kq6 (fun x hx => by cases hx)
  have c7 : Arv Z T6.heap r0 k0 .char (2 : Int32) [(.int ch0), (.int ch1)] (.int 0) := c4.keep Kq6 (by simp)
  obtain ⟨_, _, ⟨T8, L8, k8, n8⟩, -, X8, ⟨Lc8, hQ8, l8, y8, z8⟩, st8⟩ := Jvm.LawKit.callS X6 hx (y := mN12) hown (mvT hZ (tw hw 90 rfl)) (mvT hZ (tw hw 91 rfl)) (mvT hZ (tw hw 34 rfl)) (mvT hZ (tw hw 92 rfl)) (by decide) (backOf (W := 0) (rmgc_2_0 l Z a0 hw [] b6 kb6 ch0 ch1 T6.heap n0 Z6 Vq6 hb_0 (own_s0 OA K6) (own_s0 OH K6) (own_s0 OL K6)) hZ (tw hw 92 rfl) (tw hw 34 rfl) (by decide) (by decide)) (g := (mkF m 32 #[vr r0, vi 0, vi 2, vr b1, vi 0, vr b6] [(.int 0), (.ref b6)])) rfl (by rw [hml]; rfl) (argsL := [(.ref b6), (.int 0)]) (rest := []) (lenOf pd_7 rfl) rfl (by show 2 * 0 + _ ≤ _; exact Nat.le_of_eq rfl) (hb hby d6_32) (fun _ _ => ⟨rfl, rfl, (by decide : 2 + 0 ≤ _), (by decide : 6 + 0 ≤ _)⟩)
  dsimp only [Pt.U, Pt.locs, Pt.cells, Pt.slots] at X8 l8 y8 z8 st8 hQ8
  subst l8 y8 z8
  obtain ⟨rfl, Nq8, e8⟩ := hQ8
  have N8 := Fr.app N6 Nq8
  have hc9 : (255 : Int32) < ch0 := hw_0
  have ohc9 : 255 < ch0.toInt := own_lt.mp hc9
  obtain ⟨fs, hr, hrun, hended, hW, hsame⟩ := X8.leave (v := some (.ref b6)) (fun h => by rw [Bd.returns] at h; cases h)
  refine ⟨_, _, pre0 _ ?_, hrun, hended, _, _, rfl, ?_, ⟨_, rfl⟩, hW, hsame.mono (by decide) (by decide)⟩
  · skip
    show SF p e below s₁ m 0 #[vr r0, vi 0, vi 2, .unset, .unset, .unset] [] _
    refine XS.iloadN X0.here hx rfl (hb hby d6_0) rfl ?_
    refine st1 _ ?_
    refine XS.astoreN X1.here hx rfl (hb hby d6_3) rfl rfl (l' := #[vr r0, vi 0, vi 2, vr b1, .unset, .unset]) rfl ?_
    refine XS.aloadN X1.here hx rfl (hb hby d6_4) rfl rfl ?_
    refine XS.iloadN X1.here hx rfl (hb hby d6_5) rfl ?_
    show SF p e below T1 m 6 #[vr r0, vi 0, vi 2, vr b1, .unset, .unset] [(.int 0), (.ref r0)] _
    refine XS.aloadN X1.here hx rfl (hb hby d6_6) rfl rfl ?_
    refine XS.iconst X1.here hx rfl (hb hby d6_7) ?_
    refine XS.iloadN X1.here hx rfl (hb hby d6_8) rfl ?_
    refine st3 _ ?_
    refine XS.istore X3.here hx rfl (hb hby d6_12) rfl (l' := #[vr r0, vi 0, vi 2, vr b1, vi 0, .unset]) rfl ?_
    show SF p e below T3 m 14 #[vr r0, vi 0, vi 2, vr b1, vi 0, .unset] [] _
    refine XS.iload X3.here hx rfl (hb hby d6_14) rfl ?_
    refine XS.iloadN X3.here hx rfl (hb hby d6_16) rfl ?_
    refine XS.icmpNo X3.here hx rfl (hb hby d6_17) rfl (feq hc5).1 ?_
    refine XS.aloadN X3.here hx rfl (hb hby d6_20) rfl rfl ?_
    refine XS.iloadN X3.here hx rfl (hb hby d6_21) rfl ?_
    show SF p e below T3 m 22 #[vr r0, vi 0, vi 2, vr b1, vi 0, .unset] [(.int 0), (.ref r0)] _
    refine XS.iloadN X3.here hx rfl (hb hby d6_22) rfl ?_
    refine st6 _ ?_
    refine XS.astore X6.here hx rfl (hb hby d6_26) rfl rfl (l' := #[vr r0, vi 0, vi 2, vr b1, vi 0, vr b6]) rfl ?_
    refine XS.aload X6.here hx rfl (hb hby d6_28) rfl rfl ?_
    refine XS.iload X6.here hx rfl (hb hby d6_30) rfl ?_
    show SF p e below T6 m 32 #[vr r0, vi 0, vi 2, vr b1, vi 0, vr b6] [(.int 0), (.ref b6)] _
    refine st8 _ ?_
    refine XS.sipush X8.here hx rfl (hb hby d6_35) ?_
    refine XS.icmpYes X8.here hx rfl (pc0 := 38) (pc' := 54) rfl (hb hby d6_38) rfl (tlt hc9).2.2.1 (by decide) (by decide) ?_
    refine XS.aload X8.here hx rfl (hb hby d6_54) rfl rfl ?_
    show SF p e below T8 m 56 #[vr r0, vi 0, vi 2, vr b1, vi 0, vr b6] [(.ref b6)] _
    jvm_step X8.here [X8.here.top, hx, (hb hby d6_56), X8.method', Bd.returns, Value.isRef, FieldType.isReference]
    first | (intro acts; rw [hr _ acts rfl rfl rfl]) | rw [hr _ _ rfl rfl rfl]
    exact Steps.refl _
  · show Qc3_2_0 Z r0 k0 ch0 ch1 h0 n0 _ T8.heap _
    rw [e8]
    exact ⟨b6, kb6, rfl, N8, K6, sz_b6, Vq6⟩
def Qc5_2_1 (Z : State) (r0 : Addr) (r2 : Addr) (k0 : ClassId) (k2 : ClassId) (ch0 : Int32) (ch1 : Int32) (h0 : Heap) (n0 : Nat) (v : Option Value) (h : Heap) (L : List Loc) : Prop := v = some (.int 1) ∧ Fr n0 L ∧ Keep h0 h [r2]
set_option maxRecDepth 65536 in
set_option maxHeartbeats 40000000 in
theorem rmc5_2_1 (l : Launch) (Z : State) (a0 : Array Value) (hw : ∀ d ∈ tables_1, d.before a0 Z = true) (ws : List Jvm.Cond) (r0 : Addr) (r2 : Addr) (k0 : ClassId) (k2 : ClassId) (ch0 : Int32) (ch1 : Int32) (h0 : Heap) (n0 : Nat) (Z0 : n0 ≤ h0.size) (V0 : Arv Z h0 r0 k0 .char (2 : Int32) [(.int ch0), (.int ch1)] (.int 0)) (V2 : Arv Z h0 r2 k2 .byte (2 : Int32) [(.int 0), (.int 0)] (.int 0)) (ne_r0_r2 : r0 ≠ r2) (g_r2 : n0 ≤ r2) (hs_0 : ¬ ((255 : Int32) < ch0)) (hw_1 : (255 : Int32) < ch1) :
    MF l Z mN14 jdk_52_method_21_code 7 (some .int) ws (rK 0 0 0 0) #[(.ref r0), (.int 0), (.ref r2), (.int 0), (.int 2)] h0 (Qc5_2_1 Z r0 r2 k0 k2 ch0 ch1 h0 n0) := by
  refine MetFree.of_bodySF (plainFor_of_name pn_java_lang_StringUTF16) hisR ?_
  intro p e s m args below meth c s₁ Bd hml0 hP hK
  obtain ⟨rfl, hZ, hh⟩ := hP
  have hx := Bd.exec
  have hby := Bd.bytes
  have hml : c.maxLocals = 7 := hml0
  have hown : s.vm.findClass "java/lang/StringUTF16" = some m.cls := findClass_of_methodNamed Bd.named
  have hnm := (name_of_methodNamed Bd.named Bd.method).1
  have X0 : Stand p l e (rK 0 0 0 0) s m #[(.ref r0), (.int 0), (.ref r2), (.int 0), (.int 2)] below meth c s₁ [] 0 0 := Stand.of_body Bd
  have e0 : s₁.heap = h0 := by rw [← hh, Bd.state]; rfl
  have N0 := Fr.nil n0
  have pre0 : ∀ t, SF p e below s₁ m 0 #[vr r0, vi 0, vr r2, vi 0, vi 2, .unset, .unset] [] t → Steps p.tables e below (s₁.setTop (entryFrame m #[(.ref r0), (.int 0), (.ref r2), (.int 0), (.int 2)] 7)) t := fun t k => castTop (ef_7 m r0 (0 : Int32) r2 (0 : Int32) (2 : Int32)) k
  have KR : Keep h0 h0 [r2] := Keep.refl _ _
  have hc1 : (0 : Int32) < (2 : Int32) := by decide
  obtain ⟨cl2, Ar2, -, Sz2, Nn2, Hh2, -⟩ := id V0
  have hin2 : ¬ ((0 : Int32) < 0 ∨ cl2.slots.size ≤ ((0 : Int32)).toNatClampNeg) := inb_of Sz2 ⟨by decide, by decide⟩
  have hat2 : cl2.slots[((0 : Int32)).toNatClampNeg]? = some (.int ch0) := Hh2 0 (by rw [Sz2]; decide)
  have hc3 : ¬ ((255 : Int32) < ch0) := hs_0
  have ohc3 : ch0.toInt ≤ 255 := own_nlt.mp hc3
  obtain ⟨cl4, Ar4, q4, Sz4, Nn4, Hh4, Gg4⟩ := id V2
  have hin4 : ¬ ((0 : Int32) < 0 ∨ cl4.slots.size ≤ ((0 : Int32)).toNatClampNeg) := inb_of Sz4 ⟨by decide, by decide⟩
  obtain ⟨T5, h5, X5, e5, W5, st5⟩ := stB X0 hx hZ e0 Ar4 (j := (0 : Int32)) hin4 (g := (mkF m 31 #[vr r0, vi 0, vr r2, vi 0, vi 2, vi 0, vi ch0] [(.int (ch0.toInt8.toInt32)), (.int 0), (.ref r2)])) rfl rfl (hb hby d7_31)
  have V5 : Arv Z h5 r2 k2 .byte (2 : Int32) [(.int (nar .byte (ch0.toInt8.toInt32))), (.int 0)] (.int 0) := Arv.set Ar4 q4 Sz4 Nn4 Hh4 Gg4 (fits_nar_byte _) W5 0 rfl (Nat.le_of_ble_eq_true rfl)
  have N5 := Fr.snoc X5 N0 g_r2
  have Z5 : n0 ≤ h5.size := Nat.le_trans Z0 (Keep.of_wr W5).1
  have K5 : Keep h0 h5 [r2] := KR.wr W5 (Or.inl (List.mem_of_getElem? (i := 0) rfl))
  have c6 : Arv Z h5 r0 k0 .char (2 : Int32) [(.int ch0), (.int ch1)] (.int 0) := V0.other W5 ne_r0_r2
  have hc7 : (1 : Int32) < (2 : Int32) := by decide
  obtain ⟨cl8, Ar8, -, Sz8, Nn8, Hh8, -⟩ := id c6
  have hin8 : ¬ ((1 : Int32) < 0 ∨ cl8.slots.size ≤ ((1 : Int32)).toNatClampNeg) := inb_of Sz8 ⟨by decide, by decide⟩
  have hat8 : cl8.slots[((1 : Int32)).toNatClampNeg]? = some (.int ch1) := Hh8 1 (by rw [Sz8]; decide)
  have hc9 : (255 : Int32) < ch1 := hw_1
  have ohc9 : 255 < ch1.toInt := own_lt.mp hc9
  obtain ⟨fs, hr, hrun, hended, hW, hsame⟩ := X5.leave (v := some (.int 1)) (fun h => by rw [Bd.returns] at h; cases h)
  refine ⟨_, _, pre0 _ ?_, hrun, hended, _, _, rfl, ?_, ⟨_, rfl⟩, hW, hsame.mono (by decide) (by decide)⟩
  · skip
    show SF p e below s₁ m 0 #[vr r0, vi 0, vr r2, vi 0, vi 2, .unset, .unset] [] _
    refine XS.iconst X0.here hx rfl (hb hby d7_0) ?_
    refine XS.istore X0.here hx rfl (hb hby d7_1) rfl (l' := #[vr r0, vi 0, vr r2, vi 0, vi 2, vi 0, .unset]) rfl ?_
    refine XS.iload X0.here hx rfl (hb hby d7_3) rfl ?_
    refine XS.iload X0.here hx rfl (hb hby d7_5) rfl ?_
    refine XS.icmpNo X0.here hx rfl (hb hby d7_7) rfl (tlt hc1).2.1 ?_
    show SF p e below s₁ m 10 #[vr r0, vi 0, vr r2, vi 0, vi 2, vi 0, .unset] [] _
    refine XS.aloadN X0.here hx rfl (hb hby d7_10) rfl rfl ?_
    refine XS.iloadN X0.here hx rfl (hb hby d7_11) rfl ?_
    refine X0.caload hx (j := (0 : Int32)) (v := (.int ch0)) (by rw [e0]; exact Ar2.1) (State.isArrayOf_alike hZ.alike Ar2.2.1) Ar2.2.2 hin2 hat2 (g := (mkF m 12 #[vr r0, vi 0, vr r2, vi 0, vi 2, vi 0, .unset] [(.int 0), (.ref r0)])) rfl rfl (hb hby d7_12) _ ?_
    refine XS.istore X0.here hx rfl (hb hby d7_13) rfl (l' := #[vr r0, vi 0, vr r2, vi 0, vi 2, vi 0, vi ch0]) rfl ?_
    refine XS.iload X0.here hx rfl (hb hby d7_15) rfl ?_
    show SF p e below s₁ m 17 #[vr r0, vi 0, vr r2, vi 0, vi 2, vi 0, vi ch0] [(.int ch0)] _
    refine XS.sipush X0.here hx rfl (hb hby d7_17) ?_
    refine XS.icmpYes X0.here hx rfl (pc0 := 20) (pc' := 26) rfl (hb hby d7_20) rfl (flt hc3).2.2.2 (by decide) (by decide) ?_
    refine XS.aloadN X0.here hx rfl (hb hby d7_26) rfl rfl ?_
    refine XS.iloadN X0.here hx rfl (hb hby d7_27) rfl ?_
    refine XS.iload X0.here hx rfl (hb hby d7_28) rfl ?_
    show SF p e below s₁ m 30 #[vr r0, vi 0, vr r2, vi 0, vi 2, vi 0, vi ch0] [(.int ch0), (.int 0), (.ref r2)] _
    refine XS.i2b X0.here hx rfl (hb hby d7_30) rfl ?_
    refine st5 _ ?_
    refine XS.iinc X5.here hx rfl (hb hby d7_32) rfl (l' := #[vr r0, vi 1, vr r2, vi 0, vi 2, vi 0, vi ch0]) rfl ?_
    refine XS.iinc X5.here hx rfl (hb hby d7_35) rfl (l' := #[vr r0, vi 1, vr r2, vi 1, vi 2, vi 0, vi ch0]) rfl ?_
    refine XS.iinc X5.here hx rfl (hb hby d7_38) rfl (l' := #[vr r0, vi 1, vr r2, vi 1, vi 2, vi 1, vi ch0]) rfl ?_
    show SF p e below T5 m 41 #[vr r0, vi 1, vr r2, vi 1, vi 2, vi 1, vi ch0] [] _
    refine XS.goto X5.here hx rfl (pc0 := 41) (pc' := 3) rfl (hb hby d7_41) (by decide) (by decide) ?_
    refine XS.iload X5.here hx rfl (hb hby d7_3) rfl ?_
    refine XS.iload X5.here hx rfl (hb hby d7_5) rfl ?_
    refine XS.icmpNo X5.here hx rfl (hb hby d7_7) rfl (tlt hc7).2.1 ?_
    refine XS.aloadN X5.here hx rfl (hb hby d7_10) rfl rfl ?_
    show SF p e below T5 m 11 #[vr r0, vi 1, vr r2, vi 1, vi 2, vi 1, vi ch0] [(.ref r0)] _
    refine XS.iloadN X5.here hx rfl (hb hby d7_11) rfl ?_
    refine X5.caload hx (j := (1 : Int32)) (v := (.int ch1)) (by rw [e5]; exact Ar8.1) (State.isArrayOf_alike hZ.alike Ar8.2.1) Ar8.2.2 hin8 hat8 (g := (mkF m 12 #[vr r0, vi 1, vr r2, vi 1, vi 2, vi 1, vi ch0] [(.int 1), (.ref r0)])) rfl rfl (hb hby d7_12) _ ?_
    refine XS.istore X5.here hx rfl (hb hby d7_13) rfl (l' := #[vr r0, vi 1, vr r2, vi 1, vi 2, vi 1, vi ch1]) rfl ?_
    refine XS.iload X5.here hx rfl (hb hby d7_15) rfl ?_
    refine XS.sipush X5.here hx rfl (hb hby d7_17) ?_
    show SF p e below T5 m 20 #[vr r0, vi 1, vr r2, vi 1, vi 2, vi 1, vi ch1] [(.int 255), (.int ch1)] _
    refine XS.icmpNo X5.here hx rfl (hb hby d7_20) rfl (tlt hc9).2.2.2 ?_
    refine XS.iload X5.here hx rfl (hb hby d7_23) rfl ?_
    show SF p e below T5 m 25 #[vr r0, vi 1, vr r2, vi 1, vi 2, vi 1, vi ch1] [(.int 1)] _
    exact retI X5 hx Bd.returns (hb hby d7_25) hr
  · show Qc5_2_1 Z r0 r2 k0 k2 ch0 ch1 h0 n0 _ T5.heap _
    rw [e5]
    exact ⟨rfl, N5, K5⟩
def Qc3_2_1 (Z : State) (r0 : Addr) (k0 : ClassId) (ch0 : Int32) (ch1 : Int32) (h0 : Heap) (n0 : Nat) (v : Option Value) (h : Heap) (L : List Loc) : Prop := ∃ (b : Addr) (kb : ClassId), v = some (.ref b) ∧ Fr n0 L ∧ Keep h0 h [] ∧ h0.size ≤ b ∧ Arv Z h b kb .byte (4 : Int32) [(.int (loB ch0)), (.int (hiB ch0)), (.int (loB ch1)), (.int (hiB ch1))] (.int 0)
set_option maxRecDepth 65536 in
set_option maxHeartbeats 40000000 in
theorem rmc3_2_1 (l : Launch) (Z : State) (a0 : Array Value) (hw : ∀ d ∈ tables_1, d.before a0 Z = true) (ws : List Jvm.Cond) (r0 : Addr) (k0 : ClassId) (ch0 : Int32) (ch1 : Int32) (h0 : Heap) (n0 : Nat) (Z0 : n0 ≤ h0.size) (V0 : Arv Z h0 r0 k0 .char (2 : Int32) [(.int ch0), (.int ch1)] (.int 0)) (hb_1 : 0 ≤ ch1.toInt ∧ ch1.toInt ≤ 65535) (hs_0 : ¬ ((255 : Int32) < ch0)) (hw_1 : (255 : Int32) < ch1) (OA : sA Z h0) (OH : sH Z h0) (OL : sL Z h0) :
    MF l Z mN15 jdk_52_method_16_code 6 (some (.array .byte)) ws (rK 3 2 6 40) #[(.ref r0), (.int 0), (.int 2)] h0 (Qc3_2_1 Z r0 k0 ch0 ch1 h0 n0) := by
  refine MetFree.of_bodySF (plainFor_of_name pn_java_lang_StringUTF16) hisR ?_
  intro p e s m args below meth c s₁ Bd hml0 hP hK
  obtain ⟨rfl, hZ, hh⟩ := hP
  have hx := Bd.exec
  have hby := Bd.bytes
  have hml : c.maxLocals = 6 := hml0
  have hown : s.vm.findClass "java/lang/StringUTF16" = some m.cls := findClass_of_methodNamed Bd.named
  have hnm := (name_of_methodNamed Bd.named Bd.method).1
  have X0 : Stand p l e (rK 3 2 6 40) s m #[(.ref r0), (.int 0), (.int 2)] below meth c s₁ [] 0 0 := Stand.of_body Bd
  have e0 : s₁.heap = h0 := by rw [← hh, Bd.state]; rfl
  have N0 := Fr.nil n0
  have pre0 : ∀ t, SF p e below s₁ m 0 #[vr r0, vi 0, vi 2, .unset, .unset, .unset] [] t → Steps p.tables e below (s₁.setTop (entryFrame m #[(.ref r0), (.int 0), (.int 2)] 6)) t := fun t k => castTop (ef_6 m r0 (0 : Int32) (2 : Int32)) k
  have KR : Keep h0 h0 [] := Keep.refl _ _
  obtain ⟨T1, h1, k1, X1, e1, E1, A1, st1⟩ := newP X0 hx hZ (tw hw 15 rfl) e0 (g := (mkF m 1 #[vr r0, vi 0, vi 2, .unset, .unset, .unset] [(.int 2)])) rfl (hb hby d6_1) rfl (by decide) (cap := 2) (by decide) (by decide) (by decide) (by decide)
  obtain ⟨b1, g1⟩ : ∃ z, z = h0.size := ⟨_, rfl⟩
  rw [← g1] at A1 st1
  have g_b1 : n0 ≤ b1 := Nat.le_trans Z0 (Nat.le_of_eq g1.symm)
  have Z1 : n0 ≤ h1.size := Nat.le_trans Z0 E1.1
  have ne_r0_b1 : r0 ≠ b1 := Nat.ne_of_lt (Nat.lt_of_lt_of_le V0.lt (Nat.le_of_eq g1.symm))
  have K1 : Keep h0 h1 [] := KR.ext E1
  have sz_b1 : h0.size ≤ b1 := Nat.le_trans KR.1 (Nat.le_of_eq g1.symm)
  have c2 : Arv Z h1 r0 k0 .char (2 : Int32) [(.int ch0), (.int ch1)] (.int 0) := V0.ext E1
  have V1 : Arv Z h1 b1 k1 .byte (2 : Int32) [(.int 0), (.int 0)] (.int 0) := (Arv.new A1 (by decide)).pad (pad_rep [] (.int 0) 2)
  obtain ⟨_, _, ⟨T3, L3, k3, n3⟩, -, X3, ⟨Lc3, hQ3, l3, y3, z3⟩, st3⟩ := Jvm.LawKit.callS X1 hx (y := mN14) hown (mvT hZ (tw hw 36 rfl)) (mvT hZ (tw hw 37 rfl)) (mvT hZ (tw hw 34 rfl)) (mvT hZ (tw hw 38 rfl)) (by decide) (backOf (W := 0) (rmc5_2_1 l Z a0 hw [] r0 b1 k0 k1 ch0 ch1 h1 n0 Z1 c2 V1 ne_r0_b1 g_b1 hs_0 hw_1) hZ (tw hw 38 rfl) (tw hw 34 rfl) (by decide) (by decide)) (g := (mkF m 9 #[vr r0, vi 0, vi 2, vr b1, .unset, .unset] [(.int 2), (.int 0), (.ref b1), (.int 0), (.ref r0)])) rfl (by rw [hml]; rfl) (argsL := [(.ref r0), (.int 0), (.ref b1), (.int 0), (.int 2)]) (rest := []) (lenOf pd_5 rfl) rfl (by show 2 * 0 + _ ≤ _; exact Nat.le_of_eq rfl) (hb hby d6_9) (fun _ _ => ⟨rfl, e1, (by decide : 1 + 0 ≤ _), (by decide : 2 + 0 ≤ _)⟩)
  dsimp only [Pt.U, Pt.locs, Pt.cells, Pt.slots] at X3 l3 y3 z3 st3 hQ3
  subst l3 y3 z3
  obtain ⟨rfl, Nq3, Kq3⟩ := hQ3
  have N3 := Fr.app N0 Nq3
  have Z3 : n0 ≤ T3.heap.size := Nat.le_trans Z1 Kq3.1
  have K3 : Keep h0 T3.heap [] := K1.trans Kq3 (fun x hx => by cases List.mem_singleton.mp hx; exact (Or.inr sz_b1))
  have c4 : Arv Z T3.heap r0 k0 .char (2 : Int32) [(.int ch0), (.int ch1)] (.int 0) := c2.keep Kq3 (fun q => ne_r0_b1 (List.mem_singleton.mp q))
  have hc5 : ¬ ((1 : Int32) = (2 : Int32)) := by decide
  obtain ⟨_, _, ⟨T6, L6, k6, n6⟩, -, X6, ⟨Lc6, hQ6, l6, y6, z6⟩, st6⟩ := Jvm.LawKit.callS X3 hx (y := mN11) hown (mvT hZ (tw hw 74 rfl)) (mvT hZ (tw hw 75 rfl)) (mvT hZ (tw hw 34 rfl)) (mvT hZ (tw hw 76 rfl)) (by decide) (backOf (W := 0) (rmtb_2 l Z a0 hw [] r0 k0 ch0 ch1 T3.heap n0 Z3 c4 (own_s0 OA K3) (own_s0 OH K3) (own_s0 OL K3)) hZ (tw hw 76 rfl) (tw hw 34 rfl) (by decide) (by decide)) (g := (mkF m 23 #[vr r0, vi 0, vi 2, vr b1, vi 1, .unset] [(.int 2), (.int 0), (.ref r0)])) rfl (by rw [hml]; rfl) (argsL := [(.ref r0), (.int 0), (.int 2)]) (rest := []) (lenOf pd_6 rfl) rfl (by show 2 * 0 + _ ≤ _; exact Nat.le_of_eq rfl) (hb hby d6_23) (fun _ _ => ⟨rfl, rfl, (by decide : 1 + 1 ≤ _), (by decide : 2 + 4 ≤ _)⟩)
  dsimp only [Pt.U, Pt.locs, Pt.cells, Pt.slots] at X6 l6 y6 z6 st6 hQ6
  subst l6 y6 z6
  obtain ⟨b6, kb6, rfl, Nq6, Kq6, sq6, Vq6⟩ := hQ6
  have N6 := Fr.app N3 Nq6
  have Z6 : n0 ≤ T6.heap.size := Nat.le_trans Z3 Kq6.1
  have ne_r0_b6 : r0 ≠ b6 := Nat.ne_of_lt (Nat.lt_of_lt_of_le c4.lt sq6)
  have g_b6 : n0 ≤ b6 := Nat.le_trans Z3 sq6
  have sz_b6 : h0.size ≤ b6 := Nat.le_trans K3.1 sq6
  have K6 : Keep h0 T6.heap [] := K3.trans Kq6 (fun x hx => by cases hx)
  have c7 : Arv Z T6.heap r0 k0 .char (2 : Int32) [(.int ch0), (.int ch1)] (.int 0) := c4.keep Kq6 (by simp)
  obtain ⟨_, _, ⟨T8, L8, k8, n8⟩, -, X8, ⟨Lc8, hQ8, l8, y8, z8⟩, st8⟩ := Jvm.LawKit.callS X6 hx (y := mN12) hown (mvT hZ (tw hw 90 rfl)) (mvT hZ (tw hw 91 rfl)) (mvT hZ (tw hw 34 rfl)) (mvT hZ (tw hw 92 rfl)) (by decide) (backOf (W := 0) (rmgc_2_1 l Z a0 hw [] b6 kb6 ch0 ch1 T6.heap n0 Z6 Vq6 hb_1 (own_s0 OA K6) (own_s0 OH K6) (own_s0 OL K6)) hZ (tw hw 92 rfl) (tw hw 34 rfl) (by decide) (by decide)) (g := (mkF m 32 #[vr r0, vi 0, vi 2, vr b1, vi 1, vr b6] [(.int 1), (.ref b6)])) rfl (by rw [hml]; rfl) (argsL := [(.ref b6), (.int 1)]) (rest := []) (lenOf pd_7 rfl) rfl (by show 2 * 0 + _ ≤ _; exact Nat.le_of_eq rfl) (hb hby d6_32) (fun _ _ => ⟨rfl, rfl, (by decide : 2 + 0 ≤ _), (by decide : 6 + 0 ≤ _)⟩)
  dsimp only [Pt.U, Pt.locs, Pt.cells, Pt.slots] at X8 l8 y8 z8 st8 hQ8
  subst l8 y8 z8
  obtain ⟨rfl, Nq8, e8⟩ := hQ8
  have N8 := Fr.app N6 Nq8
  have hc9 : (255 : Int32) < ch1 := hw_1
  have ohc9 : 255 < ch1.toInt := own_lt.mp hc9
  obtain ⟨fs, hr, hrun, hended, hW, hsame⟩ := X8.leave (v := some (.ref b6)) (fun h => by rw [Bd.returns] at h; cases h)
  refine ⟨_, _, pre0 _ ?_, hrun, hended, _, _, rfl, ?_, ⟨_, rfl⟩, hW, hsame.mono (by decide) (by decide)⟩
  · skip
    show SF p e below s₁ m 0 #[vr r0, vi 0, vi 2, .unset, .unset, .unset] [] _
    refine XS.iloadN X0.here hx rfl (hb hby d6_0) rfl ?_
    refine st1 _ ?_
    refine XS.astoreN X1.here hx rfl (hb hby d6_3) rfl rfl (l' := #[vr r0, vi 0, vi 2, vr b1, .unset, .unset]) rfl ?_
    refine XS.aloadN X1.here hx rfl (hb hby d6_4) rfl rfl ?_
    refine XS.iloadN X1.here hx rfl (hb hby d6_5) rfl ?_
    show SF p e below T1 m 6 #[vr r0, vi 0, vi 2, vr b1, .unset, .unset] [(.int 0), (.ref r0)] _
    refine XS.aloadN X1.here hx rfl (hb hby d6_6) rfl rfl ?_
    refine XS.iconst X1.here hx rfl (hb hby d6_7) ?_
    refine XS.iloadN X1.here hx rfl (hb hby d6_8) rfl ?_
    refine st3 _ ?_
    refine XS.istore X3.here hx rfl (hb hby d6_12) rfl (l' := #[vr r0, vi 0, vi 2, vr b1, vi 1, .unset]) rfl ?_
    show SF p e below T3 m 14 #[vr r0, vi 0, vi 2, vr b1, vi 1, .unset] [] _
    refine XS.iload X3.here hx rfl (hb hby d6_14) rfl ?_
    refine XS.iloadN X3.here hx rfl (hb hby d6_16) rfl ?_
    refine XS.icmpNo X3.here hx rfl (hb hby d6_17) rfl (feq hc5).1 ?_
    refine XS.aloadN X3.here hx rfl (hb hby d6_20) rfl rfl ?_
    refine XS.iloadN X3.here hx rfl (hb hby d6_21) rfl ?_
    show SF p e below T3 m 22 #[vr r0, vi 0, vi 2, vr b1, vi 1, .unset] [(.int 0), (.ref r0)] _
    refine XS.iloadN X3.here hx rfl (hb hby d6_22) rfl ?_
    refine st6 _ ?_
    refine XS.astore X6.here hx rfl (hb hby d6_26) rfl rfl (l' := #[vr r0, vi 0, vi 2, vr b1, vi 1, vr b6]) rfl ?_
    refine XS.aload X6.here hx rfl (hb hby d6_28) rfl rfl ?_
    refine XS.iload X6.here hx rfl (hb hby d6_30) rfl ?_
    show SF p e below T6 m 32 #[vr r0, vi 0, vi 2, vr b1, vi 1, vr b6] [(.int 1), (.ref b6)] _
    refine st8 _ ?_
    refine XS.sipush X8.here hx rfl (hb hby d6_35) ?_
    refine XS.icmpYes X8.here hx rfl (pc0 := 38) (pc' := 54) rfl (hb hby d6_38) rfl (tlt hc9).2.2.1 (by decide) (by decide) ?_
    refine XS.aload X8.here hx rfl (hb hby d6_54) rfl rfl ?_
    show SF p e below T8 m 56 #[vr r0, vi 0, vi 2, vr b1, vi 1, vr b6] [(.ref b6)] _
    jvm_step X8.here [X8.here.top, hx, (hb hby d6_56), X8.method', Bd.returns, Value.isRef, FieldType.isReference]
    first | (intro acts; rw [hr _ acts rfl rfl rfl]) | rw [hr _ _ rfl rfl rfl]
    exact Steps.refl _
  · show Qc3_2_1 Z r0 k0 ch0 ch1 h0 n0 _ T8.heap _
    rw [e8]
    exact ⟨b6, kb6, rfl, N8, K6, sz_b6, Vq6⟩
def Qc3_2 (Z : State) (r0 : Addr) (k0 : ClassId) (ch0 : Int32) (ch1 : Int32) (h0 : Heap) (n0 : Nat) (v : Option Value) (h : Heap) (L : List Loc) : Prop := ∃ (b : Addr) (kb : ClassId), v = some (.ref b) ∧ Fr n0 L ∧ Keep h0 h [] ∧ h0.size ≤ b ∧ Arv Z h b kb .byte (4 : Int32) [(.int (loB ch0)), (.int (hiB ch0)), (.int (loB ch1)), (.int (hiB ch1))] (.int 0)
theorem rmc3_2 (l : Launch) (Z : State) (a0 : Array Value) (hw : ∀ d ∈ tables_1, d.before a0 Z = true) (ws : List Jvm.Cond) (r0 : Addr) (k0 : ClassId) (ch0 : Int32) (ch1 : Int32) (h0 : Heap) (n0 : Nat) (Z0 : n0 ≤ h0.size) (V0 : Arv Z h0 r0 k0 .char (2 : Int32) [(.int ch0), (.int ch1)] (.int 0)) (hb_0 : 0 ≤ ch0.toInt ∧ ch0.toInt ≤ 65535) (hb_1 : 0 ≤ ch1.toInt ∧ ch1.toInt ≤ 65535) (hW : ((255 : Int32) < ch0) ∨ (¬ ((255 : Int32) < ch0) ∧ (255 : Int32) < ch1)) (OA : sA Z h0) (OH : sH Z h0) (OL : sL Z h0) :
    MF l Z mN15 jdk_52_method_16_code 6 (some (.array .byte)) ws (rK 3 2 6 40) #[(.ref r0), (.int 0), (.int 2)] h0 (Qc3_2 Z r0 k0 ch0 ch1 h0 n0) := by
  rcases hW with hw_0 | ⟨hs_0, hw_1⟩
  · exact rmc3_2_0 l Z a0 hw ws r0 k0 ch0 ch1 h0 n0 Z0 V0 hb_0 hw_0 OA OH OL
  · exact rmc3_2_1 l Z a0 hw ws r0 k0 ch0 ch1 h0 n0 Z0 V0 hb_1 hs_0 hw_1 OA OH OL
def Qi4_2 (Z : State) (r0 : Addr) (r1 : Addr) (k1 : ClassId) (ch0 : Int32) (ch1 : Int32) (G1 : Int32) (G3 : Value) (h0 : Heap) (n0 : Nat) (v : Option Value) (h : Heap) (L : List Loc) : Prop := v = none ∧ Fr n0 L ∧ Keep h0 h [r0] ∧ OW Z h r0 (4 : Int32) [(.int (loB ch0)), (.int (hiB ch0)), (.int (loB ch1)), (.int (hiB ch1))]
set_option maxRecDepth 65536 in
set_option maxHeartbeats 40000000 in
theorem rmi4_2 (l : Launch) (Z : State) (a0 : Array Value) (hw : ∀ d ∈ tables_1, d.before a0 Z = true) (ws : List Jvm.Cond) (r0 : Addr) (r1 : Addr) (k1 : ClassId) (ch0 : Int32) (ch1 : Int32) (G1 : Int32) (G3 : Value) (h0 : Heap) (n0 : Nat) (Z0 : n0 ≤ h0.size) (E_r0 : Exa Z h0 r0 "java/lang/String") (F_0 : Fld Z h0 r0 "java/lang/String" "value" "[B" .null) (F_1 : Fld Z h0 r0 "java/lang/String" "coder" "B" (.int 0)) (g_r0 : n0 ≤ r0) (V1 : Arv Z h0 r1 k1 .char (2 : Int32) [(.int ch0), (.int ch1)] (.int 0)) (hb_0 : 0 ≤ ch0.toInt ∧ ch0.toInt ≤ 65535) (hb_1 : 0 ≤ ch1.toInt ∧ ch1.toInt ≤ 65535) (hW : ((255 : Int32) < ch0) ∨ (¬ ((255 : Int32) < ch0) ∧ (255 : Int32) < ch1)) (O2 : sC Z h0 G1) (P5 : ¬ (G1 = (0 : Int32))) (O4 : sI Z h0 G3) (rG3 : G3.isRef = true) (OA : sA Z h0) (OH : sH Z h0) (OL : sL Z h0) :
    MF l Z mN6 jdk_42_method_149_code 6 none ws (rK 4 2 6 57) #[(.ref r0), (.ref r1), (.int 0), (.int 2), .null] h0 (Qi4_2 Z r0 r1 k1 ch0 ch1 G1 G3 h0 n0) := by
  refine MetFree.of_bodySF (plainFor_of_name pn_java_lang_String) hisR ?_
  intro p e s m args below meth c s₁ Bd hml0 hP hK
  obtain ⟨rfl, hZ, hh⟩ := hP
  have hx := Bd.exec
  have hby := Bd.bytes
  have hml : c.maxLocals = 6 := hml0
  have hown : s.vm.findClass "java/lang/String" = some m.cls := findClass_of_methodNamed Bd.named
  have hnm := (name_of_methodNamed Bd.named Bd.method).1
  have X0 : Stand p l e (rK 4 2 6 57) s m #[(.ref r0), (.ref r1), (.int 0), (.int 2), .null] below meth c s₁ [] 0 0 := Stand.of_body Bd
  have e0 : s₁.heap = h0 := by rw [← hh, Bd.state]; rfl
  have N0 := Fr.nil n0
  have pre0 : ∀ t, SF p e below s₁ m 0 #[vr r0, vr r1, vi 0, vi 2, .val .null, .unset] [] t → Steps p.tables e below (s₁.setTop (entryFrame m #[(.ref r0), (.ref r1), (.int 0), (.int 2), .null] 6)) t := fun t k => castTop (ef_2_vvvvn m r0 r1 (0 : Int32) (2 : Int32)) k
  have KR : Keep h0 h0 [r0] := Keep.refl _ _
  obtain ⟨T1, X1, e1, st1⟩ := initO X0 hx hZ hown (tw hw 11 rfl) (tw hw 12 rfl) (tw hw 13 rfl) e0 (g := (mkF m 1 #[vr r0, vr r1, vi 0, vi 2, .val .null, .unset] [(.ref r0)])) rfl (by rw [hml]; rfl) rfl (hb hby d2_1) (by decide) (W := 0) (by show 2 * 0 + _ ≤ _; exact Nat.le_of_eq rfl) (by decide)
  have hc2 : ¬ ((2 : Int32) = (0 : Int32)) := by decide
  obtain ⟨T3, X3, e3, st3⟩ := getS2 X1 hx hZ hown (host := "") (Or.inl (tw hw 31 rfl)) Via.refl e1 O2 (g := (mkF m 27 #[vr r0, vr r1, vi 0, vi 2, .val .null, .unset] [])) rfl (hb hby d2_27)
  have hc4 : ¬ (G1 = (0 : Int32)) := P5
  have ohc4 : ¬ (G1.toInt = 0) := own_neq.mp hc4
  obtain ⟨_, _, ⟨T5, L5, k5, n5⟩, -, X5, ⟨Lc5, hQ5, l5, y5, z5⟩, st5⟩ := Jvm.LawKit.callS X3 hx (y := mN15) hown (mvT hZ (tw hw 32 rfl)) (mvT hZ (tw hw 33 rfl)) (mvT hZ (tw hw 34 rfl)) (mvT hZ (tw hw 35 rfl)) (by decide) (backOf (W := 0) (rmc3_2 l Z a0 hw [] r1 k1 ch0 ch1 h0 n0 Z0 V1 hb_0 hb_1 hW OA OH OL) hZ (tw hw 35 rfl) (tw hw 34 rfl) (by decide) (by decide)) (g := (mkF m 36 #[vr r0, vr r1, vi 0, vi 2, .val .null, .unset] [(.int 2), (.int 0), (.ref r1)])) rfl (by rw [hml]; rfl) (argsL := [(.ref r1), (.int 0), (.int 2)]) (rest := []) (lenOf pd_6 rfl) rfl (by show 2 * 0 + _ ≤ _; exact Nat.le_of_eq rfl) (hb hby d2_36) (fun _ _ => ⟨rfl, e3, (by decide : 0 + 2 ≤ _), (by decide : 0 + 6 ≤ _)⟩)
  dsimp only [Pt.U, Pt.locs, Pt.cells, Pt.slots] at X5 l5 y5 z5 st5 hQ5
  subst l5 y5 z5
  obtain ⟨b5, kb5, rfl, Nq5, Kq5, sq5, Vq5⟩ := hQ5
  have N5 := Fr.app N0 Nq5
  have Z5 : n0 ≤ T5.heap.size := Nat.le_trans Z0 Kq5.1
  have ne_r0_b5 : r0 ≠ b5 := Nat.ne_of_lt (Nat.lt_of_lt_of_le E_r0.lt sq5)
  have ne_r1_b5 : r1 ≠ b5 := Nat.ne_of_lt (Nat.lt_of_lt_of_le V1.lt sq5)
  have g_b5 : n0 ≤ b5 := Nat.le_trans Z0 sq5
  have sz_b5 : h0.size ≤ b5 := Nat.le_trans KR.1 sq5
  have K5 : Keep h0 T5.heap [r0] := KR.trans Kq5 (fun x hx => by cases hx)
  have c6 : sC Z T5.heap G1 := own_s0 O2 Kq5
  have c7 : sI Z T5.heap G3 := own_s0 O4 Kq5
  have c8 : sA Z T5.heap := own_s0 OA Kq5
  have c9 : sH Z T5.heap := own_s0 OH Kq5
  have c10 : sL Z T5.heap := own_s0 OL Kq5
  have c11 : Exa Z T5.heap r0 "java/lang/String" := E_r0.keep Kq5
  have c12 : Fld Z T5.heap r0 "java/lang/String" "value" "[B" .null := F_0.keep Kq5 (by simp)
  have c13 : Fld Z T5.heap r0 "java/lang/String" "coder" "B" (.int 0) := F_1.keep Kq5 (by simp)
  have c14 : Arv Z T5.heap r1 k1 .char (2 : Int32) [(.int ch0), (.int ch1)] (.int 0) := V1.keep Kq5 (by simp)
  obtain ⟨_, _, ⟨T15, L15, k15, n15⟩, -, X15, ⟨Lc15, hQ15, l15, y15, z15⟩, st15⟩ := Jvm.LawKit.callS X5 hx (y := mN13) hown (mvT hZ (tw hw 39 rfl)) (mvT hZ (tw hw 40 rfl)) (mvT hZ (tw hw 34 rfl)) (mvT hZ (tw hw 41 rfl)) (by decide) (backOf (W := 1) (rmcal_2 l Z a0 hw [] b5 kb5 (loB ch0) (hiB ch0) (loB ch1) (hiB ch1) T5.heap n0 Z5 Vq5) hZ (tw hw 41 rfl) (tw hw 34 rfl) (by decide) (by decide)) (g := (mkF m 45 #[vr r0, vr r1, vi 0, vi 2, .val .null, vr b5] [(.int 2), (.ref b5), (.ref r0)])) rfl (by rw [hml]; rfl) (argsL := [(.ref b5), (.int 2)]) (rest := [(.ref r0)]) (lenOf pd_8 rfl) rfl (by show 2 * 0 + _ ≤ _; exact Nat.le_of_eq rfl) (hb hby d2_45) (fun _ _ => ⟨rfl, rfl, (by decide : 2 + 0 ≤ _), (by decide : 6 + 0 ≤ _)⟩)
  dsimp only [Pt.U, Pt.locs, Pt.cells, Pt.slots] at X15 l15 y15 z15 st15 hQ15
  subst l15 y15 z15
  obtain ⟨rfl, Nq15, e15⟩ := hQ15
  have N15 := Fr.app N5 Nq15
  obtain ⟨T16, h16, X16, e16, W16, st16⟩ := putFN X15 hx hZ hown (tw hw 21 rfl) Via.refl e15 c13 c11 (Or.inr ⟨(tw hw 17 rfl), rfl, hnm⟩) (tw hw 2 rfl) (ty := .byte) (v' := (.int 1)) (by decide) rfl (by decide) (g := (mkF m 48 #[vr r0, vr r1, vi 0, vi 2, .val .null, vr b5] [(.int 1), (.ref r0)])) rfl rfl (hb hby d2_48)
  have Fw16 : Fld Z h16 r0 "java/lang/String" "coder" "B" (.int 1) := c13.same W16
  have N16 := Fr.snoc X16 N15 g_r0
  have Z16 : n0 ≤ h16.size := Nat.le_trans Z5 (Keep.of_wr W16).1
  have K16 : Keep h0 h16 [r0] := K5.wr W16 (Or.inl (List.mem_of_getElem? (i := 0) rfl))
  have c17 : sC Z h16 G1 := c6.wr W16
  have c18 : sI Z h16 G3 := c7.wr W16
  have c19 : sA Z h16 := c8.wr W16
  have c20 : sH Z h16 := c9.wr W16
  have c21 : sL Z h16 := c10.wr W16
  have c22 : Exa Z h16 r0 "java/lang/String" := c11.wr W16
  have c23 : Fld Z h16 r0 "java/lang/String" "value" "[B" .null := c12.other W16 (Or.inr (slot_ne (Or.inr (tw hw 16 rfl)) (Or.inr (tw hw 17 rfl)) (by decide) (t := (.array .byte)) (t' := .byte) (by decide) (by decide)))
  have c24 : Arv Z h16 b5 kb5 .byte (4 : Int32) [(.int (loB ch0)), (.int (hiB ch0)), (.int (loB ch1)), (.int (hiB ch1))] (.int 0) := Vq5.other W16 (Ne.symm ne_r0_b5)
  obtain ⟨T25, h25, X25, e25, W25, st25⟩ := putF X16 hx hZ hown (host := "") (Or.inl (tw hw 20 rfl)) Via.refl e16 c23 c22 (Or.inr ⟨(tw hw 16 rfl), rfl, hnm⟩) (tw hw 2 rfl) (ty := (.array .byte)) (by decide) rfl rfl (g := (mkF m 54 #[vr r0, vr r1, vi 0, vi 2, .val .null, vr b5] [(.ref b5), (.ref r0)])) rfl rfl (hb hby d2_54)
  have Fw25 : Fld Z h25 r0 "java/lang/String" "value" "[B" (.ref b5) := c23.same W25
  have N25 := Fr.snoc X25 N16 g_r0
  have Z25 : n0 ≤ h25.size := Nat.le_trans Z16 (Keep.of_wr W25).1
  have K25 : Keep h0 h25 [r0] := K16.wr W25 (Or.inl (List.mem_of_getElem? (i := 0) rfl))
  have c26 : sC Z h25 G1 := c17.wr W25
  have c27 : sI Z h25 G3 := c18.wr W25
  have c28 : sA Z h25 := c19.wr W25
  have c29 : sH Z h25 := c20.wr W25
  have c30 : sL Z h25 := c21.wr W25
  have c31 : Exa Z h25 r0 "java/lang/String" := c22.wr W25
  have c32 : Fld Z h25 r0 "java/lang/String" "coder" "B" (.int 1) := Fw16.other W25 (Or.inr (slot_ne (Or.inr (tw hw 17 rfl)) (Or.inr (tw hw 16 rfl)) (by decide) (t := .byte) (t' := (.array .byte)) (by decide) (by decide)))
  have c33 : Arv Z h25 b5 kb5 .byte (4 : Int32) [(.int (loB ch0)), (.int (hiB ch0)), (.int (loB ch1)), (.int (hiB ch1))] (.int 0) := c24.other W25 (Ne.symm ne_r0_b5)
  obtain ⟨fs, hr, hrun, hended, hW, hsame⟩ := X25.leave (v := none) (fun _ => rfl)
  refine ⟨_, _, pre0 _ ?_, hrun, hended, _, _, rfl, ?_, ⟨_, rfl⟩, hW, hsame.mono (by decide) (by decide)⟩
  · skip
    show SF p e below s₁ m 0 #[vr r0, vr r1, vi 0, vi 2, .val .null, .unset] [] _
    refine XS.aloadN X0.here hx rfl (hb hby d2_0) rfl rfl ?_
    refine st1 _ ?_
    refine XS.iloadN X1.here hx rfl (hb hby d2_4) rfl ?_
    refine XS.ifYes X1.here hx rfl (pc0 := 5) (pc' := 27) rfl (hb hby d2_5) rfl ((if0 _ _).trans (feq hc2).2) (by decide) (by decide) ?_
    refine st3 _ ?_
    show SF p e below T3 m 30 #[vr r0, vr r1, vi 0, vi 2, .val .null, .unset] [(.int G1)] _
    refine XS.ifNo X3.here hx rfl (hb hby d2_30) rfl ((if0 _ _).trans (feq hc4).1) ?_
    refine XS.aloadN X3.here hx rfl (hb hby d2_33) rfl rfl ?_
    refine XS.iloadN X3.here hx rfl (hb hby d2_34) rfl ?_
    refine XS.iloadN X3.here hx rfl (hb hby d2_35) rfl ?_
    refine st5 _ ?_
    show SF p e below T5 m 39 #[vr r0, vr r1, vi 0, vi 2, .val .null, .unset] [(.ref b5)] _
    refine XS.astore X5.here hx rfl (hb hby d2_39) rfl rfl (l' := #[vr r0, vr r1, vi 0, vi 2, .val .null, vr b5]) rfl ?_
    refine XS.aloadN X5.here hx rfl (hb hby d2_41) rfl rfl ?_
    refine XS.aload X5.here hx rfl (hb hby d2_42) rfl rfl ?_
    refine XS.iloadN X5.here hx rfl (hb hby d2_44) rfl ?_
    refine st15 _ ?_
    show SF p e below T15 m 48 #[vr r0, vr r1, vi 0, vi 2, .val .null, vr b5] [(.int 1), (.ref r0)] _
    refine st16 _ ?_
    refine XS.aloadN X16.here hx rfl (hb hby d2_51) rfl rfl ?_
    refine XS.aload X16.here hx rfl (hb hby d2_52) rfl rfl ?_
    refine st25 _ ?_
    show SF p e below T25 m 57 #[vr r0, vr r1, vi 0, vi 2, .val .null, vr b5] [] _
    exact X25.returnOut hx Bd.returns (hb hby d2_57) hr
  · show Qi4_2 Z r0 r1 k1 ch0 ch1 G1 G3 h0 n0 _ T25.heap _
    rw [e25]
    exact ⟨rfl, N25, K25, b5, kb5, c31, Fw25, c32, c33⟩
def Qi2_2 (Z : State) (r0 : Addr) (r1 : Addr) (k1 : ClassId) (ch0 : Int32) (ch1 : Int32) (G1 : Int32) (G3 : Value) (h0 : Heap) (n0 : Nat) (v : Option Value) (h : Heap) (L : List Loc) : Prop := v = none ∧ Fr n0 L ∧ Keep h0 h [r0] ∧ OW Z h r0 (4 : Int32) [(.int (loB ch0)), (.int (hiB ch0)), (.int (loB ch1)), (.int (hiB ch1))]
set_option maxRecDepth 65536 in
set_option maxHeartbeats 40000000 in
theorem rmi2_2 (l : Launch) (Z : State) (a0 : Array Value) (hw : ∀ d ∈ tables_1, d.before a0 Z = true) (ws : List Jvm.Cond) (r0 : Addr) (r1 : Addr) (k1 : ClassId) (ch0 : Int32) (ch1 : Int32) (G1 : Int32) (G3 : Value) (h0 : Heap) (n0 : Nat) (Z0 : n0 ≤ h0.size) (E_r0 : Exa Z h0 r0 "java/lang/String") (F_0 : Fld Z h0 r0 "java/lang/String" "value" "[B" .null) (F_1 : Fld Z h0 r0 "java/lang/String" "coder" "B" (.int 0)) (g_r0 : n0 ≤ r0) (V1 : Arv Z h0 r1 k1 .char (2 : Int32) [(.int ch0), (.int ch1)] (.int 0)) (hb_0 : 0 ≤ ch0.toInt ∧ ch0.toInt ≤ 65535) (hb_1 : 0 ≤ ch1.toInt ∧ ch1.toInt ≤ 65535) (hW : ((255 : Int32) < ch0) ∨ (¬ ((255 : Int32) < ch0) ∧ (255 : Int32) < ch1)) (O2 : sC Z h0 G1) (P5 : ¬ (G1 = (0 : Int32))) (O4 : sI Z h0 G3) (rG3 : G3.isRef = true) (OA : sA Z h0) (OH : sH Z h0) (OL : sL Z h0) :
    MF l Z mN7 jdk_42_method_3_code 2 none ws (rK 5 2 6 74) #[(.ref r0), (.ref r1)] h0 (Qi2_2 Z r0 r1 k1 ch0 ch1 G1 G3 h0 n0) := by
  refine MetFree.of_bodySF (plainFor_of_name pn_java_lang_String) hisR ?_
  intro p e s m args below meth c s₁ Bd hml0 hP hK
  obtain ⟨rfl, hZ, hh⟩ := hP
  have hx := Bd.exec
  have hby := Bd.bytes
  have hml : c.maxLocals = 2 := hml0
  have hown : s.vm.findClass "java/lang/String" = some m.cls := findClass_of_methodNamed Bd.named
  have hnm := (name_of_methodNamed Bd.named Bd.method).1
  have X0 : Stand p l e (rK 5 2 6 74) s m #[(.ref r0), (.ref r1)] below meth c s₁ [] 0 0 := Stand.of_body Bd
  have e0 : s₁.heap = h0 := by rw [← hh, Bd.state]; rfl
  have N0 := Fr.nil n0
  have pre0 : ∀ t, SF p e below s₁ m 0 #[vr r0, vr r1] [] t → Steps p.tables e below (s₁.setTop (entryFrame m #[(.ref r0), (.ref r1)] 2)) t := fun t k => castTop (ef_1 m r0 r1) k
  have KR : Keep h0 h0 [r0] := Keep.refl _ _
  obtain ⟨cl1, Ar1, -, Sz1, Nn1, -, -⟩ := id V1
  obtain ⟨_, _, ⟨T2, L2, k2, n2⟩, -, X2, ⟨Lc2, hQ2, l2, y2, z2⟩, st2⟩ := X0.specialBack hx (y := mN6) rfl hown (mvT hZ (tw hw 7 rfl)) (mvT hZ (tw hw 8 rfl)) (mvT hZ (tw hw 10 rfl)) (by decide) (backOf (W := 0) (rmi4_2 l Z a0 hw [] r0 r1 k1 ch0 ch1 G1 G3 h0 n0 Z0 E_r0 F_0 F_1 g_r0 V1 hb_0 hb_1 hW O2 P5 O4 rG3 OA OH OL) hZ (tw hw 10 rfl) (tw hw 3 rfl) (by decide) (by decide)) (g := (mkF m 6 #[vr r0, vr r1] [.null, (.int 2), (.int 0), (.ref r1), (.ref r0)])) rfl (by rw [hml]; rfl) (Steps.refl _) (a := r0) (argsL := [(.ref r1), (.int 0), (.int 2), .null]) (rest := []) (lenOf pd_1 rfl) rfl (by show 2 * 0 + _ ≤ _; exact Nat.le_of_eq rfl) (hb hby d1_6) (fun _ _ => ⟨rfl, e0, (by decide : 0 + 2 ≤ _), (by decide : 0 + 6 ≤ _)⟩)
  dsimp only [Pt.U, Pt.locs, Pt.cells, Pt.slots] at X2 l2 y2 z2 st2 hQ2
  subst l2 y2 z2
  obtain ⟨rfl, Nq2, Kq2, Sq2⟩ := hQ2
  have N2 := Fr.app N0 Nq2
  have Z2 : n0 ≤ T2.heap.size := Nat.le_trans Z0 Kq2.1
  have K2 : Keep h0 T2.heap [r0] := KR.trans Kq2 (fun x hx => by cases List.mem_singleton.mp hx; exact (Or.inl (List.mem_of_getElem? (i := 0) rfl)))
  have c3 : sC Z T2.heap G1 := own_sk O2 Kq2 E_r0
  have c4 : sI Z T2.heap G3 := own_sk O4 Kq2 E_r0
  have c5 : sA Z T2.heap := own_sk OA Kq2 E_r0
  have c6 : sH Z T2.heap := own_sk OH Kq2 E_r0
  have c7 : sL Z T2.heap := own_sk OL Kq2 E_r0
  obtain ⟨fs, hr, hrun, hended, hW, hsame⟩ := X2.leave (v := none) (fun _ => rfl)
  refine ⟨_, _, pre0 _ ?_, hrun, hended, _, _, rfl, ?_, ⟨_, rfl⟩, hW, hsame.mono (by decide) (by decide)⟩
  · skip
    show SF p e below s₁ m 0 #[vr r0, vr r1] [] _
    refine XS.aloadN X0.here hx rfl (hb hby d1_0) rfl rfl ?_
    refine XS.aloadN X0.here hx rfl (hb hby d1_1) rfl rfl ?_
    refine XS.iconst X0.here hx rfl (hb hby d1_2) ?_
    refine XS.aloadN X0.here hx rfl (hb hby d1_3) rfl rfl ?_
    refine X0.arraylength hx (by rw [e0]; exact Ar1.1) (State.isArrayOf_alike hZ.alike Ar1.2.1) (g := (mkF m 4 #[vr r0, vr r1] [(.ref r1), (.int 0), (.ref r1), (.ref r0)])) rfl rfl (hb hby d1_4) _ ?_
    rw [len_of Sz1 Nn1]
    show SF p e below s₁ m 5 #[vr r0, vr r1] [(.int 2), (.int 0), (.ref r1), (.ref r0)] _
    refine XS.aconstNull X0.here hx rfl (hb hby d1_5) ?_
    refine st2.trans ?_
    show SF p e below T2 m 9 #[vr r0, vr r1] [] _
    exact X2.returnOut hx Bd.returns (hb hby d1_9) hr
  · show Qi2_2 Z r0 r1 k1 ch0 ch1 G1 G3 h0 n0 _ T2.heap _
    exact ⟨rfl, N2, K2, Sq2⟩
def Qnbl_3 (Z : State)  (h0 : Heap) (n0 : Nat) (v : Option Value) (h : Heap) (L : List Loc) : Prop := v = some (.int 6) ∧ Fr n0 L ∧ h = h0
set_option maxRecDepth 65536 in
set_option maxHeartbeats 40000000 in
theorem rmnbl_3 (l : Launch) (Z : State) (a0 : Array Value) (hw : ∀ d ∈ tables_1, d.before a0 Z = true) (ws : List Jvm.Cond)  (h0 : Heap) (n0 : Nat) (Z0 : n0 ≤ h0.size) :
    MF l Z mN8 jdk_52_method_3_code 1 (some .int) ws (rK 0 0 0 0) #[(.int 3)] h0 (Qnbl_3 Z  h0 n0) := by
  refine MetFree.of_bodySF (plainFor_of_name pn_java_lang_StringUTF16) hisR ?_
  intro p e s m args below meth c s₁ Bd hml0 hP hK
  obtain ⟨rfl, hZ, hh⟩ := hP
  have hx := Bd.exec
  have hby := Bd.bytes
  have hml : c.maxLocals = 1 := hml0
  have hown : s.vm.findClass "java/lang/StringUTF16" = some m.cls := findClass_of_methodNamed Bd.named
  have hnm := (name_of_methodNamed Bd.named Bd.method).1
  have X0 : Stand p l e (rK 0 0 0 0) s m #[(.int 3)] below meth c s₁ [] 0 0 := Stand.of_body Bd
  have e0 : s₁.heap = h0 := by rw [← hh, Bd.state]; rfl
  have N0 := Fr.nil n0
  have pre0 : ∀ t, SF p e below s₁ m 0 #[vi 3] [] t → Steps p.tables e below (s₁.setTop (entryFrame m #[(.int 3)] 1)) t := fun t k => castTop (ef_19 m (3 : Int32)) k
  have hc1 : ¬ ((3 : Int32) < (0 : Int32)) := by decide
  have hc2 : (3 : Int32) < (1073741823 : Int32) := by decide
  obtain ⟨fs, hr, hrun, hended, hW, hsame⟩ := X0.leave (v := some (.int 6)) (fun h => by rw [Bd.returns] at h; cases h)
  refine ⟨_, _, pre0 _ ?_, hrun, hended, _, _, rfl, ?_, ⟨_, rfl⟩, hW, hsame.mono (by decide) (by decide)⟩
  · skip
    show SF p e below s₁ m 0 #[vi 3] [] _
    refine XS.iloadN X0.here hx rfl (hb hby d19_0) rfl ?_
    refine XS.ifYes X0.here hx rfl (pc0 := 1) (pc' := 12) rfl (hb hby d19_1) rfl ((if0 _ _).trans (flt hc1).2.1) (by decide) (by decide) ?_
    refine XS.iloadN X0.here hx rfl (hb hby d19_12) rfl ?_
    refine X0.ldcInt hx hown (mvT hZ (tw hw 83 rfl)) (g := (mkF m 13 #[vi 3] [(.int 3)])) rfl (hb hby d19_13) _ ?_
    refine XS.icmpYes X0.here hx rfl (pc0 := 15) (pc' := 55) rfl (hb hby d19_15) rfl (tlt hc2).1 (by decide) (by decide) ?_
    show SF p e below s₁ m 55 #[vi 3] [] _
    refine XS.iloadN X0.here hx rfl (hb hby d19_55) rfl ?_
    refine XS.iconst X0.here hx rfl (hb hby d19_56) ?_
    refine XS.ishl X0.here hx rfl (hb hby d19_57) rfl ?_
    show SF p e below s₁ m 58 #[vi 3] [(.int 6)] _
    exact retI X0 hx Bd.returns (hb hby d19_58) hr
  · show Qnbl_3 Z  h0 n0 _ s₁.heap _
    rw [e0]
    exact ⟨rfl, N0, rfl⟩
def Qnbf_3 (Z : State)  (h0 : Heap) (n0 : Nat) (v : Option Value) (h : Heap) (L : List Loc) : Prop := ∃ (b : Addr) (kb : ClassId), v = some (.ref b) ∧ Fr n0 L ∧ Keep h0 h [] ∧ h0.size ≤ b ∧ Arv Z h b kb .byte (6 : Int32) [(.int 0), (.int 0), (.int 0), (.int 0), (.int 0), (.int 0)] (.int 0)
set_option maxRecDepth 65536 in
set_option maxHeartbeats 40000000 in
theorem rmnbf_3 (l : Launch) (Z : State) (a0 : Array Value) (hw : ∀ d ∈ tables_1, d.before a0 Z = true) (ws : List Jvm.Cond)  (h0 : Heap) (n0 : Nat) (Z0 : n0 ≤ h0.size) :
    MF l Z mN9 jdk_52_method_2_code 1 (some (.array .byte)) ws (rK 1 1 6 12) #[(.int 3)] h0 (Qnbf_3 Z  h0 n0) := by
  refine MetFree.of_bodySF (plainFor_of_name pn_java_lang_StringUTF16) hisR ?_
  intro p e s m args below meth c s₁ Bd hml0 hP hK
  obtain ⟨rfl, hZ, hh⟩ := hP
  have hx := Bd.exec
  have hby := Bd.bytes
  have hml : c.maxLocals = 1 := hml0
  have hown : s.vm.findClass "java/lang/StringUTF16" = some m.cls := findClass_of_methodNamed Bd.named
  have hnm := (name_of_methodNamed Bd.named Bd.method).1
  have X0 : Stand p l e (rK 1 1 6 12) s m #[(.int 3)] below meth c s₁ [] 0 0 := Stand.of_body Bd
  have e0 : s₁.heap = h0 := by rw [← hh, Bd.state]; rfl
  have N0 := Fr.nil n0
  have pre0 : ∀ t, SF p e below s₁ m 0 #[vi 3] [] t → Steps p.tables e below (s₁.setTop (entryFrame m #[(.int 3)] 1)) t := fun t k => castTop (ef_18 m (3 : Int32)) k
  have KR : Keep h0 h0 [] := Keep.refl _ _
  obtain ⟨_, _, ⟨T1, L1, k1, n1⟩, -, X1, ⟨Lc1, hQ1, l1, y1, z1⟩, st1⟩ := Jvm.LawKit.callS X0 hx (y := mN8) hown (mvT hZ (tw hw 80 rfl)) (mvT hZ (tw hw 81 rfl)) (mvT hZ (tw hw 34 rfl)) (mvT hZ (tw hw 82 rfl)) (by decide) (backOf (W := 0) (rmnbl_3 l Z a0 hw []  h0 n0 Z0 ) hZ (tw hw 82 rfl) (tw hw 34 rfl) (by decide) (by decide)) (g := (mkF m 1 #[vi 3] [(.int 3)])) rfl (by rw [hml]; rfl) (argsL := [(.int 3)]) (rest := []) (lenOf pd_2 rfl) rfl (by show 2 * 0 + _ ≤ _; exact Nat.le_of_eq rfl) (hb hby d18_1) (fun _ _ => ⟨rfl, e0, (by decide : 0 + 0 ≤ _), (by decide : 0 + 0 ≤ _)⟩)
  dsimp only [Pt.U, Pt.locs, Pt.cells, Pt.slots] at X1 l1 y1 z1 st1 hQ1
  subst l1 y1 z1
  obtain ⟨rfl, Nq1, e1⟩ := hQ1
  have N1 := Fr.app N0 Nq1
  obtain ⟨T2, h2, k2, X2, e2, E2, A2, st2⟩ := newP X1 hx hZ (tw hw 15 rfl) e1 (g := (mkF m 4 #[vi 3] [(.int 6)])) rfl (hb hby d18_4) rfl (by decide) (cap := 6) (by decide) (by decide) (by decide) (by decide)
  obtain ⟨b2, g2⟩ : ∃ z, z = h0.size := ⟨_, rfl⟩
  rw [← g2] at A2 st2
  have g_b2 : n0 ≤ b2 := Nat.le_trans Z0 (Nat.le_of_eq g2.symm)
  have Z2 : n0 ≤ h2.size := Nat.le_trans Z0 E2.1
  have K2 : Keep h0 h2 [] := KR.ext E2
  have sz_b2 : h0.size ≤ b2 := Nat.le_trans KR.1 (Nat.le_of_eq g2.symm)
  have V2 : Arv Z h2 b2 k2 .byte (6 : Int32) [(.int 0), (.int 0), (.int 0), (.int 0), (.int 0), (.int 0)] (.int 0) := (Arv.new A2 (by decide)).pad (pad_rep [] (.int 0) 6)
  obtain ⟨fs, hr, hrun, hended, hW, hsame⟩ := X2.leave (v := some (.ref b2)) (fun h => by rw [Bd.returns] at h; cases h)
  refine ⟨_, _, pre0 _ ?_, hrun, hended, _, _, rfl, ?_, ⟨_, rfl⟩, hW, hsame.mono (by decide) (by decide)⟩
  · skip
    show SF p e below s₁ m 0 #[vi 3] [] _
    refine XS.iloadN X0.here hx rfl (hb hby d18_0) rfl ?_
    refine st1 _ ?_
    refine st2 _ ?_
    show SF p e below T2 m 6 #[vi 3] [(.ref b2)] _
    jvm_step X2.here [X2.here.top, hx, (hb hby d18_6), X2.method', Bd.returns, Value.isRef, FieldType.isReference]
    first | (intro acts; rw [hr _ acts rfl rfl rfl]) | rw [hr _ _ rfl rfl rfl]
    exact Steps.refl _
  · show Qnbf_3 Z  h0 n0 _ T2.heap _
    rw [e2]
    exact ⟨b2, k2, rfl, N1, K2, sz_b2, V2⟩
def Qpc_3_0 (Z : State) (r0 : Addr) (p2 : Int32) (k0 : ClassId) (v0 : Int32) (v1 : Int32) (v2 : Int32) (v3 : Int32) (v4 : Int32) (v5 : Int32) (h0 : Heap) (n0 : Nat) (v : Option Value) (h : Heap) (L : List Loc) : Prop := v = none ∧ Fr n0 L ∧ Keep h0 h [r0] ∧ Arv Z h r0 k0 .byte (6 : Int32) [(.int (loB p2)), (.int (hiB p2)), (.int v2), (.int v3), (.int v4), (.int v5)] (.int 0)
set_option maxRecDepth 65536 in
set_option maxHeartbeats 40000000 in
theorem rmpc_3_0 (l : Launch) (Z : State) (a0 : Array Value) (hw : ∀ d ∈ tables_1, d.before a0 Z = true) (ws : List Jvm.Cond) (r0 : Addr) (p2 : Int32) (k0 : ClassId) (v0 : Int32) (v1 : Int32) (v2 : Int32) (v3 : Int32) (v4 : Int32) (v5 : Int32) (h0 : Heap) (n0 : Nat) (Z0 : n0 ≤ h0.size) (V0 : Arv Z h0 r0 k0 .byte (6 : Int32) [(.int v0), (.int v1), (.int v2), (.int v3), (.int v4), (.int v5)] (.int 0)) (g_r0 : n0 ≤ r0) (OA : sA Z h0) (OH : sH Z h0) (OL : sL Z h0) :
    MF l Z mN10 jdk_52_method_4_code 3 none ws (rK 0 0 0 0) #[(.ref r0), (.int 0), (.int p2)] h0 (Qpc_3_0 Z r0 p2 k0 v0 v1 v2 v3 v4 v5 h0 n0) := by
  refine MetFree.of_bodySF (plainFor_of_name pn_java_lang_StringUTF16) hisR ?_
  intro p e s m args below meth c s₁ Bd hml0 hP hK
  obtain ⟨rfl, hZ, hh⟩ := hP
  have hx := Bd.exec
  have hby := Bd.bytes
  have hml : c.maxLocals = 3 := hml0
  have hown : s.vm.findClass "java/lang/StringUTF16" = some m.cls := findClass_of_methodNamed Bd.named
  have hnm := (name_of_methodNamed Bd.named Bd.method).1
  have X0 : Stand p l e (rK 0 0 0 0) s m #[(.ref r0), (.int 0), (.int p2)] below meth c s₁ [] 0 0 := Stand.of_body Bd
  have e0 : s₁.heap = h0 := by rw [← hh, Bd.state]; rfl
  have N0 := Fr.nil n0
  have pre0 : ∀ t, SF p e below s₁ m 0 #[vr r0, vi 0, vi p2] [] t → Steps p.tables e below (s₁.setTop (entryFrame m #[(.ref r0), (.int 0), (.int p2)] 3)) t := fun t k => castTop (ef_20 m r0 (0 : Int32) p2) k
  have KR : Keep h0 h0 [r0] := Keep.refl _ _
  obtain ⟨T1, X1, e1, st1⟩ := getS2 X0 hx hZ hown (host := "") (Or.inl (tw hw 87 rfl)) Via.refl e0 OA (g := (mkF m 0 #[vr r0, vi 0, vi p2] [])) rfl (hb hby d20_0)
  have hc2 : ¬ ((1 : Int32) = (0 : Int32)) := by decide
  obtain ⟨T3, X3, e3, st3⟩ := getS2 X1 hx hZ hown (host := "") (Or.inl (tw hw 88 rfl)) Via.refl e1 OH (g := (mkF m 38 #[vr r0, vi 1, vi p2] [(.int p2), (.int 0), (.ref r0)])) rfl (hb hby d20_38)
  obtain ⟨cl4, Ar4, q4, Sz4, Nn4, Hh4, Gg4⟩ := id V0
  have hin4 : ¬ ((0 : Int32) < 0 ∨ cl4.slots.size ≤ ((0 : Int32)).toNatClampNeg) := inb_of Sz4 ⟨by decide, by decide⟩
  obtain ⟨T5, h5, X5, e5, W5, st5⟩ := stB X3 hx hZ e3 Ar4 (j := (0 : Int32)) hin4 (g := (mkF m 43 #[vr r0, vi 1, vi p2] [(.int ((p2 >>> ((0 : Int32) &&& 31)).toInt8.toInt32)), (.int 0), (.ref r0)])) rfl rfl (hb hby d20_43)
  have V5 : Arv Z h5 r0 k0 .byte (6 : Int32) [(.int (nar .byte ((p2 >>> ((0 : Int32) &&& 31)).toInt8.toInt32))), (.int v1), (.int v2), (.int v3), (.int v4), (.int v5)] (.int 0) := Arv.set Ar4 q4 Sz4 Nn4 Hh4 Gg4 (fits_nar_byte _) W5 0 rfl (Nat.le_of_ble_eq_true rfl)
  have N5 := Fr.snoc X5 N0 g_r0
  have Z5 : n0 ≤ h5.size := Nat.le_trans Z0 (Keep.of_wr W5).1
  have K5 : Keep h0 h5 [r0] := KR.wr W5 (Or.inl (List.mem_of_getElem? (i := 0) rfl))
  have c6 : sA Z h5 := OA.wr W5
  have c7 : sH Z h5 := OH.wr W5
  have c8 : sL Z h5 := OL.wr W5
  obtain ⟨T9, X9, e9, st9⟩ := getS2 X5 hx hZ hown (host := "") (Or.inl (tw hw 89 rfl)) Via.refl e5 c8 (g := (mkF m 47 #[vr r0, vi 1, vi p2] [(.int p2), (.int 1), (.ref r0)])) rfl (hb hby d20_47)
  obtain ⟨cl10, Ar10, q10, Sz10, Nn10, Hh10, Gg10⟩ := id V5
  have hin10 : ¬ ((1 : Int32) < 0 ∨ cl10.slots.size ≤ ((1 : Int32)).toNatClampNeg) := inb_of Sz10 ⟨by decide, by decide⟩
  obtain ⟨T11, h11, X11, e11, W11, st11⟩ := stB X9 hx hZ e9 Ar10 (j := (1 : Int32)) hin10 (g := (mkF m 52 #[vr r0, vi 1, vi p2] [(.int ((p2 >>> ((8 : Int32) &&& 31)).toInt8.toInt32)), (.int 1), (.ref r0)])) rfl rfl (hb hby d20_52)
  have V11 : Arv Z h11 r0 k0 .byte (6 : Int32) [(.int (nar .byte ((p2 >>> ((0 : Int32) &&& 31)).toInt8.toInt32))), (.int (nar .byte ((p2 >>> ((8 : Int32) &&& 31)).toInt8.toInt32))), (.int v2), (.int v3), (.int v4), (.int v5)] (.int 0) := Arv.set Ar10 q10 Sz10 Nn10 Hh10 Gg10 (fits_nar_byte _) W11 1 rfl (Nat.le_of_ble_eq_true rfl)
  have N11 := Fr.snoc X11 N5 g_r0
  have Z11 : n0 ≤ h11.size := Nat.le_trans Z5 (Keep.of_wr W11).1
  have K11 : Keep h0 h11 [r0] := K5.wr W11 (Or.inl (List.mem_of_getElem? (i := 0) rfl))
  have c12 : sA Z h11 := c6.wr W11
  have c13 : sH Z h11 := c7.wr W11
  have c14 : sL Z h11 := c8.wr W11
  obtain ⟨fs, hr, hrun, hended, hW, hsame⟩ := X11.leave (v := none) (fun _ => rfl)
  refine ⟨_, _, pre0 _ ?_, hrun, hended, _, _, rfl, ?_, ⟨_, rfl⟩, hW, hsame.mono (by decide) (by decide)⟩
  · skip
    show SF p e below s₁ m 0 #[vr r0, vi 0, vi p2] [] _
    refine st1 _ ?_
    refine XS.ifYes X1.here hx rfl (pc0 := 3) (pc' := 28) rfl (hb hby d20_3) rfl ((if0 _ _).trans (feq hc2).2) (by decide) (by decide) ?_
    refine XS.iloadN X1.here hx rfl (hb hby d20_28) rfl ?_
    refine XS.iconst X1.here hx rfl (hb hby d20_29) ?_
    refine XS.ishl X1.here hx rfl (hb hby d20_30) rfl ?_
    show SF p e below T1 m 31 #[vr r0, vi 0, vi p2] [(.int 0)] _
    refine XS.istoreN X1.here hx rfl (hb hby d20_31) rfl (l' := #[vr r0, vi 0, vi p2]) rfl ?_
    refine XS.aloadN X1.here hx rfl (hb hby d20_32) rfl rfl ?_
    refine XS.iloadN X1.here hx rfl (hb hby d20_33) rfl ?_
    refine XS.iinc X1.here hx rfl (hb hby d20_34) rfl (l' := #[vr r0, vi 1, vi p2]) rfl ?_
    refine XS.iloadN X1.here hx rfl (hb hby d20_37) rfl ?_
    show SF p e below T1 m 38 #[vr r0, vi 1, vi p2] [(.int p2), (.int 0), (.ref r0)] _
    refine st3 _ ?_
    refine XS.ishr X3.here hx rfl (hb hby d20_41) rfl ?_
    refine XS.i2b X3.here hx rfl (hb hby d20_42) rfl ?_
    refine st5 _ ?_
    refine XS.aloadN X5.here hx rfl (hb hby d20_44) rfl rfl ?_
    show SF p e below T5 m 45 #[vr r0, vi 1, vi p2] [(.ref r0)] _
    refine XS.iloadN X5.here hx rfl (hb hby d20_45) rfl ?_
    refine XS.iloadN X5.here hx rfl (hb hby d20_46) rfl ?_
    refine st9 _ ?_
    refine XS.ishr X9.here hx rfl (hb hby d20_50) rfl ?_
    refine XS.i2b X9.here hx rfl (hb hby d20_51) rfl ?_
    show SF p e below T9 m 52 #[vr r0, vi 1, vi p2] [(.int ((p2 >>> ((8 : Int32) &&& 31)).toInt8.toInt32)), (.int 1), (.ref r0)] _
    refine st11 _ ?_
    show SF p e below T11 m 53 #[vr r0, vi 1, vi p2] [] _
    exact X11.returnOut hx Bd.returns (hb hby d20_53) hr
  · show Qpc_3_0 Z r0 p2 k0 v0 v1 v2 v3 v4 v5 h0 n0 _ T11.heap _
    rw [e11]
    exact ⟨rfl, N11, K11, V11⟩
def Qpc_3_1 (Z : State) (r0 : Addr) (p2 : Int32) (k0 : ClassId) (v0 : Int32) (v1 : Int32) (v2 : Int32) (v3 : Int32) (v4 : Int32) (v5 : Int32) (h0 : Heap) (n0 : Nat) (v : Option Value) (h : Heap) (L : List Loc) : Prop := v = none ∧ Fr n0 L ∧ Keep h0 h [r0] ∧ Arv Z h r0 k0 .byte (6 : Int32) [(.int v0), (.int v1), (.int (loB p2)), (.int (hiB p2)), (.int v4), (.int v5)] (.int 0)
set_option maxRecDepth 65536 in
set_option maxHeartbeats 40000000 in
theorem rmpc_3_1 (l : Launch) (Z : State) (a0 : Array Value) (hw : ∀ d ∈ tables_1, d.before a0 Z = true) (ws : List Jvm.Cond) (r0 : Addr) (p2 : Int32) (k0 : ClassId) (v0 : Int32) (v1 : Int32) (v2 : Int32) (v3 : Int32) (v4 : Int32) (v5 : Int32) (h0 : Heap) (n0 : Nat) (Z0 : n0 ≤ h0.size) (V0 : Arv Z h0 r0 k0 .byte (6 : Int32) [(.int v0), (.int v1), (.int v2), (.int v3), (.int v4), (.int v5)] (.int 0)) (g_r0 : n0 ≤ r0) (OA : sA Z h0) (OH : sH Z h0) (OL : sL Z h0) :
    MF l Z mN10 jdk_52_method_4_code 3 none ws (rK 0 0 0 0) #[(.ref r0), (.int 1), (.int p2)] h0 (Qpc_3_1 Z r0 p2 k0 v0 v1 v2 v3 v4 v5 h0 n0) := by
  refine MetFree.of_bodySF (plainFor_of_name pn_java_lang_StringUTF16) hisR ?_
  intro p e s m args below meth c s₁ Bd hml0 hP hK
  obtain ⟨rfl, hZ, hh⟩ := hP
  have hx := Bd.exec
  have hby := Bd.bytes
  have hml : c.maxLocals = 3 := hml0
  have hown : s.vm.findClass "java/lang/StringUTF16" = some m.cls := findClass_of_methodNamed Bd.named
  have hnm := (name_of_methodNamed Bd.named Bd.method).1
  have X0 : Stand p l e (rK 0 0 0 0) s m #[(.ref r0), (.int 1), (.int p2)] below meth c s₁ [] 0 0 := Stand.of_body Bd
  have e0 : s₁.heap = h0 := by rw [← hh, Bd.state]; rfl
  have N0 := Fr.nil n0
  have pre0 : ∀ t, SF p e below s₁ m 0 #[vr r0, vi 1, vi p2] [] t → Steps p.tables e below (s₁.setTop (entryFrame m #[(.ref r0), (.int 1), (.int p2)] 3)) t := fun t k => castTop (ef_20 m r0 (1 : Int32) p2) k
  have KR : Keep h0 h0 [r0] := Keep.refl _ _
  obtain ⟨T1, X1, e1, st1⟩ := getS2 X0 hx hZ hown (host := "") (Or.inl (tw hw 87 rfl)) Via.refl e0 OA (g := (mkF m 0 #[vr r0, vi 1, vi p2] [])) rfl (hb hby d20_0)
  have hc2 : ¬ ((1 : Int32) = (0 : Int32)) := by decide
  obtain ⟨T3, X3, e3, st3⟩ := getS2 X1 hx hZ hown (host := "") (Or.inl (tw hw 88 rfl)) Via.refl e1 OH (g := (mkF m 38 #[vr r0, vi 3, vi p2] [(.int p2), (.int 2), (.ref r0)])) rfl (hb hby d20_38)
  obtain ⟨cl4, Ar4, q4, Sz4, Nn4, Hh4, Gg4⟩ := id V0
  have hin4 : ¬ ((2 : Int32) < 0 ∨ cl4.slots.size ≤ ((2 : Int32)).toNatClampNeg) := inb_of Sz4 ⟨by decide, by decide⟩
  obtain ⟨T5, h5, X5, e5, W5, st5⟩ := stB X3 hx hZ e3 Ar4 (j := (2 : Int32)) hin4 (g := (mkF m 43 #[vr r0, vi 3, vi p2] [(.int ((p2 >>> ((0 : Int32) &&& 31)).toInt8.toInt32)), (.int 2), (.ref r0)])) rfl rfl (hb hby d20_43)
  have V5 : Arv Z h5 r0 k0 .byte (6 : Int32) [(.int v0), (.int v1), (.int (nar .byte ((p2 >>> ((0 : Int32) &&& 31)).toInt8.toInt32))), (.int v3), (.int v4), (.int v5)] (.int 0) := Arv.set Ar4 q4 Sz4 Nn4 Hh4 Gg4 (fits_nar_byte _) W5 2 rfl (Nat.le_of_ble_eq_true rfl)
  have N5 := Fr.snoc X5 N0 g_r0
  have Z5 : n0 ≤ h5.size := Nat.le_trans Z0 (Keep.of_wr W5).1
  have K5 : Keep h0 h5 [r0] := KR.wr W5 (Or.inl (List.mem_of_getElem? (i := 0) rfl))
  have c6 : sA Z h5 := OA.wr W5
  have c7 : sH Z h5 := OH.wr W5
  have c8 : sL Z h5 := OL.wr W5
  obtain ⟨T9, X9, e9, st9⟩ := getS2 X5 hx hZ hown (host := "") (Or.inl (tw hw 89 rfl)) Via.refl e5 c8 (g := (mkF m 47 #[vr r0, vi 3, vi p2] [(.int p2), (.int 3), (.ref r0)])) rfl (hb hby d20_47)
  obtain ⟨cl10, Ar10, q10, Sz10, Nn10, Hh10, Gg10⟩ := id V5
  have hin10 : ¬ ((3 : Int32) < 0 ∨ cl10.slots.size ≤ ((3 : Int32)).toNatClampNeg) := inb_of Sz10 ⟨by decide, by decide⟩
  obtain ⟨T11, h11, X11, e11, W11, st11⟩ := stB X9 hx hZ e9 Ar10 (j := (3 : Int32)) hin10 (g := (mkF m 52 #[vr r0, vi 3, vi p2] [(.int ((p2 >>> ((8 : Int32) &&& 31)).toInt8.toInt32)), (.int 3), (.ref r0)])) rfl rfl (hb hby d20_52)
  have V11 : Arv Z h11 r0 k0 .byte (6 : Int32) [(.int v0), (.int v1), (.int (nar .byte ((p2 >>> ((0 : Int32) &&& 31)).toInt8.toInt32))), (.int (nar .byte ((p2 >>> ((8 : Int32) &&& 31)).toInt8.toInt32))), (.int v4), (.int v5)] (.int 0) := Arv.set Ar10 q10 Sz10 Nn10 Hh10 Gg10 (fits_nar_byte _) W11 3 rfl (Nat.le_of_ble_eq_true rfl)
  have N11 := Fr.snoc X11 N5 g_r0
  have Z11 : n0 ≤ h11.size := Nat.le_trans Z5 (Keep.of_wr W11).1
  have K11 : Keep h0 h11 [r0] := K5.wr W11 (Or.inl (List.mem_of_getElem? (i := 0) rfl))
  have c12 : sA Z h11 := c6.wr W11
  have c13 : sH Z h11 := c7.wr W11
  have c14 : sL Z h11 := c8.wr W11
  obtain ⟨fs, hr, hrun, hended, hW, hsame⟩ := X11.leave (v := none) (fun _ => rfl)
  refine ⟨_, _, pre0 _ ?_, hrun, hended, _, _, rfl, ?_, ⟨_, rfl⟩, hW, hsame.mono (by decide) (by decide)⟩
  · skip
    show SF p e below s₁ m 0 #[vr r0, vi 1, vi p2] [] _
    refine st1 _ ?_
    refine XS.ifYes X1.here hx rfl (pc0 := 3) (pc' := 28) rfl (hb hby d20_3) rfl ((if0 _ _).trans (feq hc2).2) (by decide) (by decide) ?_
    refine XS.iloadN X1.here hx rfl (hb hby d20_28) rfl ?_
    refine XS.iconst X1.here hx rfl (hb hby d20_29) ?_
    refine XS.ishl X1.here hx rfl (hb hby d20_30) rfl ?_
    show SF p e below T1 m 31 #[vr r0, vi 1, vi p2] [(.int 2)] _
    refine XS.istoreN X1.here hx rfl (hb hby d20_31) rfl (l' := #[vr r0, vi 2, vi p2]) rfl ?_
    refine XS.aloadN X1.here hx rfl (hb hby d20_32) rfl rfl ?_
    refine XS.iloadN X1.here hx rfl (hb hby d20_33) rfl ?_
    refine XS.iinc X1.here hx rfl (hb hby d20_34) rfl (l' := #[vr r0, vi 3, vi p2]) rfl ?_
    refine XS.iloadN X1.here hx rfl (hb hby d20_37) rfl ?_
    show SF p e below T1 m 38 #[vr r0, vi 3, vi p2] [(.int p2), (.int 2), (.ref r0)] _
    refine st3 _ ?_
    refine XS.ishr X3.here hx rfl (hb hby d20_41) rfl ?_
    refine XS.i2b X3.here hx rfl (hb hby d20_42) rfl ?_
    refine st5 _ ?_
    refine XS.aloadN X5.here hx rfl (hb hby d20_44) rfl rfl ?_
    show SF p e below T5 m 45 #[vr r0, vi 3, vi p2] [(.ref r0)] _
    refine XS.iloadN X5.here hx rfl (hb hby d20_45) rfl ?_
    refine XS.iloadN X5.here hx rfl (hb hby d20_46) rfl ?_
    refine st9 _ ?_
    refine XS.ishr X9.here hx rfl (hb hby d20_50) rfl ?_
    refine XS.i2b X9.here hx rfl (hb hby d20_51) rfl ?_
    show SF p e below T9 m 52 #[vr r0, vi 3, vi p2] [(.int ((p2 >>> ((8 : Int32) &&& 31)).toInt8.toInt32)), (.int 3), (.ref r0)] _
    refine st11 _ ?_
    show SF p e below T11 m 53 #[vr r0, vi 3, vi p2] [] _
    exact X11.returnOut hx Bd.returns (hb hby d20_53) hr
  · show Qpc_3_1 Z r0 p2 k0 v0 v1 v2 v3 v4 v5 h0 n0 _ T11.heap _
    rw [e11]
    exact ⟨rfl, N11, K11, V11⟩
def Qpc_3_2 (Z : State) (r0 : Addr) (p2 : Int32) (k0 : ClassId) (v0 : Int32) (v1 : Int32) (v2 : Int32) (v3 : Int32) (v4 : Int32) (v5 : Int32) (h0 : Heap) (n0 : Nat) (v : Option Value) (h : Heap) (L : List Loc) : Prop := v = none ∧ Fr n0 L ∧ Keep h0 h [r0] ∧ Arv Z h r0 k0 .byte (6 : Int32) [(.int v0), (.int v1), (.int v2), (.int v3), (.int (loB p2)), (.int (hiB p2))] (.int 0)
set_option maxRecDepth 65536 in
set_option maxHeartbeats 40000000 in
theorem rmpc_3_2 (l : Launch) (Z : State) (a0 : Array Value) (hw : ∀ d ∈ tables_1, d.before a0 Z = true) (ws : List Jvm.Cond) (r0 : Addr) (p2 : Int32) (k0 : ClassId) (v0 : Int32) (v1 : Int32) (v2 : Int32) (v3 : Int32) (v4 : Int32) (v5 : Int32) (h0 : Heap) (n0 : Nat) (Z0 : n0 ≤ h0.size) (V0 : Arv Z h0 r0 k0 .byte (6 : Int32) [(.int v0), (.int v1), (.int v2), (.int v3), (.int v4), (.int v5)] (.int 0)) (g_r0 : n0 ≤ r0) (OA : sA Z h0) (OH : sH Z h0) (OL : sL Z h0) :
    MF l Z mN10 jdk_52_method_4_code 3 none ws (rK 0 0 0 0) #[(.ref r0), (.int 2), (.int p2)] h0 (Qpc_3_2 Z r0 p2 k0 v0 v1 v2 v3 v4 v5 h0 n0) := by
  refine MetFree.of_bodySF (plainFor_of_name pn_java_lang_StringUTF16) hisR ?_
  intro p e s m args below meth c s₁ Bd hml0 hP hK
  obtain ⟨rfl, hZ, hh⟩ := hP
  have hx := Bd.exec
  have hby := Bd.bytes
  have hml : c.maxLocals = 3 := hml0
  have hown : s.vm.findClass "java/lang/StringUTF16" = some m.cls := findClass_of_methodNamed Bd.named
  have hnm := (name_of_methodNamed Bd.named Bd.method).1
  have X0 : Stand p l e (rK 0 0 0 0) s m #[(.ref r0), (.int 2), (.int p2)] below meth c s₁ [] 0 0 := Stand.of_body Bd
  have e0 : s₁.heap = h0 := by rw [← hh, Bd.state]; rfl
  have N0 := Fr.nil n0
  have pre0 : ∀ t, SF p e below s₁ m 0 #[vr r0, vi 2, vi p2] [] t → Steps p.tables e below (s₁.setTop (entryFrame m #[(.ref r0), (.int 2), (.int p2)] 3)) t := fun t k => castTop (ef_20 m r0 (2 : Int32) p2) k
  have KR : Keep h0 h0 [r0] := Keep.refl _ _
  obtain ⟨T1, X1, e1, st1⟩ := getS2 X0 hx hZ hown (host := "") (Or.inl (tw hw 87 rfl)) Via.refl e0 OA (g := (mkF m 0 #[vr r0, vi 2, vi p2] [])) rfl (hb hby d20_0)
  have hc2 : ¬ ((1 : Int32) = (0 : Int32)) := by decide
  obtain ⟨T3, X3, e3, st3⟩ := getS2 X1 hx hZ hown (host := "") (Or.inl (tw hw 88 rfl)) Via.refl e1 OH (g := (mkF m 38 #[vr r0, vi 5, vi p2] [(.int p2), (.int 4), (.ref r0)])) rfl (hb hby d20_38)
  obtain ⟨cl4, Ar4, q4, Sz4, Nn4, Hh4, Gg4⟩ := id V0
  have hin4 : ¬ ((4 : Int32) < 0 ∨ cl4.slots.size ≤ ((4 : Int32)).toNatClampNeg) := inb_of Sz4 ⟨by decide, by decide⟩
  obtain ⟨T5, h5, X5, e5, W5, st5⟩ := stB X3 hx hZ e3 Ar4 (j := (4 : Int32)) hin4 (g := (mkF m 43 #[vr r0, vi 5, vi p2] [(.int ((p2 >>> ((0 : Int32) &&& 31)).toInt8.toInt32)), (.int 4), (.ref r0)])) rfl rfl (hb hby d20_43)
  have V5 : Arv Z h5 r0 k0 .byte (6 : Int32) [(.int v0), (.int v1), (.int v2), (.int v3), (.int (nar .byte ((p2 >>> ((0 : Int32) &&& 31)).toInt8.toInt32))), (.int v5)] (.int 0) := Arv.set Ar4 q4 Sz4 Nn4 Hh4 Gg4 (fits_nar_byte _) W5 4 rfl (Nat.le_of_ble_eq_true rfl)
  have N5 := Fr.snoc X5 N0 g_r0
  have Z5 : n0 ≤ h5.size := Nat.le_trans Z0 (Keep.of_wr W5).1
  have K5 : Keep h0 h5 [r0] := KR.wr W5 (Or.inl (List.mem_of_getElem? (i := 0) rfl))
  have c6 : sA Z h5 := OA.wr W5
  have c7 : sH Z h5 := OH.wr W5
  have c8 : sL Z h5 := OL.wr W5
  obtain ⟨T9, X9, e9, st9⟩ := getS2 X5 hx hZ hown (host := "") (Or.inl (tw hw 89 rfl)) Via.refl e5 c8 (g := (mkF m 47 #[vr r0, vi 5, vi p2] [(.int p2), (.int 5), (.ref r0)])) rfl (hb hby d20_47)
  obtain ⟨cl10, Ar10, q10, Sz10, Nn10, Hh10, Gg10⟩ := id V5
  have hin10 : ¬ ((5 : Int32) < 0 ∨ cl10.slots.size ≤ ((5 : Int32)).toNatClampNeg) := inb_of Sz10 ⟨by decide, by decide⟩
  obtain ⟨T11, h11, X11, e11, W11, st11⟩ := stB X9 hx hZ e9 Ar10 (j := (5 : Int32)) hin10 (g := (mkF m 52 #[vr r0, vi 5, vi p2] [(.int ((p2 >>> ((8 : Int32) &&& 31)).toInt8.toInt32)), (.int 5), (.ref r0)])) rfl rfl (hb hby d20_52)
  have V11 : Arv Z h11 r0 k0 .byte (6 : Int32) [(.int v0), (.int v1), (.int v2), (.int v3), (.int (nar .byte ((p2 >>> ((0 : Int32) &&& 31)).toInt8.toInt32))), (.int (nar .byte ((p2 >>> ((8 : Int32) &&& 31)).toInt8.toInt32)))] (.int 0) := Arv.set Ar10 q10 Sz10 Nn10 Hh10 Gg10 (fits_nar_byte _) W11 5 rfl (Nat.le_of_ble_eq_true rfl)
  have N11 := Fr.snoc X11 N5 g_r0
  have Z11 : n0 ≤ h11.size := Nat.le_trans Z5 (Keep.of_wr W11).1
  have K11 : Keep h0 h11 [r0] := K5.wr W11 (Or.inl (List.mem_of_getElem? (i := 0) rfl))
  have c12 : sA Z h11 := c6.wr W11
  have c13 : sH Z h11 := c7.wr W11
  have c14 : sL Z h11 := c8.wr W11
  obtain ⟨fs, hr, hrun, hended, hW, hsame⟩ := X11.leave (v := none) (fun _ => rfl)
  refine ⟨_, _, pre0 _ ?_, hrun, hended, _, _, rfl, ?_, ⟨_, rfl⟩, hW, hsame.mono (by decide) (by decide)⟩
  · skip
    show SF p e below s₁ m 0 #[vr r0, vi 2, vi p2] [] _
    refine st1 _ ?_
    refine XS.ifYes X1.here hx rfl (pc0 := 3) (pc' := 28) rfl (hb hby d20_3) rfl ((if0 _ _).trans (feq hc2).2) (by decide) (by decide) ?_
    refine XS.iloadN X1.here hx rfl (hb hby d20_28) rfl ?_
    refine XS.iconst X1.here hx rfl (hb hby d20_29) ?_
    refine XS.ishl X1.here hx rfl (hb hby d20_30) rfl ?_
    show SF p e below T1 m 31 #[vr r0, vi 2, vi p2] [(.int 4)] _
    refine XS.istoreN X1.here hx rfl (hb hby d20_31) rfl (l' := #[vr r0, vi 4, vi p2]) rfl ?_
    refine XS.aloadN X1.here hx rfl (hb hby d20_32) rfl rfl ?_
    refine XS.iloadN X1.here hx rfl (hb hby d20_33) rfl ?_
    refine XS.iinc X1.here hx rfl (hb hby d20_34) rfl (l' := #[vr r0, vi 5, vi p2]) rfl ?_
    refine XS.iloadN X1.here hx rfl (hb hby d20_37) rfl ?_
    show SF p e below T1 m 38 #[vr r0, vi 5, vi p2] [(.int p2), (.int 4), (.ref r0)] _
    refine st3 _ ?_
    refine XS.ishr X3.here hx rfl (hb hby d20_41) rfl ?_
    refine XS.i2b X3.here hx rfl (hb hby d20_42) rfl ?_
    refine st5 _ ?_
    refine XS.aloadN X5.here hx rfl (hb hby d20_44) rfl rfl ?_
    show SF p e below T5 m 45 #[vr r0, vi 5, vi p2] [(.ref r0)] _
    refine XS.iloadN X5.here hx rfl (hb hby d20_45) rfl ?_
    refine XS.iloadN X5.here hx rfl (hb hby d20_46) rfl ?_
    refine st9 _ ?_
    refine XS.ishr X9.here hx rfl (hb hby d20_50) rfl ?_
    refine XS.i2b X9.here hx rfl (hb hby d20_51) rfl ?_
    show SF p e below T9 m 52 #[vr r0, vi 5, vi p2] [(.int ((p2 >>> ((8 : Int32) &&& 31)).toInt8.toInt32)), (.int 5), (.ref r0)] _
    refine st11 _ ?_
    show SF p e below T11 m 53 #[vr r0, vi 5, vi p2] [] _
    exact X11.returnOut hx Bd.returns (hb hby d20_53) hr
  · show Qpc_3_2 Z r0 p2 k0 v0 v1 v2 v3 v4 v5 h0 n0 _ T11.heap _
    rw [e11]
    exact ⟨rfl, N11, K11, V11⟩
def Qtb_3 (Z : State) (r0 : Addr) (k0 : ClassId) (ch0 : Int32) (ch1 : Int32) (ch2 : Int32) (h0 : Heap) (n0 : Nat) (v : Option Value) (h : Heap) (L : List Loc) : Prop := ∃ (b : Addr) (kb : ClassId), v = some (.ref b) ∧ Fr n0 L ∧ Keep h0 h [] ∧ h0.size ≤ b ∧ Arv Z h b kb .byte (6 : Int32) [(.int (loB ch0)), (.int (hiB ch0)), (.int (loB ch1)), (.int (hiB ch1)), (.int (loB ch2)), (.int (hiB ch2))] (.int 0)
set_option maxRecDepth 65536 in
set_option maxHeartbeats 40000000 in
theorem rmtb_3 (l : Launch) (Z : State) (a0 : Array Value) (hw : ∀ d ∈ tables_1, d.before a0 Z = true) (ws : List Jvm.Cond) (r0 : Addr) (k0 : ClassId) (ch0 : Int32) (ch1 : Int32) (ch2 : Int32) (h0 : Heap) (n0 : Nat) (Z0 : n0 ≤ h0.size) (V0 : Arv Z h0 r0 k0 .char (3 : Int32) [(.int ch0), (.int ch1), (.int ch2)] (.int 0)) (OA : sA Z h0) (OH : sH Z h0) (OL : sL Z h0) :
    MF l Z mN11 jdk_52_method_14_code 5 (some (.array .byte)) ws (rK 2 1 6 24) #[(.ref r0), (.int 0), (.int 3)] h0 (Qtb_3 Z r0 k0 ch0 ch1 ch2 h0 n0) := by
  refine MetFree.of_bodySF (plainFor_of_name pn_java_lang_StringUTF16) hisR ?_
  intro p e s m args below meth c s₁ Bd hml0 hP hK
  obtain ⟨rfl, hZ, hh⟩ := hP
  have hx := Bd.exec
  have hby := Bd.bytes
  have hml : c.maxLocals = 5 := hml0
  have hown : s.vm.findClass "java/lang/StringUTF16" = some m.cls := findClass_of_methodNamed Bd.named
  have hnm := (name_of_methodNamed Bd.named Bd.method).1
  have X0 : Stand p l e (rK 2 1 6 24) s m #[(.ref r0), (.int 0), (.int 3)] below meth c s₁ [] 0 0 := Stand.of_body Bd
  have e0 : s₁.heap = h0 := by rw [← hh, Bd.state]; rfl
  have N0 := Fr.nil n0
  have pre0 : ∀ t, SF p e below s₁ m 0 #[vr r0, vi 0, vi 3, .unset, .unset] [] t → Steps p.tables e below (s₁.setTop (entryFrame m #[(.ref r0), (.int 0), (.int 3)] 5)) t := fun t k => castTop (ef_17 m r0 (0 : Int32) (3 : Int32)) k
  have KR : Keep h0 h0 [] := Keep.refl _ _
  obtain ⟨_, _, ⟨T1, L1, k1, n1⟩, -, X1, ⟨Lc1, hQ1, l1, y1, z1⟩, st1⟩ := Jvm.LawKit.callS X0 hx (y := mN9) hown (mvT hZ (tw hw 77 rfl)) (mvT hZ (tw hw 78 rfl)) (mvT hZ (tw hw 34 rfl)) (mvT hZ (tw hw 79 rfl)) (by decide) (backOf (W := 0) (rmnbf_3 l Z a0 hw []  h0 n0 Z0 ) hZ (tw hw 79 rfl) (tw hw 34 rfl) (by decide) (by decide)) (g := (mkF m 1 #[vr r0, vi 0, vi 3, .unset, .unset] [(.int 3)])) rfl (by rw [hml]; rfl) (argsL := [(.int 3)]) (rest := []) (lenOf pd_3 rfl) rfl (by show 2 * 0 + _ ≤ _; exact Nat.le_of_eq rfl) (hb hby d17_1) (fun _ _ => ⟨rfl, e0, (by decide : 0 + 1 ≤ _), (by decide : 0 + 6 ≤ _)⟩)
  dsimp only [Pt.U, Pt.locs, Pt.cells, Pt.slots] at X1 l1 y1 z1 st1 hQ1
  subst l1 y1 z1
  obtain ⟨b1, kb1, rfl, Nq1, Kq1, sq1, Vq1⟩ := hQ1
  have N1 := Fr.app N0 Nq1
  have Z1 : n0 ≤ T1.heap.size := Nat.le_trans Z0 Kq1.1
  have ne_r0_b1 : r0 ≠ b1 := Nat.ne_of_lt (Nat.lt_of_lt_of_le V0.lt sq1)
  have g_b1 : n0 ≤ b1 := Nat.le_trans Z0 sq1
  have sz_b1 : h0.size ≤ b1 := Nat.le_trans KR.1 sq1
  have K1 : Keep h0 T1.heap [] := KR.trans Kq1 (fun x hx => by cases hx)
  have c2 : Arv Z T1.heap r0 k0 .char (3 : Int32) [(.int ch0), (.int ch1), (.int ch2)] (.int 0) := V0.keep Kq1 (by simp)
  have hc3 : (0 : Int32) < (3 : Int32) := by decide
  obtain ⟨cl4, Ar4, -, Sz4, Nn4, Hh4, -⟩ := id c2
  have hin4 : ¬ ((0 : Int32) < 0 ∨ cl4.slots.size ≤ ((0 : Int32)).toNatClampNeg) := inb_of Sz4 ⟨by decide, by decide⟩
  have hat4 : cl4.slots[((0 : Int32)).toNatClampNeg]? = some (.int ch0) := Hh4 0 (by rw [Sz4]; decide)
  obtain ⟨_, _, ⟨T5, L5, k5, n5⟩, -, X5, ⟨Lc5, hQ5, l5, y5, z5⟩, st5⟩ := Jvm.LawKit.callS X1 hx (y := mN10) hown (mvT hZ (tw hw 84 rfl)) (mvT hZ (tw hw 85 rfl)) (mvT hZ (tw hw 34 rfl)) (mvT hZ (tw hw 86 rfl)) (by decide) (backOf (W := 0) (rmpc_3_0 l Z a0 hw [] b1 ch0 kb1 (0 : Int32) (0 : Int32) (0 : Int32) (0 : Int32) (0 : Int32) (0 : Int32) T1.heap n0 Z1 Vq1 g_b1 (own_s0 OA K1) (own_s0 OH K1) (own_s0 OL K1)) hZ (tw hw 86 rfl) (tw hw 34 rfl) (by decide) (by decide)) (g := (mkF m 20 #[vr r0, vi 0, vi 3, vr b1, vi 0] [(.int ch0), (.int 0), (.ref b1)])) rfl (by rw [hml]; rfl) (argsL := [(.ref b1), (.int 0), (.int ch0)]) (rest := []) (lenOf pd_4 rfl) rfl (by show 2 * 0 + _ ≤ _; exact Nat.le_of_eq rfl) (hb hby d17_20) (fun _ _ => ⟨rfl, rfl, (by decide : 1 + 0 ≤ _), (by decide : 6 + 0 ≤ _)⟩)
  dsimp only [Pt.U, Pt.locs, Pt.cells, Pt.slots] at X5 l5 y5 z5 st5 hQ5
  subst l5 y5 z5
  obtain ⟨rfl, Nq5, Kq5, Vq5⟩ := hQ5
  have N5 := Fr.app N1 Nq5
  have Z5 : n0 ≤ T5.heap.size := Nat.le_trans Z1 Kq5.1
  have K5 : Keep h0 T5.heap [] := K1.trans Kq5 (fun x hx => by cases List.mem_singleton.mp hx; exact (Or.inr sz_b1))
  have c6 : Arv Z T5.heap r0 k0 .char (3 : Int32) [(.int ch0), (.int ch1), (.int ch2)] (.int 0) := c2.keep Kq5 (fun q => ne_r0_b1 (List.mem_singleton.mp q))
  have hc7 : (1 : Int32) < (3 : Int32) := by decide
  obtain ⟨cl8, Ar8, -, Sz8, Nn8, Hh8, -⟩ := id c6
  have hin8 : ¬ ((1 : Int32) < 0 ∨ cl8.slots.size ≤ ((1 : Int32)).toNatClampNeg) := inb_of Sz8 ⟨by decide, by decide⟩
  have hat8 : cl8.slots[((1 : Int32)).toNatClampNeg]? = some (.int ch1) := Hh8 1 (by rw [Sz8]; decide)
  obtain ⟨_, _, ⟨T9, L9, k9, n9⟩, -, X9, ⟨Lc9, hQ9, l9, y9, z9⟩, st9⟩ := Jvm.LawKit.callS X5 hx (y := mN10) hown (mvT hZ (tw hw 84 rfl)) (mvT hZ (tw hw 85 rfl)) (mvT hZ (tw hw 34 rfl)) (mvT hZ (tw hw 86 rfl)) (by decide) (backOf (W := 0) (rmpc_3_1 l Z a0 hw [] b1 ch1 kb1 (loB ch0) (hiB ch0) (0 : Int32) (0 : Int32) (0 : Int32) (0 : Int32) T5.heap n0 Z5 Vq5 g_b1 (own_s0 OA K5) (own_s0 OH K5) (own_s0 OL K5)) hZ (tw hw 86 rfl) (tw hw 34 rfl) (by decide) (by decide)) (g := (mkF m 20 #[vr r0, vi 1, vi 3, vr b1, vi 1] [(.int ch1), (.int 1), (.ref b1)])) rfl (by rw [hml]; rfl) (argsL := [(.ref b1), (.int 1), (.int ch1)]) (rest := []) (lenOf pd_4 rfl) rfl (by show 2 * 0 + _ ≤ _; exact Nat.le_of_eq rfl) (hb hby d17_20) (fun _ _ => ⟨rfl, rfl, (by decide : 1 + 0 ≤ _), (by decide : 6 + 0 ≤ _)⟩)
  dsimp only [Pt.U, Pt.locs, Pt.cells, Pt.slots] at X9 l9 y9 z9 st9 hQ9
  subst l9 y9 z9
  obtain ⟨rfl, Nq9, Kq9, Vq9⟩ := hQ9
  have N9 := Fr.app N5 Nq9
  have Z9 : n0 ≤ T9.heap.size := Nat.le_trans Z5 Kq9.1
  have K9 : Keep h0 T9.heap [] := K5.trans Kq9 (fun x hx => by cases List.mem_singleton.mp hx; exact (Or.inr sz_b1))
  have c10 : Arv Z T9.heap r0 k0 .char (3 : Int32) [(.int ch0), (.int ch1), (.int ch2)] (.int 0) := c6.keep Kq9 (fun q => ne_r0_b1 (List.mem_singleton.mp q))
  have hc11 : (2 : Int32) < (3 : Int32) := by decide
  obtain ⟨cl12, Ar12, -, Sz12, Nn12, Hh12, -⟩ := id c10
  have hin12 : ¬ ((2 : Int32) < 0 ∨ cl12.slots.size ≤ ((2 : Int32)).toNatClampNeg) := inb_of Sz12 ⟨by decide, by decide⟩
  have hat12 : cl12.slots[((2 : Int32)).toNatClampNeg]? = some (.int ch2) := Hh12 2 (by rw [Sz12]; decide)
  obtain ⟨_, _, ⟨T13, L13, k13, n13⟩, -, X13, ⟨Lc13, hQ13, l13, y13, z13⟩, st13⟩ := Jvm.LawKit.callS X9 hx (y := mN10) hown (mvT hZ (tw hw 84 rfl)) (mvT hZ (tw hw 85 rfl)) (mvT hZ (tw hw 34 rfl)) (mvT hZ (tw hw 86 rfl)) (by decide) (backOf (W := 0) (rmpc_3_2 l Z a0 hw [] b1 ch2 kb1 (loB ch0) (hiB ch0) (loB ch1) (hiB ch1) (0 : Int32) (0 : Int32) T9.heap n0 Z9 Vq9 g_b1 (own_s0 OA K9) (own_s0 OH K9) (own_s0 OL K9)) hZ (tw hw 86 rfl) (tw hw 34 rfl) (by decide) (by decide)) (g := (mkF m 20 #[vr r0, vi 2, vi 3, vr b1, vi 2] [(.int ch2), (.int 2), (.ref b1)])) rfl (by rw [hml]; rfl) (argsL := [(.ref b1), (.int 2), (.int ch2)]) (rest := []) (lenOf pd_4 rfl) rfl (by show 2 * 0 + _ ≤ _; exact Nat.le_of_eq rfl) (hb hby d17_20) (fun _ _ => ⟨rfl, rfl, (by decide : 1 + 0 ≤ _), (by decide : 6 + 0 ≤ _)⟩)
  dsimp only [Pt.U, Pt.locs, Pt.cells, Pt.slots] at X13 l13 y13 z13 st13 hQ13
  subst l13 y13 z13
  obtain ⟨rfl, Nq13, Kq13, Vq13⟩ := hQ13
  have N13 := Fr.app N9 Nq13
  have Z13 : n0 ≤ T13.heap.size := Nat.le_trans Z9 Kq13.1
  have K13 : Keep h0 T13.heap [] := K9.trans Kq13 (fun x hx => by cases List.mem_singleton.mp hx; exact (Or.inr sz_b1))
  have c14 : Arv Z T13.heap r0 k0 .char (3 : Int32) [(.int ch0), (.int ch1), (.int ch2)] (.int 0) := c10.keep Kq13 (fun q => ne_r0_b1 (List.mem_singleton.mp q))
  have hc15 : ¬ ((3 : Int32) < (3 : Int32)) := by decide
  obtain ⟨fs, hr, hrun, hended, hW, hsame⟩ := X13.leave (v := some (.ref b1)) (fun h => by rw [Bd.returns] at h; cases h)
  refine ⟨_, _, pre0 _ ?_, hrun, hended, _, _, rfl, ?_, ⟨_, rfl⟩, hW, hsame.mono (by decide) (by decide)⟩
  · skip
    show SF p e below s₁ m 0 #[vr r0, vi 0, vi 3, .unset, .unset] [] _
    refine XS.iloadN X0.here hx rfl (hb hby d17_0) rfl ?_
    refine st1 _ ?_
    refine XS.astoreN X1.here hx rfl (hb hby d17_4) rfl rfl (l' := #[vr r0, vi 0, vi 3, vr b1, .unset]) rfl ?_
    refine XS.iconst X1.here hx rfl (hb hby d17_5) ?_
    refine XS.istore X1.here hx rfl (hb hby d17_6) rfl (l' := #[vr r0, vi 0, vi 3, vr b1, vi 0]) rfl ?_
    show SF p e below T1 m 8 #[vr r0, vi 0, vi 3, vr b1, vi 0] [] _
    refine XS.iload X1.here hx rfl (hb hby d17_8) rfl ?_
    refine XS.iloadN X1.here hx rfl (hb hby d17_10) rfl ?_
    refine XS.icmpNo X1.here hx rfl (hb hby d17_11) rfl (tlt hc3).2.1 ?_
    refine XS.aloadN X1.here hx rfl (hb hby d17_14) rfl rfl ?_
    refine XS.iload X1.here hx rfl (hb hby d17_15) rfl ?_
    show SF p e below T1 m 17 #[vr r0, vi 0, vi 3, vr b1, vi 0] [(.int 0), (.ref b1)] _
    refine XS.aloadN X1.here hx rfl (hb hby d17_17) rfl rfl ?_
    refine XS.iloadN X1.here hx rfl (hb hby d17_18) rfl ?_
    refine X1.caload hx (j := (0 : Int32)) (v := (.int ch0)) (by exact Ar4.1) (State.isArrayOf_alike hZ.alike Ar4.2.1) Ar4.2.2 hin4 hat4 (g := (mkF m 19 #[vr r0, vi 0, vi 3, vr b1, vi 0] [(.int 0), (.ref r0), (.int 0), (.ref b1)])) rfl rfl (hb hby d17_19) _ ?_
    refine st5 _ ?_
    refine XS.iinc X5.here hx rfl (hb hby d17_23) rfl (l' := #[vr r0, vi 1, vi 3, vr b1, vi 0]) rfl ?_
    show SF p e below T5 m 26 #[vr r0, vi 1, vi 3, vr b1, vi 0] [] _
    refine XS.iinc X5.here hx rfl (hb hby d17_26) rfl (l' := #[vr r0, vi 1, vi 3, vr b1, vi 1]) rfl ?_
    refine XS.goto X5.here hx rfl (pc0 := 29) (pc' := 8) rfl (hb hby d17_29) (by decide) (by decide) ?_
    refine XS.iload X5.here hx rfl (hb hby d17_8) rfl ?_
    refine XS.iloadN X5.here hx rfl (hb hby d17_10) rfl ?_
    refine XS.icmpNo X5.here hx rfl (hb hby d17_11) rfl (tlt hc7).2.1 ?_
    show SF p e below T5 m 14 #[vr r0, vi 1, vi 3, vr b1, vi 1] [] _
    refine XS.aloadN X5.here hx rfl (hb hby d17_14) rfl rfl ?_
    refine XS.iload X5.here hx rfl (hb hby d17_15) rfl ?_
    refine XS.aloadN X5.here hx rfl (hb hby d17_17) rfl rfl ?_
    refine XS.iloadN X5.here hx rfl (hb hby d17_18) rfl ?_
    refine X5.caload hx (j := (1 : Int32)) (v := (.int ch1)) (by exact Ar8.1) (State.isArrayOf_alike hZ.alike Ar8.2.1) Ar8.2.2 hin8 hat8 (g := (mkF m 19 #[vr r0, vi 1, vi 3, vr b1, vi 1] [(.int 1), (.ref r0), (.int 1), (.ref b1)])) rfl rfl (hb hby d17_19) _ ?_
    show SF p e below T5 m 20 #[vr r0, vi 1, vi 3, vr b1, vi 1] [(.int ch1), (.int 1), (.ref b1)] _
    refine st9 _ ?_
    refine XS.iinc X9.here hx rfl (hb hby d17_23) rfl (l' := #[vr r0, vi 2, vi 3, vr b1, vi 1]) rfl ?_
    refine XS.iinc X9.here hx rfl (hb hby d17_26) rfl (l' := #[vr r0, vi 2, vi 3, vr b1, vi 2]) rfl ?_
    refine XS.goto X9.here hx rfl (pc0 := 29) (pc' := 8) rfl (hb hby d17_29) (by decide) (by decide) ?_
    refine XS.iload X9.here hx rfl (hb hby d17_8) rfl ?_
    show SF p e below T9 m 10 #[vr r0, vi 2, vi 3, vr b1, vi 2] [(.int 2)] _
    refine XS.iloadN X9.here hx rfl (hb hby d17_10) rfl ?_
    refine XS.icmpNo X9.here hx rfl (hb hby d17_11) rfl (tlt hc11).2.1 ?_
    refine XS.aloadN X9.here hx rfl (hb hby d17_14) rfl rfl ?_
    refine XS.iload X9.here hx rfl (hb hby d17_15) rfl ?_
    refine XS.aloadN X9.here hx rfl (hb hby d17_17) rfl rfl ?_
    show SF p e below T9 m 18 #[vr r0, vi 2, vi 3, vr b1, vi 2] [(.ref r0), (.int 2), (.ref b1)] _
    refine XS.iloadN X9.here hx rfl (hb hby d17_18) rfl ?_
    refine X9.caload hx (j := (2 : Int32)) (v := (.int ch2)) (by exact Ar12.1) (State.isArrayOf_alike hZ.alike Ar12.2.1) Ar12.2.2 hin12 hat12 (g := (mkF m 19 #[vr r0, vi 2, vi 3, vr b1, vi 2] [(.int 2), (.ref r0), (.int 2), (.ref b1)])) rfl rfl (hb hby d17_19) _ ?_
    refine st13 _ ?_
    refine XS.iinc X13.here hx rfl (hb hby d17_23) rfl (l' := #[vr r0, vi 3, vi 3, vr b1, vi 2]) rfl ?_
    refine XS.iinc X13.here hx rfl (hb hby d17_26) rfl (l' := #[vr r0, vi 3, vi 3, vr b1, vi 3]) rfl ?_
    show SF p e below T13 m 29 #[vr r0, vi 3, vi 3, vr b1, vi 3] [] _
    refine XS.goto X13.here hx rfl (pc0 := 29) (pc' := 8) rfl (hb hby d17_29) (by decide) (by decide) ?_
    refine XS.iload X13.here hx rfl (hb hby d17_8) rfl ?_
    refine XS.iloadN X13.here hx rfl (hb hby d17_10) rfl ?_
    refine XS.icmpYes X13.here hx rfl (pc0 := 11) (pc' := 32) rfl (hb hby d17_11) rfl (flt hc15).2.1 (by decide) (by decide) ?_
    refine XS.aloadN X13.here hx rfl (hb hby d17_32) rfl rfl ?_
    show SF p e below T13 m 33 #[vr r0, vi 3, vi 3, vr b1, vi 3] [(.ref b1)] _
    jvm_step X13.here [X13.here.top, hx, (hb hby d17_33), X13.method', Bd.returns, Value.isRef, FieldType.isReference]
    first | (intro acts; rw [hr _ acts rfl rfl rfl]) | rw [hr _ _ rfl rfl rfl]
    exact Steps.refl _
  · show Qtb_3 Z r0 k0 ch0 ch1 ch2 h0 n0 _ T13.heap _
    exact ⟨b1, kb1, rfl, N13, K13, sz_b1, Vq13⟩
def Qgc_3_0 (Z : State) (r0 : Addr) (k0 : ClassId) (ch0 : Int32) (ch1 : Int32) (ch2 : Int32) (h0 : Heap) (n0 : Nat) (v : Option Value) (h : Heap) (L : List Loc) : Prop := v = some (.int ch0) ∧ Fr n0 L ∧ h = h0
set_option maxRecDepth 65536 in
set_option maxHeartbeats 40000000 in
theorem rmgc_3_0 (l : Launch) (Z : State) (a0 : Array Value) (hw : ∀ d ∈ tables_1, d.before a0 Z = true) (ws : List Jvm.Cond) (r0 : Addr) (k0 : ClassId) (ch0 : Int32) (ch1 : Int32) (ch2 : Int32) (h0 : Heap) (n0 : Nat) (Z0 : n0 ≤ h0.size) (V0 : Arv Z h0 r0 k0 .byte (6 : Int32) [(.int (loB ch0)), (.int (hiB ch0)), (.int (loB ch1)), (.int (hiB ch1)), (.int (loB ch2)), (.int (hiB ch2))] (.int 0)) (hbc : 0 ≤ ch0.toInt ∧ ch0.toInt ≤ 65535) (OA : sA Z h0) (OH : sH Z h0) (OL : sL Z h0) :
    MF l Z mN12 jdk_52_method_5_code 2 (some .char) ws (rK 0 0 0 0) #[(.ref r0), (.int 0)] h0 (Qgc_3_0 Z r0 k0 ch0 ch1 ch2 h0 n0) := by
  refine MetFree.of_bodySF (plainFor_of_name pn_java_lang_StringUTF16) hisR ?_
  intro p e s m args below meth c s₁ Bd hml0 hP hK
  obtain ⟨rfl, hZ, hh⟩ := hP
  have hx := Bd.exec
  have hby := Bd.bytes
  have hml : c.maxLocals = 2 := hml0
  have hown : s.vm.findClass "java/lang/StringUTF16" = some m.cls := findClass_of_methodNamed Bd.named
  have hnm := (name_of_methodNamed Bd.named Bd.method).1
  have X0 : Stand p l e (rK 0 0 0 0) s m #[(.ref r0), (.int 0)] below meth c s₁ [] 0 0 := Stand.of_body Bd
  have e0 : s₁.heap = h0 := by rw [← hh, Bd.state]; rfl
  have N0 := Fr.nil n0
  have pre0 : ∀ t, SF p e below s₁ m 0 #[vr r0, vi 0] [] t → Steps p.tables e below (s₁.setTop (entryFrame m #[(.ref r0), (.int 0)] 2)) t := fun t k => castTop (ef_21 m r0 (0 : Int32)) k
  obtain ⟨T1, X1, e1, st1⟩ := getS2 X0 hx hZ hown (host := "") (Or.inl (tw hw 87 rfl)) Via.refl e0 OA (g := (mkF m 0 #[vr r0, vi 0] [])) rfl (hb hby d21_0)
  have hc2 : ¬ ((1 : Int32) = (0 : Int32)) := by decide
  obtain ⟨cl3, Ar3, -, Sz3, Nn3, Hh3, -⟩ := id V0
  have hin3 : ¬ ((0 : Int32) < 0 ∨ cl3.slots.size ≤ ((0 : Int32)).toNatClampNeg) := inb_of Sz3 ⟨by decide, by decide⟩
  have hat3 : cl3.slots[((0 : Int32)).toNatClampNeg]? = some (.int (loB ch0)) := Hh3 0 (by rw [Sz3]; decide)
  obtain ⟨T4, X4, e4, st4⟩ := getS2 X1 hx hZ hown (host := "") (Or.inl (tw hw 88 rfl)) Via.refl e1 OH (g := (mkF m 42 #[vr r0, vi 1] [(.int ((loB ch0) &&& (255 : Int32)))])) rfl (hb hby d21_42)
  obtain ⟨cl5, Ar5, -, Sz5, Nn5, Hh5, -⟩ := id V0
  have hin5 : ¬ ((1 : Int32) < 0 ∨ cl5.slots.size ≤ ((1 : Int32)).toNatClampNeg) := inb_of Sz5 ⟨by decide, by decide⟩
  have hat5 : cl5.slots[((1 : Int32)).toNatClampNeg]? = some (.int (hiB ch0)) := Hh5 1 (by rw [Sz5]; decide)
  obtain ⟨T6, X6, e6, st6⟩ := getS2 X4 hx hZ hown (host := "") (Or.inl (tw hw 89 rfl)) Via.refl e4 OL (g := (mkF m 53 #[vr r0, vi 1] [(.int ((hiB ch0) &&& (255 : Int32))), (.int (((loB ch0) &&& (255 : Int32)) <<< ((0 : Int32) &&& 31)))])) rfl (hb hby d21_53)
  obtain ⟨fs, hr, hrun, hended, hW, hsame⟩ := X6.leave (v := some (.int (nar .char (((((loB ch0) &&& (255 : Int32)) <<< ((0 : Int32) &&& 31)) ||| (((hiB ch0) &&& (255 : Int32)) <<< ((8 : Int32) &&& 31))).toUInt32.toUInt16.toUInt32.toInt32)))) (fun h => by rw [Bd.returns] at h; cases h)
  refine ⟨_, _, pre0 _ ?_, hrun, hended, _, _, rfl, ?_, ⟨_, rfl⟩, hW, hsame.mono (by decide) (by decide)⟩
  · skip
    show SF p e below s₁ m 0 #[vr r0, vi 0] [] _
    refine st1 _ ?_
    refine XS.ifYes X1.here hx rfl (pc0 := 3) (pc' := 28) rfl (hb hby d21_3) rfl ((if0 _ _).trans (feq hc2).2) (by decide) (by decide) ?_
    refine XS.iloadN X1.here hx rfl (hb hby d21_28) rfl ?_
    refine XS.iconst X1.here hx rfl (hb hby d21_29) ?_
    refine XS.ishl X1.here hx rfl (hb hby d21_30) rfl ?_
    show SF p e below T1 m 31 #[vr r0, vi 0] [(.int 0)] _
    refine XS.istoreN X1.here hx rfl (hb hby d21_31) rfl (l' := #[vr r0, vi 0]) rfl ?_
    refine XS.aloadN X1.here hx rfl (hb hby d21_32) rfl rfl ?_
    refine XS.iloadN X1.here hx rfl (hb hby d21_33) rfl ?_
    refine XS.iinc X1.here hx rfl (hb hby d21_34) rfl (l' := #[vr r0, vi 1]) rfl ?_
    refine X1.baloadBytes hx (j := (0 : Int32)) (v := (.int (loB ch0))) (by rw [e1]; exact Ar3.1) (State.isArrayOf_alike hZ.alike Ar3.2.1) Ar3.2.2 hin3 hat3 (g := (mkF m 37 #[vr r0, vi 1] [(.int 0), (.ref r0)])) rfl rfl (hb hby d21_37) _ ?_
    show SF p e below T1 m 38 #[vr r0, vi 1] [(.int (loB ch0))] _
    refine XS.sipush X1.here hx rfl (hb hby d21_38) ?_
    refine XS.iand X1.here hx rfl (hb hby d21_41) rfl ?_
    refine st4 _ ?_
    refine XS.ishl X4.here hx rfl (hb hby d21_45) rfl ?_
    refine XS.aloadN X4.here hx rfl (hb hby d21_46) rfl rfl ?_
    show SF p e below T4 m 47 #[vr r0, vi 1] [(.ref r0), (.int (((loB ch0) &&& (255 : Int32)) <<< ((0 : Int32) &&& 31)))] _
    refine XS.iloadN X4.here hx rfl (hb hby d21_47) rfl ?_
    refine X4.baloadBytes hx (j := (1 : Int32)) (v := (.int (hiB ch0))) (by rw [e4]; exact Ar5.1) (State.isArrayOf_alike hZ.alike Ar5.2.1) Ar5.2.2 hin5 hat5 (g := (mkF m 48 #[vr r0, vi 1] [(.int 1), (.ref r0), (.int (((loB ch0) &&& (255 : Int32)) <<< ((0 : Int32) &&& 31)))])) rfl rfl (hb hby d21_48) _ ?_
    refine XS.sipush X4.here hx rfl (hb hby d21_49) ?_
    refine XS.iand X4.here hx rfl (hb hby d21_52) rfl ?_
    refine st6 _ ?_
    show SF p e below T6 m 56 #[vr r0, vi 1] [(.int 8), (.int ((hiB ch0) &&& (255 : Int32))), (.int (((loB ch0) &&& (255 : Int32)) <<< ((0 : Int32) &&& 31)))] _
    refine XS.ishl X6.here hx rfl (hb hby d21_56) rfl ?_
    refine XS.ior X6.here hx rfl (hb hby d21_57) rfl ?_
    refine XS.i2c X6.here hx rfl (hb hby d21_58) rfl ?_
    show SF p e below T6 m 59 #[vr r0, vi 1] [(.int (((((loB ch0) &&& (255 : Int32)) <<< ((0 : Int32) &&& 31)) ||| (((hiB ch0) &&& (255 : Int32)) <<< ((8 : Int32) &&& 31))).toUInt32.toUInt16.toUInt32.toInt32))] _
    exact retN X6 hx (t := .char) Bd.returns (by simp) (hb hby d21_59) hr
  · show Qgc_3_0 Z r0 k0 ch0 ch1 ch2 h0 n0 _ T6.heap _
    rw [e6]
    exact ⟨congrArg (fun z => some (Value.int z)) (own_u16 hbc), N0, rfl⟩
def Qgc_3_1 (Z : State) (r0 : Addr) (k0 : ClassId) (ch0 : Int32) (ch1 : Int32) (ch2 : Int32) (h0 : Heap) (n0 : Nat) (v : Option Value) (h : Heap) (L : List Loc) : Prop := v = some (.int ch1) ∧ Fr n0 L ∧ h = h0
set_option maxRecDepth 65536 in
set_option maxHeartbeats 40000000 in
theorem rmgc_3_1 (l : Launch) (Z : State) (a0 : Array Value) (hw : ∀ d ∈ tables_1, d.before a0 Z = true) (ws : List Jvm.Cond) (r0 : Addr) (k0 : ClassId) (ch0 : Int32) (ch1 : Int32) (ch2 : Int32) (h0 : Heap) (n0 : Nat) (Z0 : n0 ≤ h0.size) (V0 : Arv Z h0 r0 k0 .byte (6 : Int32) [(.int (loB ch0)), (.int (hiB ch0)), (.int (loB ch1)), (.int (hiB ch1)), (.int (loB ch2)), (.int (hiB ch2))] (.int 0)) (hbc : 0 ≤ ch1.toInt ∧ ch1.toInt ≤ 65535) (OA : sA Z h0) (OH : sH Z h0) (OL : sL Z h0) :
    MF l Z mN12 jdk_52_method_5_code 2 (some .char) ws (rK 0 0 0 0) #[(.ref r0), (.int 1)] h0 (Qgc_3_1 Z r0 k0 ch0 ch1 ch2 h0 n0) := by
  refine MetFree.of_bodySF (plainFor_of_name pn_java_lang_StringUTF16) hisR ?_
  intro p e s m args below meth c s₁ Bd hml0 hP hK
  obtain ⟨rfl, hZ, hh⟩ := hP
  have hx := Bd.exec
  have hby := Bd.bytes
  have hml : c.maxLocals = 2 := hml0
  have hown : s.vm.findClass "java/lang/StringUTF16" = some m.cls := findClass_of_methodNamed Bd.named
  have hnm := (name_of_methodNamed Bd.named Bd.method).1
  have X0 : Stand p l e (rK 0 0 0 0) s m #[(.ref r0), (.int 1)] below meth c s₁ [] 0 0 := Stand.of_body Bd
  have e0 : s₁.heap = h0 := by rw [← hh, Bd.state]; rfl
  have N0 := Fr.nil n0
  have pre0 : ∀ t, SF p e below s₁ m 0 #[vr r0, vi 1] [] t → Steps p.tables e below (s₁.setTop (entryFrame m #[(.ref r0), (.int 1)] 2)) t := fun t k => castTop (ef_21 m r0 (1 : Int32)) k
  obtain ⟨T1, X1, e1, st1⟩ := getS2 X0 hx hZ hown (host := "") (Or.inl (tw hw 87 rfl)) Via.refl e0 OA (g := (mkF m 0 #[vr r0, vi 1] [])) rfl (hb hby d21_0)
  have hc2 : ¬ ((1 : Int32) = (0 : Int32)) := by decide
  obtain ⟨cl3, Ar3, -, Sz3, Nn3, Hh3, -⟩ := id V0
  have hin3 : ¬ ((2 : Int32) < 0 ∨ cl3.slots.size ≤ ((2 : Int32)).toNatClampNeg) := inb_of Sz3 ⟨by decide, by decide⟩
  have hat3 : cl3.slots[((2 : Int32)).toNatClampNeg]? = some (.int (loB ch1)) := Hh3 2 (by rw [Sz3]; decide)
  obtain ⟨T4, X4, e4, st4⟩ := getS2 X1 hx hZ hown (host := "") (Or.inl (tw hw 88 rfl)) Via.refl e1 OH (g := (mkF m 42 #[vr r0, vi 3] [(.int ((loB ch1) &&& (255 : Int32)))])) rfl (hb hby d21_42)
  obtain ⟨cl5, Ar5, -, Sz5, Nn5, Hh5, -⟩ := id V0
  have hin5 : ¬ ((3 : Int32) < 0 ∨ cl5.slots.size ≤ ((3 : Int32)).toNatClampNeg) := inb_of Sz5 ⟨by decide, by decide⟩
  have hat5 : cl5.slots[((3 : Int32)).toNatClampNeg]? = some (.int (hiB ch1)) := Hh5 3 (by rw [Sz5]; decide)
  obtain ⟨T6, X6, e6, st6⟩ := getS2 X4 hx hZ hown (host := "") (Or.inl (tw hw 89 rfl)) Via.refl e4 OL (g := (mkF m 53 #[vr r0, vi 3] [(.int ((hiB ch1) &&& (255 : Int32))), (.int (((loB ch1) &&& (255 : Int32)) <<< ((0 : Int32) &&& 31)))])) rfl (hb hby d21_53)
  obtain ⟨fs, hr, hrun, hended, hW, hsame⟩ := X6.leave (v := some (.int (nar .char (((((loB ch1) &&& (255 : Int32)) <<< ((0 : Int32) &&& 31)) ||| (((hiB ch1) &&& (255 : Int32)) <<< ((8 : Int32) &&& 31))).toUInt32.toUInt16.toUInt32.toInt32)))) (fun h => by rw [Bd.returns] at h; cases h)
  refine ⟨_, _, pre0 _ ?_, hrun, hended, _, _, rfl, ?_, ⟨_, rfl⟩, hW, hsame.mono (by decide) (by decide)⟩
  · skip
    show SF p e below s₁ m 0 #[vr r0, vi 1] [] _
    refine st1 _ ?_
    refine XS.ifYes X1.here hx rfl (pc0 := 3) (pc' := 28) rfl (hb hby d21_3) rfl ((if0 _ _).trans (feq hc2).2) (by decide) (by decide) ?_
    refine XS.iloadN X1.here hx rfl (hb hby d21_28) rfl ?_
    refine XS.iconst X1.here hx rfl (hb hby d21_29) ?_
    refine XS.ishl X1.here hx rfl (hb hby d21_30) rfl ?_
    show SF p e below T1 m 31 #[vr r0, vi 1] [(.int 2)] _
    refine XS.istoreN X1.here hx rfl (hb hby d21_31) rfl (l' := #[vr r0, vi 2]) rfl ?_
    refine XS.aloadN X1.here hx rfl (hb hby d21_32) rfl rfl ?_
    refine XS.iloadN X1.here hx rfl (hb hby d21_33) rfl ?_
    refine XS.iinc X1.here hx rfl (hb hby d21_34) rfl (l' := #[vr r0, vi 3]) rfl ?_
    refine X1.baloadBytes hx (j := (2 : Int32)) (v := (.int (loB ch1))) (by rw [e1]; exact Ar3.1) (State.isArrayOf_alike hZ.alike Ar3.2.1) Ar3.2.2 hin3 hat3 (g := (mkF m 37 #[vr r0, vi 3] [(.int 2), (.ref r0)])) rfl rfl (hb hby d21_37) _ ?_
    show SF p e below T1 m 38 #[vr r0, vi 3] [(.int (loB ch1))] _
    refine XS.sipush X1.here hx rfl (hb hby d21_38) ?_
    refine XS.iand X1.here hx rfl (hb hby d21_41) rfl ?_
    refine st4 _ ?_
    refine XS.ishl X4.here hx rfl (hb hby d21_45) rfl ?_
    refine XS.aloadN X4.here hx rfl (hb hby d21_46) rfl rfl ?_
    show SF p e below T4 m 47 #[vr r0, vi 3] [(.ref r0), (.int (((loB ch1) &&& (255 : Int32)) <<< ((0 : Int32) &&& 31)))] _
    refine XS.iloadN X4.here hx rfl (hb hby d21_47) rfl ?_
    refine X4.baloadBytes hx (j := (3 : Int32)) (v := (.int (hiB ch1))) (by rw [e4]; exact Ar5.1) (State.isArrayOf_alike hZ.alike Ar5.2.1) Ar5.2.2 hin5 hat5 (g := (mkF m 48 #[vr r0, vi 3] [(.int 3), (.ref r0), (.int (((loB ch1) &&& (255 : Int32)) <<< ((0 : Int32) &&& 31)))])) rfl rfl (hb hby d21_48) _ ?_
    refine XS.sipush X4.here hx rfl (hb hby d21_49) ?_
    refine XS.iand X4.here hx rfl (hb hby d21_52) rfl ?_
    refine st6 _ ?_
    show SF p e below T6 m 56 #[vr r0, vi 3] [(.int 8), (.int ((hiB ch1) &&& (255 : Int32))), (.int (((loB ch1) &&& (255 : Int32)) <<< ((0 : Int32) &&& 31)))] _
    refine XS.ishl X6.here hx rfl (hb hby d21_56) rfl ?_
    refine XS.ior X6.here hx rfl (hb hby d21_57) rfl ?_
    refine XS.i2c X6.here hx rfl (hb hby d21_58) rfl ?_
    show SF p e below T6 m 59 #[vr r0, vi 3] [(.int (((((loB ch1) &&& (255 : Int32)) <<< ((0 : Int32) &&& 31)) ||| (((hiB ch1) &&& (255 : Int32)) <<< ((8 : Int32) &&& 31))).toUInt32.toUInt16.toUInt32.toInt32))] _
    exact retN X6 hx (t := .char) Bd.returns (by simp) (hb hby d21_59) hr
  · show Qgc_3_1 Z r0 k0 ch0 ch1 ch2 h0 n0 _ T6.heap _
    rw [e6]
    exact ⟨congrArg (fun z => some (Value.int z)) (own_u16 hbc), N0, rfl⟩
def Qgc_3_2 (Z : State) (r0 : Addr) (k0 : ClassId) (ch0 : Int32) (ch1 : Int32) (ch2 : Int32) (h0 : Heap) (n0 : Nat) (v : Option Value) (h : Heap) (L : List Loc) : Prop := v = some (.int ch2) ∧ Fr n0 L ∧ h = h0
set_option maxRecDepth 65536 in
set_option maxHeartbeats 40000000 in
theorem rmgc_3_2 (l : Launch) (Z : State) (a0 : Array Value) (hw : ∀ d ∈ tables_1, d.before a0 Z = true) (ws : List Jvm.Cond) (r0 : Addr) (k0 : ClassId) (ch0 : Int32) (ch1 : Int32) (ch2 : Int32) (h0 : Heap) (n0 : Nat) (Z0 : n0 ≤ h0.size) (V0 : Arv Z h0 r0 k0 .byte (6 : Int32) [(.int (loB ch0)), (.int (hiB ch0)), (.int (loB ch1)), (.int (hiB ch1)), (.int (loB ch2)), (.int (hiB ch2))] (.int 0)) (hbc : 0 ≤ ch2.toInt ∧ ch2.toInt ≤ 65535) (OA : sA Z h0) (OH : sH Z h0) (OL : sL Z h0) :
    MF l Z mN12 jdk_52_method_5_code 2 (some .char) ws (rK 0 0 0 0) #[(.ref r0), (.int 2)] h0 (Qgc_3_2 Z r0 k0 ch0 ch1 ch2 h0 n0) := by
  refine MetFree.of_bodySF (plainFor_of_name pn_java_lang_StringUTF16) hisR ?_
  intro p e s m args below meth c s₁ Bd hml0 hP hK
  obtain ⟨rfl, hZ, hh⟩ := hP
  have hx := Bd.exec
  have hby := Bd.bytes
  have hml : c.maxLocals = 2 := hml0
  have hown : s.vm.findClass "java/lang/StringUTF16" = some m.cls := findClass_of_methodNamed Bd.named
  have hnm := (name_of_methodNamed Bd.named Bd.method).1
  have X0 : Stand p l e (rK 0 0 0 0) s m #[(.ref r0), (.int 2)] below meth c s₁ [] 0 0 := Stand.of_body Bd
  have e0 : s₁.heap = h0 := by rw [← hh, Bd.state]; rfl
  have N0 := Fr.nil n0
  have pre0 : ∀ t, SF p e below s₁ m 0 #[vr r0, vi 2] [] t → Steps p.tables e below (s₁.setTop (entryFrame m #[(.ref r0), (.int 2)] 2)) t := fun t k => castTop (ef_21 m r0 (2 : Int32)) k
  obtain ⟨T1, X1, e1, st1⟩ := getS2 X0 hx hZ hown (host := "") (Or.inl (tw hw 87 rfl)) Via.refl e0 OA (g := (mkF m 0 #[vr r0, vi 2] [])) rfl (hb hby d21_0)
  have hc2 : ¬ ((1 : Int32) = (0 : Int32)) := by decide
  obtain ⟨cl3, Ar3, -, Sz3, Nn3, Hh3, -⟩ := id V0
  have hin3 : ¬ ((4 : Int32) < 0 ∨ cl3.slots.size ≤ ((4 : Int32)).toNatClampNeg) := inb_of Sz3 ⟨by decide, by decide⟩
  have hat3 : cl3.slots[((4 : Int32)).toNatClampNeg]? = some (.int (loB ch2)) := Hh3 4 (by rw [Sz3]; decide)
  obtain ⟨T4, X4, e4, st4⟩ := getS2 X1 hx hZ hown (host := "") (Or.inl (tw hw 88 rfl)) Via.refl e1 OH (g := (mkF m 42 #[vr r0, vi 5] [(.int ((loB ch2) &&& (255 : Int32)))])) rfl (hb hby d21_42)
  obtain ⟨cl5, Ar5, -, Sz5, Nn5, Hh5, -⟩ := id V0
  have hin5 : ¬ ((5 : Int32) < 0 ∨ cl5.slots.size ≤ ((5 : Int32)).toNatClampNeg) := inb_of Sz5 ⟨by decide, by decide⟩
  have hat5 : cl5.slots[((5 : Int32)).toNatClampNeg]? = some (.int (hiB ch2)) := Hh5 5 (by rw [Sz5]; decide)
  obtain ⟨T6, X6, e6, st6⟩ := getS2 X4 hx hZ hown (host := "") (Or.inl (tw hw 89 rfl)) Via.refl e4 OL (g := (mkF m 53 #[vr r0, vi 5] [(.int ((hiB ch2) &&& (255 : Int32))), (.int (((loB ch2) &&& (255 : Int32)) <<< ((0 : Int32) &&& 31)))])) rfl (hb hby d21_53)
  obtain ⟨fs, hr, hrun, hended, hW, hsame⟩ := X6.leave (v := some (.int (nar .char (((((loB ch2) &&& (255 : Int32)) <<< ((0 : Int32) &&& 31)) ||| (((hiB ch2) &&& (255 : Int32)) <<< ((8 : Int32) &&& 31))).toUInt32.toUInt16.toUInt32.toInt32)))) (fun h => by rw [Bd.returns] at h; cases h)
  refine ⟨_, _, pre0 _ ?_, hrun, hended, _, _, rfl, ?_, ⟨_, rfl⟩, hW, hsame.mono (by decide) (by decide)⟩
  · skip
    show SF p e below s₁ m 0 #[vr r0, vi 2] [] _
    refine st1 _ ?_
    refine XS.ifYes X1.here hx rfl (pc0 := 3) (pc' := 28) rfl (hb hby d21_3) rfl ((if0 _ _).trans (feq hc2).2) (by decide) (by decide) ?_
    refine XS.iloadN X1.here hx rfl (hb hby d21_28) rfl ?_
    refine XS.iconst X1.here hx rfl (hb hby d21_29) ?_
    refine XS.ishl X1.here hx rfl (hb hby d21_30) rfl ?_
    show SF p e below T1 m 31 #[vr r0, vi 2] [(.int 4)] _
    refine XS.istoreN X1.here hx rfl (hb hby d21_31) rfl (l' := #[vr r0, vi 4]) rfl ?_
    refine XS.aloadN X1.here hx rfl (hb hby d21_32) rfl rfl ?_
    refine XS.iloadN X1.here hx rfl (hb hby d21_33) rfl ?_
    refine XS.iinc X1.here hx rfl (hb hby d21_34) rfl (l' := #[vr r0, vi 5]) rfl ?_
    refine X1.baloadBytes hx (j := (4 : Int32)) (v := (.int (loB ch2))) (by rw [e1]; exact Ar3.1) (State.isArrayOf_alike hZ.alike Ar3.2.1) Ar3.2.2 hin3 hat3 (g := (mkF m 37 #[vr r0, vi 5] [(.int 4), (.ref r0)])) rfl rfl (hb hby d21_37) _ ?_
    show SF p e below T1 m 38 #[vr r0, vi 5] [(.int (loB ch2))] _
    refine XS.sipush X1.here hx rfl (hb hby d21_38) ?_
    refine XS.iand X1.here hx rfl (hb hby d21_41) rfl ?_
    refine st4 _ ?_
    refine XS.ishl X4.here hx rfl (hb hby d21_45) rfl ?_
    refine XS.aloadN X4.here hx rfl (hb hby d21_46) rfl rfl ?_
    show SF p e below T4 m 47 #[vr r0, vi 5] [(.ref r0), (.int (((loB ch2) &&& (255 : Int32)) <<< ((0 : Int32) &&& 31)))] _
    refine XS.iloadN X4.here hx rfl (hb hby d21_47) rfl ?_
    refine X4.baloadBytes hx (j := (5 : Int32)) (v := (.int (hiB ch2))) (by rw [e4]; exact Ar5.1) (State.isArrayOf_alike hZ.alike Ar5.2.1) Ar5.2.2 hin5 hat5 (g := (mkF m 48 #[vr r0, vi 5] [(.int 5), (.ref r0), (.int (((loB ch2) &&& (255 : Int32)) <<< ((0 : Int32) &&& 31)))])) rfl rfl (hb hby d21_48) _ ?_
    refine XS.sipush X4.here hx rfl (hb hby d21_49) ?_
    refine XS.iand X4.here hx rfl (hb hby d21_52) rfl ?_
    refine st6 _ ?_
    show SF p e below T6 m 56 #[vr r0, vi 5] [(.int 8), (.int ((hiB ch2) &&& (255 : Int32))), (.int (((loB ch2) &&& (255 : Int32)) <<< ((0 : Int32) &&& 31)))] _
    refine XS.ishl X6.here hx rfl (hb hby d21_56) rfl ?_
    refine XS.ior X6.here hx rfl (hb hby d21_57) rfl ?_
    refine XS.i2c X6.here hx rfl (hb hby d21_58) rfl ?_
    show SF p e below T6 m 59 #[vr r0, vi 5] [(.int (((((loB ch2) &&& (255 : Int32)) <<< ((0 : Int32) &&& 31)) ||| (((hiB ch2) &&& (255 : Int32)) <<< ((8 : Int32) &&& 31))).toUInt32.toUInt16.toUInt32.toInt32))] _
    exact retN X6 hx (t := .char) Bd.returns (by simp) (hb hby d21_59) hr
  · show Qgc_3_2 Z r0 k0 ch0 ch1 ch2 h0 n0 _ T6.heap _
    rw [e6]
    exact ⟨congrArg (fun z => some (Value.int z)) (own_u16 hbc), N0, rfl⟩
def Qcal_3 (Z : State) (r0 : Addr) (k0 : ClassId) (v0 : Int32) (v1 : Int32) (v2 : Int32) (v3 : Int32) (v4 : Int32) (v5 : Int32) (h0 : Heap) (n0 : Nat) (v : Option Value) (h : Heap) (L : List Loc) : Prop := v = some (.int 1) ∧ Fr n0 L ∧ h = h0
set_option maxRecDepth 65536 in
set_option maxHeartbeats 40000000 in
theorem rmcal_3 (l : Launch) (Z : State) (a0 : Array Value) (hw : ∀ d ∈ tables_1, d.before a0 Z = true) (ws : List Jvm.Cond) (r0 : Addr) (k0 : ClassId) (v0 : Int32) (v1 : Int32) (v2 : Int32) (v3 : Int32) (v4 : Int32) (v5 : Int32) (h0 : Heap) (n0 : Nat) (Z0 : n0 ≤ h0.size) (V0 : Arv Z h0 r0 k0 .byte (6 : Int32) [(.int v0), (.int v1), (.int v2), (.int v3), (.int v4), (.int v5)] (.int 0)) :
    MF l Z mN13 jdk_52_method_15_code 2 (some .byte) ws (rK 0 0 0 0) #[(.ref r0), (.int 3)] h0 (Qcal_3 Z r0 k0 v0 v1 v2 v3 v4 v5 h0 n0) := by
  refine MetFree.of_bodySF (plainFor_of_name pn_java_lang_StringUTF16) hisR ?_
  intro p e s m args below meth c s₁ Bd hml0 hP hK
  obtain ⟨rfl, hZ, hh⟩ := hP
  have hx := Bd.exec
  have hby := Bd.bytes
  have hml : c.maxLocals = 2 := hml0
  have hown : s.vm.findClass "java/lang/StringUTF16" = some m.cls := findClass_of_methodNamed Bd.named
  have hnm := (name_of_methodNamed Bd.named Bd.method).1
  have X0 : Stand p l e (rK 0 0 0 0) s m #[(.ref r0), (.int 3)] below meth c s₁ [] 0 0 := Stand.of_body Bd
  have e0 : s₁.heap = h0 := by rw [← hh, Bd.state]; rfl
  have N0 := Fr.nil n0
  have pre0 : ∀ t, SF p e below s₁ m 0 #[vr r0, vi 3] [] t → Steps p.tables e below (s₁.setTop (entryFrame m #[(.ref r0), (.int 3)] 2)) t := fun t k => castTop (ef_8 m r0 (3 : Int32)) k
  obtain ⟨cl1, Ar1, -, Sz1, Nn1, -, -⟩ := id V0
  obtain ⟨fs, hr, hrun, hended, hW, hsame⟩ := X0.leave (v := some (.int 1)) (fun h => by rw [Bd.returns] at h; cases h)
  refine ⟨_, _, pre0 _ ?_, hrun, hended, _, _, rfl, ?_, ⟨_, rfl⟩, hW, hsame.mono (by decide) (by decide)⟩
  · skip
    show SF p e below s₁ m 0 #[vr r0, vi 3] [] _
    refine XS.iloadN X0.here hx rfl (hb hby d8_0) rfl ?_
    refine XS.aloadN X0.here hx rfl (hb hby d8_1) rfl rfl ?_
    refine X0.arraylength hx (by rw [e0]; exact Ar1.1) (State.isArrayOf_alike hZ.alike Ar1.2.1) (g := (mkF m 2 #[vr r0, vi 3] [(.ref r0), (.int 3)])) rfl rfl (hb hby d8_2) _ ?_
    rw [len_of Sz1 Nn1]
    refine XS.isub X0.here hx rfl (hb hby d8_3) rfl ?_
    refine XS.bipush X0.here hx rfl (hb hby d8_4) ?_
    show SF p e below s₁ m 6 #[vr r0, vi 3] [(.int 31), (.int (-3 : Int32))] _
    refine XS.iushr X0.here hx rfl (hb hby d8_6) rfl ?_
    refine XS.i2b X0.here hx rfl (hb hby d8_7) rfl ?_
    show SF p e below s₁ m 8 #[vr r0, vi 3] [(.int 1)] _
    exact retN X0 hx (t := .byte) Bd.returns (by simp) (hb hby d8_8) hr
  · show Qcal_3 Z r0 k0 v0 v1 v2 v3 v4 v5 h0 n0 _ s₁.heap _
    rw [e0]
    exact ⟨rfl, N0, rfl⟩
def Qc5_3_0 (Z : State) (r0 : Addr) (r2 : Addr) (k0 : ClassId) (k2 : ClassId) (ch0 : Int32) (ch1 : Int32) (ch2 : Int32) (h0 : Heap) (n0 : Nat) (v : Option Value) (h : Heap) (L : List Loc) : Prop := v = some (.int 0) ∧ Fr n0 L ∧ Keep h0 h [r2]
set_option maxRecDepth 65536 in
set_option maxHeartbeats 40000000 in
theorem rmc5_3_0 (l : Launch) (Z : State) (a0 : Array Value) (hw : ∀ d ∈ tables_1, d.before a0 Z = true) (ws : List Jvm.Cond) (r0 : Addr) (r2 : Addr) (k0 : ClassId) (k2 : ClassId) (ch0 : Int32) (ch1 : Int32) (ch2 : Int32) (h0 : Heap) (n0 : Nat) (Z0 : n0 ≤ h0.size) (V0 : Arv Z h0 r0 k0 .char (3 : Int32) [(.int ch0), (.int ch1), (.int ch2)] (.int 0)) (V2 : Arv Z h0 r2 k2 .byte (3 : Int32) [(.int 0), (.int 0), (.int 0)] (.int 0)) (ne_r0_r2 : r0 ≠ r2) (g_r2 : n0 ≤ r2) (hw_0 : (255 : Int32) < ch0) :
    MF l Z mN14 jdk_52_method_21_code 7 (some .int) ws (rK 0 0 0 0) #[(.ref r0), (.int 0), (.ref r2), (.int 0), (.int 3)] h0 (Qc5_3_0 Z r0 r2 k0 k2 ch0 ch1 ch2 h0 n0) := by
  refine MetFree.of_bodySF (plainFor_of_name pn_java_lang_StringUTF16) hisR ?_
  intro p e s m args below meth c s₁ Bd hml0 hP hK
  obtain ⟨rfl, hZ, hh⟩ := hP
  have hx := Bd.exec
  have hby := Bd.bytes
  have hml : c.maxLocals = 7 := hml0
  have hown : s.vm.findClass "java/lang/StringUTF16" = some m.cls := findClass_of_methodNamed Bd.named
  have hnm := (name_of_methodNamed Bd.named Bd.method).1
  have X0 : Stand p l e (rK 0 0 0 0) s m #[(.ref r0), (.int 0), (.ref r2), (.int 0), (.int 3)] below meth c s₁ [] 0 0 := Stand.of_body Bd
  have e0 : s₁.heap = h0 := by rw [← hh, Bd.state]; rfl
  have N0 := Fr.nil n0
  have pre0 : ∀ t, SF p e below s₁ m 0 #[vr r0, vi 0, vr r2, vi 0, vi 3, .unset, .unset] [] t → Steps p.tables e below (s₁.setTop (entryFrame m #[(.ref r0), (.int 0), (.ref r2), (.int 0), (.int 3)] 7)) t := fun t k => castTop (ef_7 m r0 (0 : Int32) r2 (0 : Int32) (3 : Int32)) k
  have KR : Keep h0 h0 [r2] := Keep.refl _ _
  have hc1 : (0 : Int32) < (3 : Int32) := by decide
  obtain ⟨cl2, Ar2, -, Sz2, Nn2, Hh2, -⟩ := id V0
  have hin2 : ¬ ((0 : Int32) < 0 ∨ cl2.slots.size ≤ ((0 : Int32)).toNatClampNeg) := inb_of Sz2 ⟨by decide, by decide⟩
  have hat2 : cl2.slots[((0 : Int32)).toNatClampNeg]? = some (.int ch0) := Hh2 0 (by rw [Sz2]; decide)
  have hc3 : (255 : Int32) < ch0 := hw_0
  have ohc3 : 255 < ch0.toInt := own_lt.mp hc3
  obtain ⟨fs, hr, hrun, hended, hW, hsame⟩ := X0.leave (v := some (.int 0)) (fun h => by rw [Bd.returns] at h; cases h)
  refine ⟨_, _, pre0 _ ?_, hrun, hended, _, _, rfl, ?_, ⟨_, rfl⟩, hW, hsame.mono (by decide) (by decide)⟩
  · skip
    show SF p e below s₁ m 0 #[vr r0, vi 0, vr r2, vi 0, vi 3, .unset, .unset] [] _
    refine XS.iconst X0.here hx rfl (hb hby d7_0) ?_
    refine XS.istore X0.here hx rfl (hb hby d7_1) rfl (l' := #[vr r0, vi 0, vr r2, vi 0, vi 3, vi 0, .unset]) rfl ?_
    refine XS.iload X0.here hx rfl (hb hby d7_3) rfl ?_
    refine XS.iload X0.here hx rfl (hb hby d7_5) rfl ?_
    refine XS.icmpNo X0.here hx rfl (hb hby d7_7) rfl (tlt hc1).2.1 ?_
    show SF p e below s₁ m 10 #[vr r0, vi 0, vr r2, vi 0, vi 3, vi 0, .unset] [] _
    refine XS.aloadN X0.here hx rfl (hb hby d7_10) rfl rfl ?_
    refine XS.iloadN X0.here hx rfl (hb hby d7_11) rfl ?_
    refine X0.caload hx (j := (0 : Int32)) (v := (.int ch0)) (by rw [e0]; exact Ar2.1) (State.isArrayOf_alike hZ.alike Ar2.2.1) Ar2.2.2 hin2 hat2 (g := (mkF m 12 #[vr r0, vi 0, vr r2, vi 0, vi 3, vi 0, .unset] [(.int 0), (.ref r0)])) rfl rfl (hb hby d7_12) _ ?_
    refine XS.istore X0.here hx rfl (hb hby d7_13) rfl (l' := #[vr r0, vi 0, vr r2, vi 0, vi 3, vi 0, vi ch0]) rfl ?_
    refine XS.iload X0.here hx rfl (hb hby d7_15) rfl ?_
    show SF p e below s₁ m 17 #[vr r0, vi 0, vr r2, vi 0, vi 3, vi 0, vi ch0] [(.int ch0)] _
    refine XS.sipush X0.here hx rfl (hb hby d7_17) ?_
    refine XS.icmpNo X0.here hx rfl (hb hby d7_20) rfl (tlt hc3).2.2.2 ?_
    refine XS.iload X0.here hx rfl (hb hby d7_23) rfl ?_
    show SF p e below s₁ m 25 #[vr r0, vi 0, vr r2, vi 0, vi 3, vi 0, vi ch0] [(.int 0)] _
    exact retI X0 hx Bd.returns (hb hby d7_25) hr
  · show Qc5_3_0 Z r0 r2 k0 k2 ch0 ch1 ch2 h0 n0 _ s₁.heap _
    rw [e0]
    exact ⟨rfl, N0, KR⟩
def Qc3_3_0 (Z : State) (r0 : Addr) (k0 : ClassId) (ch0 : Int32) (ch1 : Int32) (ch2 : Int32) (h0 : Heap) (n0 : Nat) (v : Option Value) (h : Heap) (L : List Loc) : Prop := ∃ (b : Addr) (kb : ClassId), v = some (.ref b) ∧ Fr n0 L ∧ Keep h0 h [] ∧ h0.size ≤ b ∧ Arv Z h b kb .byte (6 : Int32) [(.int (loB ch0)), (.int (hiB ch0)), (.int (loB ch1)), (.int (hiB ch1)), (.int (loB ch2)), (.int (hiB ch2))] (.int 0)
set_option maxRecDepth 65536 in
set_option maxHeartbeats 40000000 in
theorem rmc3_3_0 (l : Launch) (Z : State) (a0 : Array Value) (hw : ∀ d ∈ tables_1, d.before a0 Z = true) (ws : List Jvm.Cond) (r0 : Addr) (k0 : ClassId) (ch0 : Int32) (ch1 : Int32) (ch2 : Int32) (h0 : Heap) (n0 : Nat) (Z0 : n0 ≤ h0.size) (V0 : Arv Z h0 r0 k0 .char (3 : Int32) [(.int ch0), (.int ch1), (.int ch2)] (.int 0)) (hb_0 : 0 ≤ ch0.toInt ∧ ch0.toInt ≤ 65535) (hw_0 : (255 : Int32) < ch0) (OA : sA Z h0) (OH : sH Z h0) (OL : sL Z h0) :
    MF l Z mN15 jdk_52_method_16_code 6 (some (.array .byte)) ws (rK 3 2 9 40) #[(.ref r0), (.int 0), (.int 3)] h0 (Qc3_3_0 Z r0 k0 ch0 ch1 ch2 h0 n0) := by
  refine MetFree.of_bodySF (plainFor_of_name pn_java_lang_StringUTF16) hisR ?_
  intro p e s m args below meth c s₁ Bd hml0 hP hK
  obtain ⟨rfl, hZ, hh⟩ := hP
  have hx := Bd.exec
  have hby := Bd.bytes
  have hml : c.maxLocals = 6 := hml0
  have hown : s.vm.findClass "java/lang/StringUTF16" = some m.cls := findClass_of_methodNamed Bd.named
  have hnm := (name_of_methodNamed Bd.named Bd.method).1
  have X0 : Stand p l e (rK 3 2 9 40) s m #[(.ref r0), (.int 0), (.int 3)] below meth c s₁ [] 0 0 := Stand.of_body Bd
  have e0 : s₁.heap = h0 := by rw [← hh, Bd.state]; rfl
  have N0 := Fr.nil n0
  have pre0 : ∀ t, SF p e below s₁ m 0 #[vr r0, vi 0, vi 3, .unset, .unset, .unset] [] t → Steps p.tables e below (s₁.setTop (entryFrame m #[(.ref r0), (.int 0), (.int 3)] 6)) t := fun t k => castTop (ef_6 m r0 (0 : Int32) (3 : Int32)) k
  have KR : Keep h0 h0 [] := Keep.refl _ _
  obtain ⟨T1, h1, k1, X1, e1, E1, A1, st1⟩ := newP X0 hx hZ (tw hw 15 rfl) e0 (g := (mkF m 1 #[vr r0, vi 0, vi 3, .unset, .unset, .unset] [(.int 3)])) rfl (hb hby d6_1) rfl (by decide) (cap := 3) (by decide) (by decide) (by decide) (by decide)
  obtain ⟨b1, g1⟩ : ∃ z, z = h0.size := ⟨_, rfl⟩
  rw [← g1] at A1 st1
  have g_b1 : n0 ≤ b1 := Nat.le_trans Z0 (Nat.le_of_eq g1.symm)
  have Z1 : n0 ≤ h1.size := Nat.le_trans Z0 E1.1
  have ne_r0_b1 : r0 ≠ b1 := Nat.ne_of_lt (Nat.lt_of_lt_of_le V0.lt (Nat.le_of_eq g1.symm))
  have K1 : Keep h0 h1 [] := KR.ext E1
  have sz_b1 : h0.size ≤ b1 := Nat.le_trans KR.1 (Nat.le_of_eq g1.symm)
  have c2 : Arv Z h1 r0 k0 .char (3 : Int32) [(.int ch0), (.int ch1), (.int ch2)] (.int 0) := V0.ext E1
  have V1 : Arv Z h1 b1 k1 .byte (3 : Int32) [(.int 0), (.int 0), (.int 0)] (.int 0) := (Arv.new A1 (by decide)).pad (pad_rep [] (.int 0) 3)
  obtain ⟨_, _, ⟨T3, L3, k3, n3⟩, -, X3, ⟨Lc3, hQ3, l3, y3, z3⟩, st3⟩ := Jvm.LawKit.callS X1 hx (y := mN14) hown (mvT hZ (tw hw 36 rfl)) (mvT hZ (tw hw 37 rfl)) (mvT hZ (tw hw 34 rfl)) (mvT hZ (tw hw 38 rfl)) (by decide) (backOf (W := 0) (rmc5_3_0 l Z a0 hw [] r0 b1 k0 k1 ch0 ch1 ch2 h1 n0 Z1 c2 V1 ne_r0_b1 g_b1 hw_0) hZ (tw hw 38 rfl) (tw hw 34 rfl) (by decide) (by decide)) (g := (mkF m 9 #[vr r0, vi 0, vi 3, vr b1, .unset, .unset] [(.int 3), (.int 0), (.ref b1), (.int 0), (.ref r0)])) rfl (by rw [hml]; rfl) (argsL := [(.ref r0), (.int 0), (.ref b1), (.int 0), (.int 3)]) (rest := []) (lenOf pd_5 rfl) rfl (by show 2 * 0 + _ ≤ _; exact Nat.le_of_eq rfl) (hb hby d6_9) (fun _ _ => ⟨rfl, e1, (by decide : 1 + 0 ≤ _), (by decide : 3 + 0 ≤ _)⟩)
  dsimp only [Pt.U, Pt.locs, Pt.cells, Pt.slots] at X3 l3 y3 z3 st3 hQ3
  subst l3 y3 z3
  obtain ⟨rfl, Nq3, Kq3⟩ := hQ3
  have N3 := Fr.app N0 Nq3
  have Z3 : n0 ≤ T3.heap.size := Nat.le_trans Z1 Kq3.1
  have K3 : Keep h0 T3.heap [] := K1.trans Kq3 (fun x hx => by cases List.mem_singleton.mp hx; exact (Or.inr sz_b1))
  have c4 : Arv Z T3.heap r0 k0 .char (3 : Int32) [(.int ch0), (.int ch1), (.int ch2)] (.int 0) := c2.keep Kq3 (fun q => ne_r0_b1 (List.mem_singleton.mp q))
  have hc5 : ¬ ((0 : Int32) = (3 : Int32)) := by decide
  obtain ⟨_, _, ⟨T6, L6, k6, n6⟩, -, X6, ⟨Lc6, hQ6, l6, y6, z6⟩, st6⟩ := Jvm.LawKit.callS X3 hx (y := mN11) hown (mvT hZ (tw hw 74 rfl)) (mvT hZ (tw hw 75 rfl)) (mvT hZ (tw hw 34 rfl)) (mvT hZ (tw hw 76 rfl)) (by decide) (backOf (W := 0) (rmtb_3 l Z a0 hw [] r0 k0 ch0 ch1 ch2 T3.heap n0 Z3 c4 (own_s0 OA K3) (own_s0 OH K3) (own_s0 OL K3)) hZ (tw hw 76 rfl) (tw hw 34 rfl) (by decide) (by decide)) (g := (mkF m 23 #[vr r0, vi 0, vi 3, vr b1, vi 0, .unset] [(.int 3), (.int 0), (.ref r0)])) rfl (by rw [hml]; rfl) (argsL := [(.ref r0), (.int 0), (.int 3)]) (rest := []) (lenOf pd_6 rfl) rfl (by show 2 * 0 + _ ≤ _; exact Nat.le_of_eq rfl) (hb hby d6_23) (fun _ _ => ⟨rfl, rfl, (by decide : 1 + 1 ≤ _), (by decide : 3 + 6 ≤ _)⟩)
  dsimp only [Pt.U, Pt.locs, Pt.cells, Pt.slots] at X6 l6 y6 z6 st6 hQ6
  subst l6 y6 z6
  obtain ⟨b6, kb6, rfl, Nq6, Kq6, sq6, Vq6⟩ := hQ6
  have N6 := Fr.app N3 Nq6
  have Z6 : n0 ≤ T6.heap.size := Nat.le_trans Z3 Kq6.1
  have ne_r0_b6 : r0 ≠ b6 := Nat.ne_of_lt (Nat.lt_of_lt_of_le c4.lt sq6)
  have g_b6 : n0 ≤ b6 := Nat.le_trans Z3 sq6
  have sz_b6 : h0.size ≤ b6 := Nat.le_trans K3.1 sq6
  have K6 : Keep h0 T6.heap [] := K3.trans Kq6 (fun x hx => by cases hx)
  have c7 : Arv Z T6.heap r0 k0 .char (3 : Int32) [(.int ch0), (.int ch1), (.int ch2)] (.int 0) := c4.keep Kq6 (by simp)
  obtain ⟨_, _, ⟨T8, L8, k8, n8⟩, -, X8, ⟨Lc8, hQ8, l8, y8, z8⟩, st8⟩ := Jvm.LawKit.callS X6 hx (y := mN12) hown (mvT hZ (tw hw 90 rfl)) (mvT hZ (tw hw 91 rfl)) (mvT hZ (tw hw 34 rfl)) (mvT hZ (tw hw 92 rfl)) (by decide) (backOf (W := 0) (rmgc_3_0 l Z a0 hw [] b6 kb6 ch0 ch1 ch2 T6.heap n0 Z6 Vq6 hb_0 (own_s0 OA K6) (own_s0 OH K6) (own_s0 OL K6)) hZ (tw hw 92 rfl) (tw hw 34 rfl) (by decide) (by decide)) (g := (mkF m 32 #[vr r0, vi 0, vi 3, vr b1, vi 0, vr b6] [(.int 0), (.ref b6)])) rfl (by rw [hml]; rfl) (argsL := [(.ref b6), (.int 0)]) (rest := []) (lenOf pd_7 rfl) rfl (by show 2 * 0 + _ ≤ _; exact Nat.le_of_eq rfl) (hb hby d6_32) (fun _ _ => ⟨rfl, rfl, (by decide : 2 + 0 ≤ _), (by decide : 9 + 0 ≤ _)⟩)
  dsimp only [Pt.U, Pt.locs, Pt.cells, Pt.slots] at X8 l8 y8 z8 st8 hQ8
  subst l8 y8 z8
  obtain ⟨rfl, Nq8, e8⟩ := hQ8
  have N8 := Fr.app N6 Nq8
  have hc9 : (255 : Int32) < ch0 := hw_0
  have ohc9 : 255 < ch0.toInt := own_lt.mp hc9
  obtain ⟨fs, hr, hrun, hended, hW, hsame⟩ := X8.leave (v := some (.ref b6)) (fun h => by rw [Bd.returns] at h; cases h)
  refine ⟨_, _, pre0 _ ?_, hrun, hended, _, _, rfl, ?_, ⟨_, rfl⟩, hW, hsame.mono (by decide) (by decide)⟩
  · skip
    show SF p e below s₁ m 0 #[vr r0, vi 0, vi 3, .unset, .unset, .unset] [] _
    refine XS.iloadN X0.here hx rfl (hb hby d6_0) rfl ?_
    refine st1 _ ?_
    refine XS.astoreN X1.here hx rfl (hb hby d6_3) rfl rfl (l' := #[vr r0, vi 0, vi 3, vr b1, .unset, .unset]) rfl ?_
    refine XS.aloadN X1.here hx rfl (hb hby d6_4) rfl rfl ?_
    refine XS.iloadN X1.here hx rfl (hb hby d6_5) rfl ?_
    show SF p e below T1 m 6 #[vr r0, vi 0, vi 3, vr b1, .unset, .unset] [(.int 0), (.ref r0)] _
    refine XS.aloadN X1.here hx rfl (hb hby d6_6) rfl rfl ?_
    refine XS.iconst X1.here hx rfl (hb hby d6_7) ?_
    refine XS.iloadN X1.here hx rfl (hb hby d6_8) rfl ?_
    refine st3 _ ?_
    refine XS.istore X3.here hx rfl (hb hby d6_12) rfl (l' := #[vr r0, vi 0, vi 3, vr b1, vi 0, .unset]) rfl ?_
    show SF p e below T3 m 14 #[vr r0, vi 0, vi 3, vr b1, vi 0, .unset] [] _
    refine XS.iload X3.here hx rfl (hb hby d6_14) rfl ?_
    refine XS.iloadN X3.here hx rfl (hb hby d6_16) rfl ?_
    refine XS.icmpNo X3.here hx rfl (hb hby d6_17) rfl (feq hc5).1 ?_
    refine XS.aloadN X3.here hx rfl (hb hby d6_20) rfl rfl ?_
    refine XS.iloadN X3.here hx rfl (hb hby d6_21) rfl ?_
    show SF p e below T3 m 22 #[vr r0, vi 0, vi 3, vr b1, vi 0, .unset] [(.int 0), (.ref r0)] _
    refine XS.iloadN X3.here hx rfl (hb hby d6_22) rfl ?_
    refine st6 _ ?_
    refine XS.astore X6.here hx rfl (hb hby d6_26) rfl rfl (l' := #[vr r0, vi 0, vi 3, vr b1, vi 0, vr b6]) rfl ?_
    refine XS.aload X6.here hx rfl (hb hby d6_28) rfl rfl ?_
    refine XS.iload X6.here hx rfl (hb hby d6_30) rfl ?_
    show SF p e below T6 m 32 #[vr r0, vi 0, vi 3, vr b1, vi 0, vr b6] [(.int 0), (.ref b6)] _
    refine st8 _ ?_
    refine XS.sipush X8.here hx rfl (hb hby d6_35) ?_
    refine XS.icmpYes X8.here hx rfl (pc0 := 38) (pc' := 54) rfl (hb hby d6_38) rfl (tlt hc9).2.2.1 (by decide) (by decide) ?_
    refine XS.aload X8.here hx rfl (hb hby d6_54) rfl rfl ?_
    show SF p e below T8 m 56 #[vr r0, vi 0, vi 3, vr b1, vi 0, vr b6] [(.ref b6)] _
    jvm_step X8.here [X8.here.top, hx, (hb hby d6_56), X8.method', Bd.returns, Value.isRef, FieldType.isReference]
    first | (intro acts; rw [hr _ acts rfl rfl rfl]) | rw [hr _ _ rfl rfl rfl]
    exact Steps.refl _
  · show Qc3_3_0 Z r0 k0 ch0 ch1 ch2 h0 n0 _ T8.heap _
    rw [e8]
    exact ⟨b6, kb6, rfl, N8, K6, sz_b6, Vq6⟩
def Qc5_3_1 (Z : State) (r0 : Addr) (r2 : Addr) (k0 : ClassId) (k2 : ClassId) (ch0 : Int32) (ch1 : Int32) (ch2 : Int32) (h0 : Heap) (n0 : Nat) (v : Option Value) (h : Heap) (L : List Loc) : Prop := v = some (.int 1) ∧ Fr n0 L ∧ Keep h0 h [r2]
set_option maxRecDepth 65536 in
set_option maxHeartbeats 40000000 in
theorem rmc5_3_1 (l : Launch) (Z : State) (a0 : Array Value) (hw : ∀ d ∈ tables_1, d.before a0 Z = true) (ws : List Jvm.Cond) (r0 : Addr) (r2 : Addr) (k0 : ClassId) (k2 : ClassId) (ch0 : Int32) (ch1 : Int32) (ch2 : Int32) (h0 : Heap) (n0 : Nat) (Z0 : n0 ≤ h0.size) (V0 : Arv Z h0 r0 k0 .char (3 : Int32) [(.int ch0), (.int ch1), (.int ch2)] (.int 0)) (V2 : Arv Z h0 r2 k2 .byte (3 : Int32) [(.int 0), (.int 0), (.int 0)] (.int 0)) (ne_r0_r2 : r0 ≠ r2) (g_r2 : n0 ≤ r2) (hs_0 : ¬ ((255 : Int32) < ch0)) (hw_1 : (255 : Int32) < ch1) :
    MF l Z mN14 jdk_52_method_21_code 7 (some .int) ws (rK 0 0 0 0) #[(.ref r0), (.int 0), (.ref r2), (.int 0), (.int 3)] h0 (Qc5_3_1 Z r0 r2 k0 k2 ch0 ch1 ch2 h0 n0) := by
  refine MetFree.of_bodySF (plainFor_of_name pn_java_lang_StringUTF16) hisR ?_
  intro p e s m args below meth c s₁ Bd hml0 hP hK
  obtain ⟨rfl, hZ, hh⟩ := hP
  have hx := Bd.exec
  have hby := Bd.bytes
  have hml : c.maxLocals = 7 := hml0
  have hown : s.vm.findClass "java/lang/StringUTF16" = some m.cls := findClass_of_methodNamed Bd.named
  have hnm := (name_of_methodNamed Bd.named Bd.method).1
  have X0 : Stand p l e (rK 0 0 0 0) s m #[(.ref r0), (.int 0), (.ref r2), (.int 0), (.int 3)] below meth c s₁ [] 0 0 := Stand.of_body Bd
  have e0 : s₁.heap = h0 := by rw [← hh, Bd.state]; rfl
  have N0 := Fr.nil n0
  have pre0 : ∀ t, SF p e below s₁ m 0 #[vr r0, vi 0, vr r2, vi 0, vi 3, .unset, .unset] [] t → Steps p.tables e below (s₁.setTop (entryFrame m #[(.ref r0), (.int 0), (.ref r2), (.int 0), (.int 3)] 7)) t := fun t k => castTop (ef_7 m r0 (0 : Int32) r2 (0 : Int32) (3 : Int32)) k
  have KR : Keep h0 h0 [r2] := Keep.refl _ _
  have hc1 : (0 : Int32) < (3 : Int32) := by decide
  obtain ⟨cl2, Ar2, -, Sz2, Nn2, Hh2, -⟩ := id V0
  have hin2 : ¬ ((0 : Int32) < 0 ∨ cl2.slots.size ≤ ((0 : Int32)).toNatClampNeg) := inb_of Sz2 ⟨by decide, by decide⟩
  have hat2 : cl2.slots[((0 : Int32)).toNatClampNeg]? = some (.int ch0) := Hh2 0 (by rw [Sz2]; decide)
  have hc3 : ¬ ((255 : Int32) < ch0) := hs_0
  have ohc3 : ch0.toInt ≤ 255 := own_nlt.mp hc3
  obtain ⟨cl4, Ar4, q4, Sz4, Nn4, Hh4, Gg4⟩ := id V2
  have hin4 : ¬ ((0 : Int32) < 0 ∨ cl4.slots.size ≤ ((0 : Int32)).toNatClampNeg) := inb_of Sz4 ⟨by decide, by decide⟩
  obtain ⟨T5, h5, X5, e5, W5, st5⟩ := stB X0 hx hZ e0 Ar4 (j := (0 : Int32)) hin4 (g := (mkF m 31 #[vr r0, vi 0, vr r2, vi 0, vi 3, vi 0, vi ch0] [(.int (ch0.toInt8.toInt32)), (.int 0), (.ref r2)])) rfl rfl (hb hby d7_31)
  have V5 : Arv Z h5 r2 k2 .byte (3 : Int32) [(.int (nar .byte (ch0.toInt8.toInt32))), (.int 0), (.int 0)] (.int 0) := Arv.set Ar4 q4 Sz4 Nn4 Hh4 Gg4 (fits_nar_byte _) W5 0 rfl (Nat.le_of_ble_eq_true rfl)
  have N5 := Fr.snoc X5 N0 g_r2
  have Z5 : n0 ≤ h5.size := Nat.le_trans Z0 (Keep.of_wr W5).1
  have K5 : Keep h0 h5 [r2] := KR.wr W5 (Or.inl (List.mem_of_getElem? (i := 0) rfl))
  have c6 : Arv Z h5 r0 k0 .char (3 : Int32) [(.int ch0), (.int ch1), (.int ch2)] (.int 0) := V0.other W5 ne_r0_r2
  have hc7 : (1 : Int32) < (3 : Int32) := by decide
  obtain ⟨cl8, Ar8, -, Sz8, Nn8, Hh8, -⟩ := id c6
  have hin8 : ¬ ((1 : Int32) < 0 ∨ cl8.slots.size ≤ ((1 : Int32)).toNatClampNeg) := inb_of Sz8 ⟨by decide, by decide⟩
  have hat8 : cl8.slots[((1 : Int32)).toNatClampNeg]? = some (.int ch1) := Hh8 1 (by rw [Sz8]; decide)
  have hc9 : (255 : Int32) < ch1 := hw_1
  have ohc9 : 255 < ch1.toInt := own_lt.mp hc9
  obtain ⟨fs, hr, hrun, hended, hW, hsame⟩ := X5.leave (v := some (.int 1)) (fun h => by rw [Bd.returns] at h; cases h)
  refine ⟨_, _, pre0 _ ?_, hrun, hended, _, _, rfl, ?_, ⟨_, rfl⟩, hW, hsame.mono (by decide) (by decide)⟩
  · skip
    show SF p e below s₁ m 0 #[vr r0, vi 0, vr r2, vi 0, vi 3, .unset, .unset] [] _
    refine XS.iconst X0.here hx rfl (hb hby d7_0) ?_
    refine XS.istore X0.here hx rfl (hb hby d7_1) rfl (l' := #[vr r0, vi 0, vr r2, vi 0, vi 3, vi 0, .unset]) rfl ?_
    refine XS.iload X0.here hx rfl (hb hby d7_3) rfl ?_
    refine XS.iload X0.here hx rfl (hb hby d7_5) rfl ?_
    refine XS.icmpNo X0.here hx rfl (hb hby d7_7) rfl (tlt hc1).2.1 ?_
    show SF p e below s₁ m 10 #[vr r0, vi 0, vr r2, vi 0, vi 3, vi 0, .unset] [] _
    refine XS.aloadN X0.here hx rfl (hb hby d7_10) rfl rfl ?_
    refine XS.iloadN X0.here hx rfl (hb hby d7_11) rfl ?_
    refine X0.caload hx (j := (0 : Int32)) (v := (.int ch0)) (by rw [e0]; exact Ar2.1) (State.isArrayOf_alike hZ.alike Ar2.2.1) Ar2.2.2 hin2 hat2 (g := (mkF m 12 #[vr r0, vi 0, vr r2, vi 0, vi 3, vi 0, .unset] [(.int 0), (.ref r0)])) rfl rfl (hb hby d7_12) _ ?_
    refine XS.istore X0.here hx rfl (hb hby d7_13) rfl (l' := #[vr r0, vi 0, vr r2, vi 0, vi 3, vi 0, vi ch0]) rfl ?_
    refine XS.iload X0.here hx rfl (hb hby d7_15) rfl ?_
    show SF p e below s₁ m 17 #[vr r0, vi 0, vr r2, vi 0, vi 3, vi 0, vi ch0] [(.int ch0)] _
    refine XS.sipush X0.here hx rfl (hb hby d7_17) ?_
    refine XS.icmpYes X0.here hx rfl (pc0 := 20) (pc' := 26) rfl (hb hby d7_20) rfl (flt hc3).2.2.2 (by decide) (by decide) ?_
    refine XS.aloadN X0.here hx rfl (hb hby d7_26) rfl rfl ?_
    refine XS.iloadN X0.here hx rfl (hb hby d7_27) rfl ?_
    refine XS.iload X0.here hx rfl (hb hby d7_28) rfl ?_
    show SF p e below s₁ m 30 #[vr r0, vi 0, vr r2, vi 0, vi 3, vi 0, vi ch0] [(.int ch0), (.int 0), (.ref r2)] _
    refine XS.i2b X0.here hx rfl (hb hby d7_30) rfl ?_
    refine st5 _ ?_
    refine XS.iinc X5.here hx rfl (hb hby d7_32) rfl (l' := #[vr r0, vi 1, vr r2, vi 0, vi 3, vi 0, vi ch0]) rfl ?_
    refine XS.iinc X5.here hx rfl (hb hby d7_35) rfl (l' := #[vr r0, vi 1, vr r2, vi 1, vi 3, vi 0, vi ch0]) rfl ?_
    refine XS.iinc X5.here hx rfl (hb hby d7_38) rfl (l' := #[vr r0, vi 1, vr r2, vi 1, vi 3, vi 1, vi ch0]) rfl ?_
    show SF p e below T5 m 41 #[vr r0, vi 1, vr r2, vi 1, vi 3, vi 1, vi ch0] [] _
    refine XS.goto X5.here hx rfl (pc0 := 41) (pc' := 3) rfl (hb hby d7_41) (by decide) (by decide) ?_
    refine XS.iload X5.here hx rfl (hb hby d7_3) rfl ?_
    refine XS.iload X5.here hx rfl (hb hby d7_5) rfl ?_
    refine XS.icmpNo X5.here hx rfl (hb hby d7_7) rfl (tlt hc7).2.1 ?_
    refine XS.aloadN X5.here hx rfl (hb hby d7_10) rfl rfl ?_
    show SF p e below T5 m 11 #[vr r0, vi 1, vr r2, vi 1, vi 3, vi 1, vi ch0] [(.ref r0)] _
    refine XS.iloadN X5.here hx rfl (hb hby d7_11) rfl ?_
    refine X5.caload hx (j := (1 : Int32)) (v := (.int ch1)) (by rw [e5]; exact Ar8.1) (State.isArrayOf_alike hZ.alike Ar8.2.1) Ar8.2.2 hin8 hat8 (g := (mkF m 12 #[vr r0, vi 1, vr r2, vi 1, vi 3, vi 1, vi ch0] [(.int 1), (.ref r0)])) rfl rfl (hb hby d7_12) _ ?_
    refine XS.istore X5.here hx rfl (hb hby d7_13) rfl (l' := #[vr r0, vi 1, vr r2, vi 1, vi 3, vi 1, vi ch1]) rfl ?_
    refine XS.iload X5.here hx rfl (hb hby d7_15) rfl ?_
    refine XS.sipush X5.here hx rfl (hb hby d7_17) ?_
    show SF p e below T5 m 20 #[vr r0, vi 1, vr r2, vi 1, vi 3, vi 1, vi ch1] [(.int 255), (.int ch1)] _
    refine XS.icmpNo X5.here hx rfl (hb hby d7_20) rfl (tlt hc9).2.2.2 ?_
    refine XS.iload X5.here hx rfl (hb hby d7_23) rfl ?_
    show SF p e below T5 m 25 #[vr r0, vi 1, vr r2, vi 1, vi 3, vi 1, vi ch1] [(.int 1)] _
    exact retI X5 hx Bd.returns (hb hby d7_25) hr
  · show Qc5_3_1 Z r0 r2 k0 k2 ch0 ch1 ch2 h0 n0 _ T5.heap _
    rw [e5]
    exact ⟨rfl, N5, K5⟩
def Qc3_3_1 (Z : State) (r0 : Addr) (k0 : ClassId) (ch0 : Int32) (ch1 : Int32) (ch2 : Int32) (h0 : Heap) (n0 : Nat) (v : Option Value) (h : Heap) (L : List Loc) : Prop := ∃ (b : Addr) (kb : ClassId), v = some (.ref b) ∧ Fr n0 L ∧ Keep h0 h [] ∧ h0.size ≤ b ∧ Arv Z h b kb .byte (6 : Int32) [(.int (loB ch0)), (.int (hiB ch0)), (.int (loB ch1)), (.int (hiB ch1)), (.int (loB ch2)), (.int (hiB ch2))] (.int 0)
set_option maxRecDepth 65536 in
set_option maxHeartbeats 40000000 in
theorem rmc3_3_1 (l : Launch) (Z : State) (a0 : Array Value) (hw : ∀ d ∈ tables_1, d.before a0 Z = true) (ws : List Jvm.Cond) (r0 : Addr) (k0 : ClassId) (ch0 : Int32) (ch1 : Int32) (ch2 : Int32) (h0 : Heap) (n0 : Nat) (Z0 : n0 ≤ h0.size) (V0 : Arv Z h0 r0 k0 .char (3 : Int32) [(.int ch0), (.int ch1), (.int ch2)] (.int 0)) (hb_1 : 0 ≤ ch1.toInt ∧ ch1.toInt ≤ 65535) (hs_0 : ¬ ((255 : Int32) < ch0)) (hw_1 : (255 : Int32) < ch1) (OA : sA Z h0) (OH : sH Z h0) (OL : sL Z h0) :
    MF l Z mN15 jdk_52_method_16_code 6 (some (.array .byte)) ws (rK 3 2 9 40) #[(.ref r0), (.int 0), (.int 3)] h0 (Qc3_3_1 Z r0 k0 ch0 ch1 ch2 h0 n0) := by
  refine MetFree.of_bodySF (plainFor_of_name pn_java_lang_StringUTF16) hisR ?_
  intro p e s m args below meth c s₁ Bd hml0 hP hK
  obtain ⟨rfl, hZ, hh⟩ := hP
  have hx := Bd.exec
  have hby := Bd.bytes
  have hml : c.maxLocals = 6 := hml0
  have hown : s.vm.findClass "java/lang/StringUTF16" = some m.cls := findClass_of_methodNamed Bd.named
  have hnm := (name_of_methodNamed Bd.named Bd.method).1
  have X0 : Stand p l e (rK 3 2 9 40) s m #[(.ref r0), (.int 0), (.int 3)] below meth c s₁ [] 0 0 := Stand.of_body Bd
  have e0 : s₁.heap = h0 := by rw [← hh, Bd.state]; rfl
  have N0 := Fr.nil n0
  have pre0 : ∀ t, SF p e below s₁ m 0 #[vr r0, vi 0, vi 3, .unset, .unset, .unset] [] t → Steps p.tables e below (s₁.setTop (entryFrame m #[(.ref r0), (.int 0), (.int 3)] 6)) t := fun t k => castTop (ef_6 m r0 (0 : Int32) (3 : Int32)) k
  have KR : Keep h0 h0 [] := Keep.refl _ _
  obtain ⟨T1, h1, k1, X1, e1, E1, A1, st1⟩ := newP X0 hx hZ (tw hw 15 rfl) e0 (g := (mkF m 1 #[vr r0, vi 0, vi 3, .unset, .unset, .unset] [(.int 3)])) rfl (hb hby d6_1) rfl (by decide) (cap := 3) (by decide) (by decide) (by decide) (by decide)
  obtain ⟨b1, g1⟩ : ∃ z, z = h0.size := ⟨_, rfl⟩
  rw [← g1] at A1 st1
  have g_b1 : n0 ≤ b1 := Nat.le_trans Z0 (Nat.le_of_eq g1.symm)
  have Z1 : n0 ≤ h1.size := Nat.le_trans Z0 E1.1
  have ne_r0_b1 : r0 ≠ b1 := Nat.ne_of_lt (Nat.lt_of_lt_of_le V0.lt (Nat.le_of_eq g1.symm))
  have K1 : Keep h0 h1 [] := KR.ext E1
  have sz_b1 : h0.size ≤ b1 := Nat.le_trans KR.1 (Nat.le_of_eq g1.symm)
  have c2 : Arv Z h1 r0 k0 .char (3 : Int32) [(.int ch0), (.int ch1), (.int ch2)] (.int 0) := V0.ext E1
  have V1 : Arv Z h1 b1 k1 .byte (3 : Int32) [(.int 0), (.int 0), (.int 0)] (.int 0) := (Arv.new A1 (by decide)).pad (pad_rep [] (.int 0) 3)
  obtain ⟨_, _, ⟨T3, L3, k3, n3⟩, -, X3, ⟨Lc3, hQ3, l3, y3, z3⟩, st3⟩ := Jvm.LawKit.callS X1 hx (y := mN14) hown (mvT hZ (tw hw 36 rfl)) (mvT hZ (tw hw 37 rfl)) (mvT hZ (tw hw 34 rfl)) (mvT hZ (tw hw 38 rfl)) (by decide) (backOf (W := 0) (rmc5_3_1 l Z a0 hw [] r0 b1 k0 k1 ch0 ch1 ch2 h1 n0 Z1 c2 V1 ne_r0_b1 g_b1 hs_0 hw_1) hZ (tw hw 38 rfl) (tw hw 34 rfl) (by decide) (by decide)) (g := (mkF m 9 #[vr r0, vi 0, vi 3, vr b1, .unset, .unset] [(.int 3), (.int 0), (.ref b1), (.int 0), (.ref r0)])) rfl (by rw [hml]; rfl) (argsL := [(.ref r0), (.int 0), (.ref b1), (.int 0), (.int 3)]) (rest := []) (lenOf pd_5 rfl) rfl (by show 2 * 0 + _ ≤ _; exact Nat.le_of_eq rfl) (hb hby d6_9) (fun _ _ => ⟨rfl, e1, (by decide : 1 + 0 ≤ _), (by decide : 3 + 0 ≤ _)⟩)
  dsimp only [Pt.U, Pt.locs, Pt.cells, Pt.slots] at X3 l3 y3 z3 st3 hQ3
  subst l3 y3 z3
  obtain ⟨rfl, Nq3, Kq3⟩ := hQ3
  have N3 := Fr.app N0 Nq3
  have Z3 : n0 ≤ T3.heap.size := Nat.le_trans Z1 Kq3.1
  have K3 : Keep h0 T3.heap [] := K1.trans Kq3 (fun x hx => by cases List.mem_singleton.mp hx; exact (Or.inr sz_b1))
  have c4 : Arv Z T3.heap r0 k0 .char (3 : Int32) [(.int ch0), (.int ch1), (.int ch2)] (.int 0) := c2.keep Kq3 (fun q => ne_r0_b1 (List.mem_singleton.mp q))
  have hc5 : ¬ ((1 : Int32) = (3 : Int32)) := by decide
  obtain ⟨_, _, ⟨T6, L6, k6, n6⟩, -, X6, ⟨Lc6, hQ6, l6, y6, z6⟩, st6⟩ := Jvm.LawKit.callS X3 hx (y := mN11) hown (mvT hZ (tw hw 74 rfl)) (mvT hZ (tw hw 75 rfl)) (mvT hZ (tw hw 34 rfl)) (mvT hZ (tw hw 76 rfl)) (by decide) (backOf (W := 0) (rmtb_3 l Z a0 hw [] r0 k0 ch0 ch1 ch2 T3.heap n0 Z3 c4 (own_s0 OA K3) (own_s0 OH K3) (own_s0 OL K3)) hZ (tw hw 76 rfl) (tw hw 34 rfl) (by decide) (by decide)) (g := (mkF m 23 #[vr r0, vi 0, vi 3, vr b1, vi 1, .unset] [(.int 3), (.int 0), (.ref r0)])) rfl (by rw [hml]; rfl) (argsL := [(.ref r0), (.int 0), (.int 3)]) (rest := []) (lenOf pd_6 rfl) rfl (by show 2 * 0 + _ ≤ _; exact Nat.le_of_eq rfl) (hb hby d6_23) (fun _ _ => ⟨rfl, rfl, (by decide : 1 + 1 ≤ _), (by decide : 3 + 6 ≤ _)⟩)
  dsimp only [Pt.U, Pt.locs, Pt.cells, Pt.slots] at X6 l6 y6 z6 st6 hQ6
  subst l6 y6 z6
  obtain ⟨b6, kb6, rfl, Nq6, Kq6, sq6, Vq6⟩ := hQ6
  have N6 := Fr.app N3 Nq6
  have Z6 : n0 ≤ T6.heap.size := Nat.le_trans Z3 Kq6.1
  have ne_r0_b6 : r0 ≠ b6 := Nat.ne_of_lt (Nat.lt_of_lt_of_le c4.lt sq6)
  have g_b6 : n0 ≤ b6 := Nat.le_trans Z3 sq6
  have sz_b6 : h0.size ≤ b6 := Nat.le_trans K3.1 sq6
  have K6 : Keep h0 T6.heap [] := K3.trans Kq6 (fun x hx => by cases hx)
  have c7 : Arv Z T6.heap r0 k0 .char (3 : Int32) [(.int ch0), (.int ch1), (.int ch2)] (.int 0) := c4.keep Kq6 (by simp)
  obtain ⟨_, _, ⟨T8, L8, k8, n8⟩, -, X8, ⟨Lc8, hQ8, l8, y8, z8⟩, st8⟩ := Jvm.LawKit.callS X6 hx (y := mN12) hown (mvT hZ (tw hw 90 rfl)) (mvT hZ (tw hw 91 rfl)) (mvT hZ (tw hw 34 rfl)) (mvT hZ (tw hw 92 rfl)) (by decide) (backOf (W := 0) (rmgc_3_1 l Z a0 hw [] b6 kb6 ch0 ch1 ch2 T6.heap n0 Z6 Vq6 hb_1 (own_s0 OA K6) (own_s0 OH K6) (own_s0 OL K6)) hZ (tw hw 92 rfl) (tw hw 34 rfl) (by decide) (by decide)) (g := (mkF m 32 #[vr r0, vi 0, vi 3, vr b1, vi 1, vr b6] [(.int 1), (.ref b6)])) rfl (by rw [hml]; rfl) (argsL := [(.ref b6), (.int 1)]) (rest := []) (lenOf pd_7 rfl) rfl (by show 2 * 0 + _ ≤ _; exact Nat.le_of_eq rfl) (hb hby d6_32) (fun _ _ => ⟨rfl, rfl, (by decide : 2 + 0 ≤ _), (by decide : 9 + 0 ≤ _)⟩)
  dsimp only [Pt.U, Pt.locs, Pt.cells, Pt.slots] at X8 l8 y8 z8 st8 hQ8
  subst l8 y8 z8
  obtain ⟨rfl, Nq8, e8⟩ := hQ8
  have N8 := Fr.app N6 Nq8
  have hc9 : (255 : Int32) < ch1 := hw_1
  have ohc9 : 255 < ch1.toInt := own_lt.mp hc9
  obtain ⟨fs, hr, hrun, hended, hW, hsame⟩ := X8.leave (v := some (.ref b6)) (fun h => by rw [Bd.returns] at h; cases h)
  refine ⟨_, _, pre0 _ ?_, hrun, hended, _, _, rfl, ?_, ⟨_, rfl⟩, hW, hsame.mono (by decide) (by decide)⟩
  · skip
    show SF p e below s₁ m 0 #[vr r0, vi 0, vi 3, .unset, .unset, .unset] [] _
    refine XS.iloadN X0.here hx rfl (hb hby d6_0) rfl ?_
    refine st1 _ ?_
    refine XS.astoreN X1.here hx rfl (hb hby d6_3) rfl rfl (l' := #[vr r0, vi 0, vi 3, vr b1, .unset, .unset]) rfl ?_
    refine XS.aloadN X1.here hx rfl (hb hby d6_4) rfl rfl ?_
    refine XS.iloadN X1.here hx rfl (hb hby d6_5) rfl ?_
    show SF p e below T1 m 6 #[vr r0, vi 0, vi 3, vr b1, .unset, .unset] [(.int 0), (.ref r0)] _
    refine XS.aloadN X1.here hx rfl (hb hby d6_6) rfl rfl ?_
    refine XS.iconst X1.here hx rfl (hb hby d6_7) ?_
    refine XS.iloadN X1.here hx rfl (hb hby d6_8) rfl ?_
    refine st3 _ ?_
    refine XS.istore X3.here hx rfl (hb hby d6_12) rfl (l' := #[vr r0, vi 0, vi 3, vr b1, vi 1, .unset]) rfl ?_
    show SF p e below T3 m 14 #[vr r0, vi 0, vi 3, vr b1, vi 1, .unset] [] _
    refine XS.iload X3.here hx rfl (hb hby d6_14) rfl ?_
    refine XS.iloadN X3.here hx rfl (hb hby d6_16) rfl ?_
    refine XS.icmpNo X3.here hx rfl (hb hby d6_17) rfl (feq hc5).1 ?_
    refine XS.aloadN X3.here hx rfl (hb hby d6_20) rfl rfl ?_
    refine XS.iloadN X3.here hx rfl (hb hby d6_21) rfl ?_
    show SF p e below T3 m 22 #[vr r0, vi 0, vi 3, vr b1, vi 1, .unset] [(.int 0), (.ref r0)] _
    refine XS.iloadN X3.here hx rfl (hb hby d6_22) rfl ?_
    refine st6 _ ?_
    refine XS.astore X6.here hx rfl (hb hby d6_26) rfl rfl (l' := #[vr r0, vi 0, vi 3, vr b1, vi 1, vr b6]) rfl ?_
    refine XS.aload X6.here hx rfl (hb hby d6_28) rfl rfl ?_
    refine XS.iload X6.here hx rfl (hb hby d6_30) rfl ?_
    show SF p e below T6 m 32 #[vr r0, vi 0, vi 3, vr b1, vi 1, vr b6] [(.int 1), (.ref b6)] _
    refine st8 _ ?_
    refine XS.sipush X8.here hx rfl (hb hby d6_35) ?_
    refine XS.icmpYes X8.here hx rfl (pc0 := 38) (pc' := 54) rfl (hb hby d6_38) rfl (tlt hc9).2.2.1 (by decide) (by decide) ?_
    refine XS.aload X8.here hx rfl (hb hby d6_54) rfl rfl ?_
    show SF p e below T8 m 56 #[vr r0, vi 0, vi 3, vr b1, vi 1, vr b6] [(.ref b6)] _
    jvm_step X8.here [X8.here.top, hx, (hb hby d6_56), X8.method', Bd.returns, Value.isRef, FieldType.isReference]
    first | (intro acts; rw [hr _ acts rfl rfl rfl]) | rw [hr _ _ rfl rfl rfl]
    exact Steps.refl _
  · show Qc3_3_1 Z r0 k0 ch0 ch1 ch2 h0 n0 _ T8.heap _
    rw [e8]
    exact ⟨b6, kb6, rfl, N8, K6, sz_b6, Vq6⟩
def Qc5_3_2 (Z : State) (r0 : Addr) (r2 : Addr) (k0 : ClassId) (k2 : ClassId) (ch0 : Int32) (ch1 : Int32) (ch2 : Int32) (h0 : Heap) (n0 : Nat) (v : Option Value) (h : Heap) (L : List Loc) : Prop := v = some (.int 2) ∧ Fr n0 L ∧ Keep h0 h [r2]
set_option maxRecDepth 65536 in
set_option maxHeartbeats 40000000 in
theorem rmc5_3_2 (l : Launch) (Z : State) (a0 : Array Value) (hw : ∀ d ∈ tables_1, d.before a0 Z = true) (ws : List Jvm.Cond) (r0 : Addr) (r2 : Addr) (k0 : ClassId) (k2 : ClassId) (ch0 : Int32) (ch1 : Int32) (ch2 : Int32) (h0 : Heap) (n0 : Nat) (Z0 : n0 ≤ h0.size) (V0 : Arv Z h0 r0 k0 .char (3 : Int32) [(.int ch0), (.int ch1), (.int ch2)] (.int 0)) (V2 : Arv Z h0 r2 k2 .byte (3 : Int32) [(.int 0), (.int 0), (.int 0)] (.int 0)) (ne_r0_r2 : r0 ≠ r2) (g_r2 : n0 ≤ r2) (hs_0 : ¬ ((255 : Int32) < ch0)) (hs_1 : ¬ ((255 : Int32) < ch1)) (hw_2 : (255 : Int32) < ch2) :
    MF l Z mN14 jdk_52_method_21_code 7 (some .int) ws (rK 0 0 0 0) #[(.ref r0), (.int 0), (.ref r2), (.int 0), (.int 3)] h0 (Qc5_3_2 Z r0 r2 k0 k2 ch0 ch1 ch2 h0 n0) := by
  refine MetFree.of_bodySF (plainFor_of_name pn_java_lang_StringUTF16) hisR ?_
  intro p e s m args below meth c s₁ Bd hml0 hP hK
  obtain ⟨rfl, hZ, hh⟩ := hP
  have hx := Bd.exec
  have hby := Bd.bytes
  have hml : c.maxLocals = 7 := hml0
  have hown : s.vm.findClass "java/lang/StringUTF16" = some m.cls := findClass_of_methodNamed Bd.named
  have hnm := (name_of_methodNamed Bd.named Bd.method).1
  have X0 : Stand p l e (rK 0 0 0 0) s m #[(.ref r0), (.int 0), (.ref r2), (.int 0), (.int 3)] below meth c s₁ [] 0 0 := Stand.of_body Bd
  have e0 : s₁.heap = h0 := by rw [← hh, Bd.state]; rfl
  have N0 := Fr.nil n0
  have pre0 : ∀ t, SF p e below s₁ m 0 #[vr r0, vi 0, vr r2, vi 0, vi 3, .unset, .unset] [] t → Steps p.tables e below (s₁.setTop (entryFrame m #[(.ref r0), (.int 0), (.ref r2), (.int 0), (.int 3)] 7)) t := fun t k => castTop (ef_7 m r0 (0 : Int32) r2 (0 : Int32) (3 : Int32)) k
  have KR : Keep h0 h0 [r2] := Keep.refl _ _
  have hc1 : (0 : Int32) < (3 : Int32) := by decide
  obtain ⟨cl2, Ar2, -, Sz2, Nn2, Hh2, -⟩ := id V0
  have hin2 : ¬ ((0 : Int32) < 0 ∨ cl2.slots.size ≤ ((0 : Int32)).toNatClampNeg) := inb_of Sz2 ⟨by decide, by decide⟩
  have hat2 : cl2.slots[((0 : Int32)).toNatClampNeg]? = some (.int ch0) := Hh2 0 (by rw [Sz2]; decide)
  have hc3 : ¬ ((255 : Int32) < ch0) := hs_0
  have ohc3 : ch0.toInt ≤ 255 := own_nlt.mp hc3
  obtain ⟨cl4, Ar4, q4, Sz4, Nn4, Hh4, Gg4⟩ := id V2
  have hin4 : ¬ ((0 : Int32) < 0 ∨ cl4.slots.size ≤ ((0 : Int32)).toNatClampNeg) := inb_of Sz4 ⟨by decide, by decide⟩
  obtain ⟨T5, h5, X5, e5, W5, st5⟩ := stB X0 hx hZ e0 Ar4 (j := (0 : Int32)) hin4 (g := (mkF m 31 #[vr r0, vi 0, vr r2, vi 0, vi 3, vi 0, vi ch0] [(.int (ch0.toInt8.toInt32)), (.int 0), (.ref r2)])) rfl rfl (hb hby d7_31)
  have V5 : Arv Z h5 r2 k2 .byte (3 : Int32) [(.int (nar .byte (ch0.toInt8.toInt32))), (.int 0), (.int 0)] (.int 0) := Arv.set Ar4 q4 Sz4 Nn4 Hh4 Gg4 (fits_nar_byte _) W5 0 rfl (Nat.le_of_ble_eq_true rfl)
  have N5 := Fr.snoc X5 N0 g_r2
  have Z5 : n0 ≤ h5.size := Nat.le_trans Z0 (Keep.of_wr W5).1
  have K5 : Keep h0 h5 [r2] := KR.wr W5 (Or.inl (List.mem_of_getElem? (i := 0) rfl))
  have c6 : Arv Z h5 r0 k0 .char (3 : Int32) [(.int ch0), (.int ch1), (.int ch2)] (.int 0) := V0.other W5 ne_r0_r2
  have hc7 : (1 : Int32) < (3 : Int32) := by decide
  obtain ⟨cl8, Ar8, -, Sz8, Nn8, Hh8, -⟩ := id c6
  have hin8 : ¬ ((1 : Int32) < 0 ∨ cl8.slots.size ≤ ((1 : Int32)).toNatClampNeg) := inb_of Sz8 ⟨by decide, by decide⟩
  have hat8 : cl8.slots[((1 : Int32)).toNatClampNeg]? = some (.int ch1) := Hh8 1 (by rw [Sz8]; decide)
  have hc9 : ¬ ((255 : Int32) < ch1) := hs_1
  have ohc9 : ch1.toInt ≤ 255 := own_nlt.mp hc9
  obtain ⟨cl10, Ar10, q10, Sz10, Nn10, Hh10, Gg10⟩ := id V5
  have hin10 : ¬ ((1 : Int32) < 0 ∨ cl10.slots.size ≤ ((1 : Int32)).toNatClampNeg) := inb_of Sz10 ⟨by decide, by decide⟩
  obtain ⟨T11, h11, X11, e11, W11, st11⟩ := stB X5 hx hZ e5 Ar10 (j := (1 : Int32)) hin10 (g := (mkF m 31 #[vr r0, vi 1, vr r2, vi 1, vi 3, vi 1, vi ch1] [(.int (ch1.toInt8.toInt32)), (.int 1), (.ref r2)])) rfl rfl (hb hby d7_31)
  have V11 : Arv Z h11 r2 k2 .byte (3 : Int32) [(.int (nar .byte (ch0.toInt8.toInt32))), (.int (nar .byte (ch1.toInt8.toInt32))), (.int 0)] (.int 0) := Arv.set Ar10 q10 Sz10 Nn10 Hh10 Gg10 (fits_nar_byte _) W11 1 rfl (Nat.le_of_ble_eq_true rfl)
  have N11 := Fr.snoc X11 N5 g_r2
  have Z11 : n0 ≤ h11.size := Nat.le_trans Z5 (Keep.of_wr W11).1
  have K11 : Keep h0 h11 [r2] := K5.wr W11 (Or.inl (List.mem_of_getElem? (i := 0) rfl))
  have c12 : Arv Z h11 r0 k0 .char (3 : Int32) [(.int ch0), (.int ch1), (.int ch2)] (.int 0) := c6.other W11 ne_r0_r2
  have hc13 : (2 : Int32) < (3 : Int32) := by decide
  obtain ⟨cl14, Ar14, -, Sz14, Nn14, Hh14, -⟩ := id c12
  have hin14 : ¬ ((2 : Int32) < 0 ∨ cl14.slots.size ≤ ((2 : Int32)).toNatClampNeg) := inb_of Sz14 ⟨by decide, by decide⟩
  have hat14 : cl14.slots[((2 : Int32)).toNatClampNeg]? = some (.int ch2) := Hh14 2 (by rw [Sz14]; decide)
  have hc15 : (255 : Int32) < ch2 := hw_2
  have ohc15 : 255 < ch2.toInt := own_lt.mp hc15
  obtain ⟨fs, hr, hrun, hended, hW, hsame⟩ := X11.leave (v := some (.int 2)) (fun h => by rw [Bd.returns] at h; cases h)
  refine ⟨_, _, pre0 _ ?_, hrun, hended, _, _, rfl, ?_, ⟨_, rfl⟩, hW, hsame.mono (by decide) (by decide)⟩
  · skip
    show SF p e below s₁ m 0 #[vr r0, vi 0, vr r2, vi 0, vi 3, .unset, .unset] [] _
    refine XS.iconst X0.here hx rfl (hb hby d7_0) ?_
    refine XS.istore X0.here hx rfl (hb hby d7_1) rfl (l' := #[vr r0, vi 0, vr r2, vi 0, vi 3, vi 0, .unset]) rfl ?_
    refine XS.iload X0.here hx rfl (hb hby d7_3) rfl ?_
    refine XS.iload X0.here hx rfl (hb hby d7_5) rfl ?_
    refine XS.icmpNo X0.here hx rfl (hb hby d7_7) rfl (tlt hc1).2.1 ?_
    show SF p e below s₁ m 10 #[vr r0, vi 0, vr r2, vi 0, vi 3, vi 0, .unset] [] _
    refine XS.aloadN X0.here hx rfl (hb hby d7_10) rfl rfl ?_
    refine XS.iloadN X0.here hx rfl (hb hby d7_11) rfl ?_
    refine X0.caload hx (j := (0 : Int32)) (v := (.int ch0)) (by rw [e0]; exact Ar2.1) (State.isArrayOf_alike hZ.alike Ar2.2.1) Ar2.2.2 hin2 hat2 (g := (mkF m 12 #[vr r0, vi 0, vr r2, vi 0, vi 3, vi 0, .unset] [(.int 0), (.ref r0)])) rfl rfl (hb hby d7_12) _ ?_
    refine XS.istore X0.here hx rfl (hb hby d7_13) rfl (l' := #[vr r0, vi 0, vr r2, vi 0, vi 3, vi 0, vi ch0]) rfl ?_
    refine XS.iload X0.here hx rfl (hb hby d7_15) rfl ?_
    show SF p e below s₁ m 17 #[vr r0, vi 0, vr r2, vi 0, vi 3, vi 0, vi ch0] [(.int ch0)] _
    refine XS.sipush X0.here hx rfl (hb hby d7_17) ?_
    refine XS.icmpYes X0.here hx rfl (pc0 := 20) (pc' := 26) rfl (hb hby d7_20) rfl (flt hc3).2.2.2 (by decide) (by decide) ?_
    refine XS.aloadN X0.here hx rfl (hb hby d7_26) rfl rfl ?_
    refine XS.iloadN X0.here hx rfl (hb hby d7_27) rfl ?_
    refine XS.iload X0.here hx rfl (hb hby d7_28) rfl ?_
    show SF p e below s₁ m 30 #[vr r0, vi 0, vr r2, vi 0, vi 3, vi 0, vi ch0] [(.int ch0), (.int 0), (.ref r2)] _
    refine XS.i2b X0.here hx rfl (hb hby d7_30) rfl ?_
    refine st5 _ ?_
    refine XS.iinc X5.here hx rfl (hb hby d7_32) rfl (l' := #[vr r0, vi 1, vr r2, vi 0, vi 3, vi 0, vi ch0]) rfl ?_
    refine XS.iinc X5.here hx rfl (hb hby d7_35) rfl (l' := #[vr r0, vi 1, vr r2, vi 1, vi 3, vi 0, vi ch0]) rfl ?_
    refine XS.iinc X5.here hx rfl (hb hby d7_38) rfl (l' := #[vr r0, vi 1, vr r2, vi 1, vi 3, vi 1, vi ch0]) rfl ?_
    show SF p e below T5 m 41 #[vr r0, vi 1, vr r2, vi 1, vi 3, vi 1, vi ch0] [] _
    refine XS.goto X5.here hx rfl (pc0 := 41) (pc' := 3) rfl (hb hby d7_41) (by decide) (by decide) ?_
    refine XS.iload X5.here hx rfl (hb hby d7_3) rfl ?_
    refine XS.iload X5.here hx rfl (hb hby d7_5) rfl ?_
    refine XS.icmpNo X5.here hx rfl (hb hby d7_7) rfl (tlt hc7).2.1 ?_
    refine XS.aloadN X5.here hx rfl (hb hby d7_10) rfl rfl ?_
    show SF p e below T5 m 11 #[vr r0, vi 1, vr r2, vi 1, vi 3, vi 1, vi ch0] [(.ref r0)] _
    refine XS.iloadN X5.here hx rfl (hb hby d7_11) rfl ?_
    refine X5.caload hx (j := (1 : Int32)) (v := (.int ch1)) (by rw [e5]; exact Ar8.1) (State.isArrayOf_alike hZ.alike Ar8.2.1) Ar8.2.2 hin8 hat8 (g := (mkF m 12 #[vr r0, vi 1, vr r2, vi 1, vi 3, vi 1, vi ch0] [(.int 1), (.ref r0)])) rfl rfl (hb hby d7_12) _ ?_
    refine XS.istore X5.here hx rfl (hb hby d7_13) rfl (l' := #[vr r0, vi 1, vr r2, vi 1, vi 3, vi 1, vi ch1]) rfl ?_
    refine XS.iload X5.here hx rfl (hb hby d7_15) rfl ?_
    refine XS.sipush X5.here hx rfl (hb hby d7_17) ?_
    show SF p e below T5 m 20 #[vr r0, vi 1, vr r2, vi 1, vi 3, vi 1, vi ch1] [(.int 255), (.int ch1)] _
    refine XS.icmpYes X5.here hx rfl (pc0 := 20) (pc' := 26) rfl (hb hby d7_20) rfl (flt hc9).2.2.2 (by decide) (by decide) ?_
    refine XS.aloadN X5.here hx rfl (hb hby d7_26) rfl rfl ?_
    refine XS.iloadN X5.here hx rfl (hb hby d7_27) rfl ?_
    refine XS.iload X5.here hx rfl (hb hby d7_28) rfl ?_
    refine XS.i2b X5.here hx rfl (hb hby d7_30) rfl ?_
    show SF p e below T5 m 31 #[vr r0, vi 1, vr r2, vi 1, vi 3, vi 1, vi ch1] [(.int (ch1.toInt8.toInt32)), (.int 1), (.ref r2)] _
    refine st11 _ ?_
    refine XS.iinc X11.here hx rfl (hb hby d7_32) rfl (l' := #[vr r0, vi 2, vr r2, vi 1, vi 3, vi 1, vi ch1]) rfl ?_
    refine XS.iinc X11.here hx rfl (hb hby d7_35) rfl (l' := #[vr r0, vi 2, vr r2, vi 2, vi 3, vi 1, vi ch1]) rfl ?_
    refine XS.iinc X11.here hx rfl (hb hby d7_38) rfl (l' := #[vr r0, vi 2, vr r2, vi 2, vi 3, vi 2, vi ch1]) rfl ?_
    refine XS.goto X11.here hx rfl (pc0 := 41) (pc' := 3) rfl (hb hby d7_41) (by decide) (by decide) ?_
    show SF p e below T11 m 3 #[vr r0, vi 2, vr r2, vi 2, vi 3, vi 2, vi ch1] [] _
    refine XS.iload X11.here hx rfl (hb hby d7_3) rfl ?_
    refine XS.iload X11.here hx rfl (hb hby d7_5) rfl ?_
    refine XS.icmpNo X11.here hx rfl (hb hby d7_7) rfl (tlt hc13).2.1 ?_
    refine XS.aloadN X11.here hx rfl (hb hby d7_10) rfl rfl ?_
    refine XS.iloadN X11.here hx rfl (hb hby d7_11) rfl ?_
    show SF p e below T11 m 12 #[vr r0, vi 2, vr r2, vi 2, vi 3, vi 2, vi ch1] [(.int 2), (.ref r0)] _
    refine X11.caload hx (j := (2 : Int32)) (v := (.int ch2)) (by rw [e11]; exact Ar14.1) (State.isArrayOf_alike hZ.alike Ar14.2.1) Ar14.2.2 hin14 hat14 (g := (mkF m 12 #[vr r0, vi 2, vr r2, vi 2, vi 3, vi 2, vi ch1] [(.int 2), (.ref r0)])) rfl rfl (hb hby d7_12) _ ?_
    refine XS.istore X11.here hx rfl (hb hby d7_13) rfl (l' := #[vr r0, vi 2, vr r2, vi 2, vi 3, vi 2, vi ch2]) rfl ?_
    refine XS.iload X11.here hx rfl (hb hby d7_15) rfl ?_
    refine XS.sipush X11.here hx rfl (hb hby d7_17) ?_
    refine XS.icmpNo X11.here hx rfl (hb hby d7_20) rfl (tlt hc15).2.2.2 ?_
    show SF p e below T11 m 23 #[vr r0, vi 2, vr r2, vi 2, vi 3, vi 2, vi ch2] [] _
    refine XS.iload X11.here hx rfl (hb hby d7_23) rfl ?_
    show SF p e below T11 m 25 #[vr r0, vi 2, vr r2, vi 2, vi 3, vi 2, vi ch2] [(.int 2)] _
    exact retI X11 hx Bd.returns (hb hby d7_25) hr
  · show Qc5_3_2 Z r0 r2 k0 k2 ch0 ch1 ch2 h0 n0 _ T11.heap _
    rw [e11]
    exact ⟨rfl, N11, K11⟩
def Qc3_3_2 (Z : State) (r0 : Addr) (k0 : ClassId) (ch0 : Int32) (ch1 : Int32) (ch2 : Int32) (h0 : Heap) (n0 : Nat) (v : Option Value) (h : Heap) (L : List Loc) : Prop := ∃ (b : Addr) (kb : ClassId), v = some (.ref b) ∧ Fr n0 L ∧ Keep h0 h [] ∧ h0.size ≤ b ∧ Arv Z h b kb .byte (6 : Int32) [(.int (loB ch0)), (.int (hiB ch0)), (.int (loB ch1)), (.int (hiB ch1)), (.int (loB ch2)), (.int (hiB ch2))] (.int 0)
set_option maxRecDepth 65536 in
set_option maxHeartbeats 40000000 in
theorem rmc3_3_2 (l : Launch) (Z : State) (a0 : Array Value) (hw : ∀ d ∈ tables_1, d.before a0 Z = true) (ws : List Jvm.Cond) (r0 : Addr) (k0 : ClassId) (ch0 : Int32) (ch1 : Int32) (ch2 : Int32) (h0 : Heap) (n0 : Nat) (Z0 : n0 ≤ h0.size) (V0 : Arv Z h0 r0 k0 .char (3 : Int32) [(.int ch0), (.int ch1), (.int ch2)] (.int 0)) (hb_2 : 0 ≤ ch2.toInt ∧ ch2.toInt ≤ 65535) (hs_0 : ¬ ((255 : Int32) < ch0)) (hs_1 : ¬ ((255 : Int32) < ch1)) (hw_2 : (255 : Int32) < ch2) (OA : sA Z h0) (OH : sH Z h0) (OL : sL Z h0) :
    MF l Z mN15 jdk_52_method_16_code 6 (some (.array .byte)) ws (rK 3 2 9 40) #[(.ref r0), (.int 0), (.int 3)] h0 (Qc3_3_2 Z r0 k0 ch0 ch1 ch2 h0 n0) := by
  refine MetFree.of_bodySF (plainFor_of_name pn_java_lang_StringUTF16) hisR ?_
  intro p e s m args below meth c s₁ Bd hml0 hP hK
  obtain ⟨rfl, hZ, hh⟩ := hP
  have hx := Bd.exec
  have hby := Bd.bytes
  have hml : c.maxLocals = 6 := hml0
  have hown : s.vm.findClass "java/lang/StringUTF16" = some m.cls := findClass_of_methodNamed Bd.named
  have hnm := (name_of_methodNamed Bd.named Bd.method).1
  have X0 : Stand p l e (rK 3 2 9 40) s m #[(.ref r0), (.int 0), (.int 3)] below meth c s₁ [] 0 0 := Stand.of_body Bd
  have e0 : s₁.heap = h0 := by rw [← hh, Bd.state]; rfl
  have N0 := Fr.nil n0
  have pre0 : ∀ t, SF p e below s₁ m 0 #[vr r0, vi 0, vi 3, .unset, .unset, .unset] [] t → Steps p.tables e below (s₁.setTop (entryFrame m #[(.ref r0), (.int 0), (.int 3)] 6)) t := fun t k => castTop (ef_6 m r0 (0 : Int32) (3 : Int32)) k
  have KR : Keep h0 h0 [] := Keep.refl _ _
  obtain ⟨T1, h1, k1, X1, e1, E1, A1, st1⟩ := newP X0 hx hZ (tw hw 15 rfl) e0 (g := (mkF m 1 #[vr r0, vi 0, vi 3, .unset, .unset, .unset] [(.int 3)])) rfl (hb hby d6_1) rfl (by decide) (cap := 3) (by decide) (by decide) (by decide) (by decide)
  obtain ⟨b1, g1⟩ : ∃ z, z = h0.size := ⟨_, rfl⟩
  rw [← g1] at A1 st1
  have g_b1 : n0 ≤ b1 := Nat.le_trans Z0 (Nat.le_of_eq g1.symm)
  have Z1 : n0 ≤ h1.size := Nat.le_trans Z0 E1.1
  have ne_r0_b1 : r0 ≠ b1 := Nat.ne_of_lt (Nat.lt_of_lt_of_le V0.lt (Nat.le_of_eq g1.symm))
  have K1 : Keep h0 h1 [] := KR.ext E1
  have sz_b1 : h0.size ≤ b1 := Nat.le_trans KR.1 (Nat.le_of_eq g1.symm)
  have c2 : Arv Z h1 r0 k0 .char (3 : Int32) [(.int ch0), (.int ch1), (.int ch2)] (.int 0) := V0.ext E1
  have V1 : Arv Z h1 b1 k1 .byte (3 : Int32) [(.int 0), (.int 0), (.int 0)] (.int 0) := (Arv.new A1 (by decide)).pad (pad_rep [] (.int 0) 3)
  obtain ⟨_, _, ⟨T3, L3, k3, n3⟩, -, X3, ⟨Lc3, hQ3, l3, y3, z3⟩, st3⟩ := Jvm.LawKit.callS X1 hx (y := mN14) hown (mvT hZ (tw hw 36 rfl)) (mvT hZ (tw hw 37 rfl)) (mvT hZ (tw hw 34 rfl)) (mvT hZ (tw hw 38 rfl)) (by decide) (backOf (W := 0) (rmc5_3_2 l Z a0 hw [] r0 b1 k0 k1 ch0 ch1 ch2 h1 n0 Z1 c2 V1 ne_r0_b1 g_b1 hs_0 hs_1 hw_2) hZ (tw hw 38 rfl) (tw hw 34 rfl) (by decide) (by decide)) (g := (mkF m 9 #[vr r0, vi 0, vi 3, vr b1, .unset, .unset] [(.int 3), (.int 0), (.ref b1), (.int 0), (.ref r0)])) rfl (by rw [hml]; rfl) (argsL := [(.ref r0), (.int 0), (.ref b1), (.int 0), (.int 3)]) (rest := []) (lenOf pd_5 rfl) rfl (by show 2 * 0 + _ ≤ _; exact Nat.le_of_eq rfl) (hb hby d6_9) (fun _ _ => ⟨rfl, e1, (by decide : 1 + 0 ≤ _), (by decide : 3 + 0 ≤ _)⟩)
  dsimp only [Pt.U, Pt.locs, Pt.cells, Pt.slots] at X3 l3 y3 z3 st3 hQ3
  subst l3 y3 z3
  obtain ⟨rfl, Nq3, Kq3⟩ := hQ3
  have N3 := Fr.app N0 Nq3
  have Z3 : n0 ≤ T3.heap.size := Nat.le_trans Z1 Kq3.1
  have K3 : Keep h0 T3.heap [] := K1.trans Kq3 (fun x hx => by cases List.mem_singleton.mp hx; exact (Or.inr sz_b1))
  have c4 : Arv Z T3.heap r0 k0 .char (3 : Int32) [(.int ch0), (.int ch1), (.int ch2)] (.int 0) := c2.keep Kq3 (fun q => ne_r0_b1 (List.mem_singleton.mp q))
  have hc5 : ¬ ((2 : Int32) = (3 : Int32)) := by decide
  obtain ⟨_, _, ⟨T6, L6, k6, n6⟩, -, X6, ⟨Lc6, hQ6, l6, y6, z6⟩, st6⟩ := Jvm.LawKit.callS X3 hx (y := mN11) hown (mvT hZ (tw hw 74 rfl)) (mvT hZ (tw hw 75 rfl)) (mvT hZ (tw hw 34 rfl)) (mvT hZ (tw hw 76 rfl)) (by decide) (backOf (W := 0) (rmtb_3 l Z a0 hw [] r0 k0 ch0 ch1 ch2 T3.heap n0 Z3 c4 (own_s0 OA K3) (own_s0 OH K3) (own_s0 OL K3)) hZ (tw hw 76 rfl) (tw hw 34 rfl) (by decide) (by decide)) (g := (mkF m 23 #[vr r0, vi 0, vi 3, vr b1, vi 2, .unset] [(.int 3), (.int 0), (.ref r0)])) rfl (by rw [hml]; rfl) (argsL := [(.ref r0), (.int 0), (.int 3)]) (rest := []) (lenOf pd_6 rfl) rfl (by show 2 * 0 + _ ≤ _; exact Nat.le_of_eq rfl) (hb hby d6_23) (fun _ _ => ⟨rfl, rfl, (by decide : 1 + 1 ≤ _), (by decide : 3 + 6 ≤ _)⟩)
  dsimp only [Pt.U, Pt.locs, Pt.cells, Pt.slots] at X6 l6 y6 z6 st6 hQ6
  subst l6 y6 z6
  obtain ⟨b6, kb6, rfl, Nq6, Kq6, sq6, Vq6⟩ := hQ6
  have N6 := Fr.app N3 Nq6
  have Z6 : n0 ≤ T6.heap.size := Nat.le_trans Z3 Kq6.1
  have ne_r0_b6 : r0 ≠ b6 := Nat.ne_of_lt (Nat.lt_of_lt_of_le c4.lt sq6)
  have g_b6 : n0 ≤ b6 := Nat.le_trans Z3 sq6
  have sz_b6 : h0.size ≤ b6 := Nat.le_trans K3.1 sq6
  have K6 : Keep h0 T6.heap [] := K3.trans Kq6 (fun x hx => by cases hx)
  have c7 : Arv Z T6.heap r0 k0 .char (3 : Int32) [(.int ch0), (.int ch1), (.int ch2)] (.int 0) := c4.keep Kq6 (by simp)
  obtain ⟨_, _, ⟨T8, L8, k8, n8⟩, -, X8, ⟨Lc8, hQ8, l8, y8, z8⟩, st8⟩ := Jvm.LawKit.callS X6 hx (y := mN12) hown (mvT hZ (tw hw 90 rfl)) (mvT hZ (tw hw 91 rfl)) (mvT hZ (tw hw 34 rfl)) (mvT hZ (tw hw 92 rfl)) (by decide) (backOf (W := 0) (rmgc_3_2 l Z a0 hw [] b6 kb6 ch0 ch1 ch2 T6.heap n0 Z6 Vq6 hb_2 (own_s0 OA K6) (own_s0 OH K6) (own_s0 OL K6)) hZ (tw hw 92 rfl) (tw hw 34 rfl) (by decide) (by decide)) (g := (mkF m 32 #[vr r0, vi 0, vi 3, vr b1, vi 2, vr b6] [(.int 2), (.ref b6)])) rfl (by rw [hml]; rfl) (argsL := [(.ref b6), (.int 2)]) (rest := []) (lenOf pd_7 rfl) rfl (by show 2 * 0 + _ ≤ _; exact Nat.le_of_eq rfl) (hb hby d6_32) (fun _ _ => ⟨rfl, rfl, (by decide : 2 + 0 ≤ _), (by decide : 9 + 0 ≤ _)⟩)
  dsimp only [Pt.U, Pt.locs, Pt.cells, Pt.slots] at X8 l8 y8 z8 st8 hQ8
  subst l8 y8 z8
  obtain ⟨rfl, Nq8, e8⟩ := hQ8
  have N8 := Fr.app N6 Nq8
  have hc9 : (255 : Int32) < ch2 := hw_2
  have ohc9 : 255 < ch2.toInt := own_lt.mp hc9
  obtain ⟨fs, hr, hrun, hended, hW, hsame⟩ := X8.leave (v := some (.ref b6)) (fun h => by rw [Bd.returns] at h; cases h)
  refine ⟨_, _, pre0 _ ?_, hrun, hended, _, _, rfl, ?_, ⟨_, rfl⟩, hW, hsame.mono (by decide) (by decide)⟩
  · skip
    show SF p e below s₁ m 0 #[vr r0, vi 0, vi 3, .unset, .unset, .unset] [] _
    refine XS.iloadN X0.here hx rfl (hb hby d6_0) rfl ?_
    refine st1 _ ?_
    refine XS.astoreN X1.here hx rfl (hb hby d6_3) rfl rfl (l' := #[vr r0, vi 0, vi 3, vr b1, .unset, .unset]) rfl ?_
    refine XS.aloadN X1.here hx rfl (hb hby d6_4) rfl rfl ?_
    refine XS.iloadN X1.here hx rfl (hb hby d6_5) rfl ?_
    show SF p e below T1 m 6 #[vr r0, vi 0, vi 3, vr b1, .unset, .unset] [(.int 0), (.ref r0)] _
    refine XS.aloadN X1.here hx rfl (hb hby d6_6) rfl rfl ?_
    refine XS.iconst X1.here hx rfl (hb hby d6_7) ?_
    refine XS.iloadN X1.here hx rfl (hb hby d6_8) rfl ?_
    refine st3 _ ?_
    refine XS.istore X3.here hx rfl (hb hby d6_12) rfl (l' := #[vr r0, vi 0, vi 3, vr b1, vi 2, .unset]) rfl ?_
    show SF p e below T3 m 14 #[vr r0, vi 0, vi 3, vr b1, vi 2, .unset] [] _
    refine XS.iload X3.here hx rfl (hb hby d6_14) rfl ?_
    refine XS.iloadN X3.here hx rfl (hb hby d6_16) rfl ?_
    refine XS.icmpNo X3.here hx rfl (hb hby d6_17) rfl (feq hc5).1 ?_
    refine XS.aloadN X3.here hx rfl (hb hby d6_20) rfl rfl ?_
    refine XS.iloadN X3.here hx rfl (hb hby d6_21) rfl ?_
    show SF p e below T3 m 22 #[vr r0, vi 0, vi 3, vr b1, vi 2, .unset] [(.int 0), (.ref r0)] _
    refine XS.iloadN X3.here hx rfl (hb hby d6_22) rfl ?_
    refine st6 _ ?_
    refine XS.astore X6.here hx rfl (hb hby d6_26) rfl rfl (l' := #[vr r0, vi 0, vi 3, vr b1, vi 2, vr b6]) rfl ?_
    refine XS.aload X6.here hx rfl (hb hby d6_28) rfl rfl ?_
    refine XS.iload X6.here hx rfl (hb hby d6_30) rfl ?_
    show SF p e below T6 m 32 #[vr r0, vi 0, vi 3, vr b1, vi 2, vr b6] [(.int 2), (.ref b6)] _
    refine st8 _ ?_
    refine XS.sipush X8.here hx rfl (hb hby d6_35) ?_
    refine XS.icmpYes X8.here hx rfl (pc0 := 38) (pc' := 54) rfl (hb hby d6_38) rfl (tlt hc9).2.2.1 (by decide) (by decide) ?_
    refine XS.aload X8.here hx rfl (hb hby d6_54) rfl rfl ?_
    show SF p e below T8 m 56 #[vr r0, vi 0, vi 3, vr b1, vi 2, vr b6] [(.ref b6)] _
    jvm_step X8.here [X8.here.top, hx, (hb hby d6_56), X8.method', Bd.returns, Value.isRef, FieldType.isReference]
    first | (intro acts; rw [hr _ acts rfl rfl rfl]) | rw [hr _ _ rfl rfl rfl]
    exact Steps.refl _
  · show Qc3_3_2 Z r0 k0 ch0 ch1 ch2 h0 n0 _ T8.heap _
    rw [e8]
    exact ⟨b6, kb6, rfl, N8, K6, sz_b6, Vq6⟩
def Qc3_3 (Z : State) (r0 : Addr) (k0 : ClassId) (ch0 : Int32) (ch1 : Int32) (ch2 : Int32) (h0 : Heap) (n0 : Nat) (v : Option Value) (h : Heap) (L : List Loc) : Prop := ∃ (b : Addr) (kb : ClassId), v = some (.ref b) ∧ Fr n0 L ∧ Keep h0 h [] ∧ h0.size ≤ b ∧ Arv Z h b kb .byte (6 : Int32) [(.int (loB ch0)), (.int (hiB ch0)), (.int (loB ch1)), (.int (hiB ch1)), (.int (loB ch2)), (.int (hiB ch2))] (.int 0)
theorem rmc3_3 (l : Launch) (Z : State) (a0 : Array Value) (hw : ∀ d ∈ tables_1, d.before a0 Z = true) (ws : List Jvm.Cond) (r0 : Addr) (k0 : ClassId) (ch0 : Int32) (ch1 : Int32) (ch2 : Int32) (h0 : Heap) (n0 : Nat) (Z0 : n0 ≤ h0.size) (V0 : Arv Z h0 r0 k0 .char (3 : Int32) [(.int ch0), (.int ch1), (.int ch2)] (.int 0)) (hb_0 : 0 ≤ ch0.toInt ∧ ch0.toInt ≤ 65535) (hb_1 : 0 ≤ ch1.toInt ∧ ch1.toInt ≤ 65535) (hb_2 : 0 ≤ ch2.toInt ∧ ch2.toInt ≤ 65535) (hW : ((255 : Int32) < ch0) ∨ (¬ ((255 : Int32) < ch0) ∧ (255 : Int32) < ch1) ∨ (¬ ((255 : Int32) < ch0) ∧ ¬ ((255 : Int32) < ch1) ∧ (255 : Int32) < ch2)) (OA : sA Z h0) (OH : sH Z h0) (OL : sL Z h0) :
    MF l Z mN15 jdk_52_method_16_code 6 (some (.array .byte)) ws (rK 3 2 9 40) #[(.ref r0), (.int 0), (.int 3)] h0 (Qc3_3 Z r0 k0 ch0 ch1 ch2 h0 n0) := by
  rcases hW with hw_0 | ⟨hs_0, hw_1⟩ | ⟨hs_0, hs_1, hw_2⟩
  · exact rmc3_3_0 l Z a0 hw ws r0 k0 ch0 ch1 ch2 h0 n0 Z0 V0 hb_0 hw_0 OA OH OL
  · exact rmc3_3_1 l Z a0 hw ws r0 k0 ch0 ch1 ch2 h0 n0 Z0 V0 hb_1 hs_0 hw_1 OA OH OL
  · exact rmc3_3_2 l Z a0 hw ws r0 k0 ch0 ch1 ch2 h0 n0 Z0 V0 hb_2 hs_0 hs_1 hw_2 OA OH OL
def Qi4_3 (Z : State) (r0 : Addr) (r1 : Addr) (k1 : ClassId) (ch0 : Int32) (ch1 : Int32) (ch2 : Int32) (G1 : Int32) (G3 : Value) (h0 : Heap) (n0 : Nat) (v : Option Value) (h : Heap) (L : List Loc) : Prop := v = none ∧ Fr n0 L ∧ Keep h0 h [r0] ∧ OW Z h r0 (6 : Int32) [(.int (loB ch0)), (.int (hiB ch0)), (.int (loB ch1)), (.int (hiB ch1)), (.int (loB ch2)), (.int (hiB ch2))]
set_option maxRecDepth 65536 in
set_option maxHeartbeats 40000000 in
theorem rmi4_3 (l : Launch) (Z : State) (a0 : Array Value) (hw : ∀ d ∈ tables_1, d.before a0 Z = true) (ws : List Jvm.Cond) (r0 : Addr) (r1 : Addr) (k1 : ClassId) (ch0 : Int32) (ch1 : Int32) (ch2 : Int32) (G1 : Int32) (G3 : Value) (h0 : Heap) (n0 : Nat) (Z0 : n0 ≤ h0.size) (E_r0 : Exa Z h0 r0 "java/lang/String") (F_0 : Fld Z h0 r0 "java/lang/String" "value" "[B" .null) (F_1 : Fld Z h0 r0 "java/lang/String" "coder" "B" (.int 0)) (g_r0 : n0 ≤ r0) (V1 : Arv Z h0 r1 k1 .char (3 : Int32) [(.int ch0), (.int ch1), (.int ch2)] (.int 0)) (hb_0 : 0 ≤ ch0.toInt ∧ ch0.toInt ≤ 65535) (hb_1 : 0 ≤ ch1.toInt ∧ ch1.toInt ≤ 65535) (hb_2 : 0 ≤ ch2.toInt ∧ ch2.toInt ≤ 65535) (hW : ((255 : Int32) < ch0) ∨ (¬ ((255 : Int32) < ch0) ∧ (255 : Int32) < ch1) ∨ (¬ ((255 : Int32) < ch0) ∧ ¬ ((255 : Int32) < ch1) ∧ (255 : Int32) < ch2)) (O2 : sC Z h0 G1) (P5 : ¬ (G1 = (0 : Int32))) (O4 : sI Z h0 G3) (rG3 : G3.isRef = true) (OA : sA Z h0) (OH : sH Z h0) (OL : sL Z h0) :
    MF l Z mN6 jdk_42_method_149_code 6 none ws (rK 4 2 9 57) #[(.ref r0), (.ref r1), (.int 0), (.int 3), .null] h0 (Qi4_3 Z r0 r1 k1 ch0 ch1 ch2 G1 G3 h0 n0) := by
  refine MetFree.of_bodySF (plainFor_of_name pn_java_lang_String) hisR ?_
  intro p e s m args below meth c s₁ Bd hml0 hP hK
  obtain ⟨rfl, hZ, hh⟩ := hP
  have hx := Bd.exec
  have hby := Bd.bytes
  have hml : c.maxLocals = 6 := hml0
  have hown : s.vm.findClass "java/lang/String" = some m.cls := findClass_of_methodNamed Bd.named
  have hnm := (name_of_methodNamed Bd.named Bd.method).1
  have X0 : Stand p l e (rK 4 2 9 57) s m #[(.ref r0), (.ref r1), (.int 0), (.int 3), .null] below meth c s₁ [] 0 0 := Stand.of_body Bd
  have e0 : s₁.heap = h0 := by rw [← hh, Bd.state]; rfl
  have N0 := Fr.nil n0
  have pre0 : ∀ t, SF p e below s₁ m 0 #[vr r0, vr r1, vi 0, vi 3, .val .null, .unset] [] t → Steps p.tables e below (s₁.setTop (entryFrame m #[(.ref r0), (.ref r1), (.int 0), (.int 3), .null] 6)) t := fun t k => castTop (ef_2_vvvvn m r0 r1 (0 : Int32) (3 : Int32)) k
  have KR : Keep h0 h0 [r0] := Keep.refl _ _
  obtain ⟨T1, X1, e1, st1⟩ := initO X0 hx hZ hown (tw hw 11 rfl) (tw hw 12 rfl) (tw hw 13 rfl) e0 (g := (mkF m 1 #[vr r0, vr r1, vi 0, vi 3, .val .null, .unset] [(.ref r0)])) rfl (by rw [hml]; rfl) rfl (hb hby d2_1) (by decide) (W := 0) (by show 2 * 0 + _ ≤ _; exact Nat.le_of_eq rfl) (by decide)
  have hc2 : ¬ ((3 : Int32) = (0 : Int32)) := by decide
  obtain ⟨T3, X3, e3, st3⟩ := getS2 X1 hx hZ hown (host := "") (Or.inl (tw hw 31 rfl)) Via.refl e1 O2 (g := (mkF m 27 #[vr r0, vr r1, vi 0, vi 3, .val .null, .unset] [])) rfl (hb hby d2_27)
  have hc4 : ¬ (G1 = (0 : Int32)) := P5
  have ohc4 : ¬ (G1.toInt = 0) := own_neq.mp hc4
  obtain ⟨_, _, ⟨T5, L5, k5, n5⟩, -, X5, ⟨Lc5, hQ5, l5, y5, z5⟩, st5⟩ := Jvm.LawKit.callS X3 hx (y := mN15) hown (mvT hZ (tw hw 32 rfl)) (mvT hZ (tw hw 33 rfl)) (mvT hZ (tw hw 34 rfl)) (mvT hZ (tw hw 35 rfl)) (by decide) (backOf (W := 0) (rmc3_3 l Z a0 hw [] r1 k1 ch0 ch1 ch2 h0 n0 Z0 V1 hb_0 hb_1 hb_2 hW OA OH OL) hZ (tw hw 35 rfl) (tw hw 34 rfl) (by decide) (by decide)) (g := (mkF m 36 #[vr r0, vr r1, vi 0, vi 3, .val .null, .unset] [(.int 3), (.int 0), (.ref r1)])) rfl (by rw [hml]; rfl) (argsL := [(.ref r1), (.int 0), (.int 3)]) (rest := []) (lenOf pd_6 rfl) rfl (by show 2 * 0 + _ ≤ _; exact Nat.le_of_eq rfl) (hb hby d2_36) (fun _ _ => ⟨rfl, e3, (by decide : 0 + 2 ≤ _), (by decide : 0 + 9 ≤ _)⟩)
  dsimp only [Pt.U, Pt.locs, Pt.cells, Pt.slots] at X5 l5 y5 z5 st5 hQ5
  subst l5 y5 z5
  obtain ⟨b5, kb5, rfl, Nq5, Kq5, sq5, Vq5⟩ := hQ5
  have N5 := Fr.app N0 Nq5
  have Z5 : n0 ≤ T5.heap.size := Nat.le_trans Z0 Kq5.1
  have ne_r0_b5 : r0 ≠ b5 := Nat.ne_of_lt (Nat.lt_of_lt_of_le E_r0.lt sq5)
  have ne_r1_b5 : r1 ≠ b5 := Nat.ne_of_lt (Nat.lt_of_lt_of_le V1.lt sq5)
  have g_b5 : n0 ≤ b5 := Nat.le_trans Z0 sq5
  have sz_b5 : h0.size ≤ b5 := Nat.le_trans KR.1 sq5
  have K5 : Keep h0 T5.heap [r0] := KR.trans Kq5 (fun x hx => by cases hx)
  have c6 : sC Z T5.heap G1 := own_s0 O2 Kq5
  have c7 : sI Z T5.heap G3 := own_s0 O4 Kq5
  have c8 : sA Z T5.heap := own_s0 OA Kq5
  have c9 : sH Z T5.heap := own_s0 OH Kq5
  have c10 : sL Z T5.heap := own_s0 OL Kq5
  have c11 : Exa Z T5.heap r0 "java/lang/String" := E_r0.keep Kq5
  have c12 : Fld Z T5.heap r0 "java/lang/String" "value" "[B" .null := F_0.keep Kq5 (by simp)
  have c13 : Fld Z T5.heap r0 "java/lang/String" "coder" "B" (.int 0) := F_1.keep Kq5 (by simp)
  have c14 : Arv Z T5.heap r1 k1 .char (3 : Int32) [(.int ch0), (.int ch1), (.int ch2)] (.int 0) := V1.keep Kq5 (by simp)
  obtain ⟨_, _, ⟨T15, L15, k15, n15⟩, -, X15, ⟨Lc15, hQ15, l15, y15, z15⟩, st15⟩ := Jvm.LawKit.callS X5 hx (y := mN13) hown (mvT hZ (tw hw 39 rfl)) (mvT hZ (tw hw 40 rfl)) (mvT hZ (tw hw 34 rfl)) (mvT hZ (tw hw 41 rfl)) (by decide) (backOf (W := 1) (rmcal_3 l Z a0 hw [] b5 kb5 (loB ch0) (hiB ch0) (loB ch1) (hiB ch1) (loB ch2) (hiB ch2) T5.heap n0 Z5 Vq5) hZ (tw hw 41 rfl) (tw hw 34 rfl) (by decide) (by decide)) (g := (mkF m 45 #[vr r0, vr r1, vi 0, vi 3, .val .null, vr b5] [(.int 3), (.ref b5), (.ref r0)])) rfl (by rw [hml]; rfl) (argsL := [(.ref b5), (.int 3)]) (rest := [(.ref r0)]) (lenOf pd_8 rfl) rfl (by show 2 * 0 + _ ≤ _; exact Nat.le_of_eq rfl) (hb hby d2_45) (fun _ _ => ⟨rfl, rfl, (by decide : 2 + 0 ≤ _), (by decide : 9 + 0 ≤ _)⟩)
  dsimp only [Pt.U, Pt.locs, Pt.cells, Pt.slots] at X15 l15 y15 z15 st15 hQ15
  subst l15 y15 z15
  obtain ⟨rfl, Nq15, e15⟩ := hQ15
  have N15 := Fr.app N5 Nq15
  obtain ⟨T16, h16, X16, e16, W16, st16⟩ := putFN X15 hx hZ hown (tw hw 21 rfl) Via.refl e15 c13 c11 (Or.inr ⟨(tw hw 17 rfl), rfl, hnm⟩) (tw hw 2 rfl) (ty := .byte) (v' := (.int 1)) (by decide) rfl (by decide) (g := (mkF m 48 #[vr r0, vr r1, vi 0, vi 3, .val .null, vr b5] [(.int 1), (.ref r0)])) rfl rfl (hb hby d2_48)
  have Fw16 : Fld Z h16 r0 "java/lang/String" "coder" "B" (.int 1) := c13.same W16
  have N16 := Fr.snoc X16 N15 g_r0
  have Z16 : n0 ≤ h16.size := Nat.le_trans Z5 (Keep.of_wr W16).1
  have K16 : Keep h0 h16 [r0] := K5.wr W16 (Or.inl (List.mem_of_getElem? (i := 0) rfl))
  have c17 : sC Z h16 G1 := c6.wr W16
  have c18 : sI Z h16 G3 := c7.wr W16
  have c19 : sA Z h16 := c8.wr W16
  have c20 : sH Z h16 := c9.wr W16
  have c21 : sL Z h16 := c10.wr W16
  have c22 : Exa Z h16 r0 "java/lang/String" := c11.wr W16
  have c23 : Fld Z h16 r0 "java/lang/String" "value" "[B" .null := c12.other W16 (Or.inr (slot_ne (Or.inr (tw hw 16 rfl)) (Or.inr (tw hw 17 rfl)) (by decide) (t := (.array .byte)) (t' := .byte) (by decide) (by decide)))
  have c24 : Arv Z h16 b5 kb5 .byte (6 : Int32) [(.int (loB ch0)), (.int (hiB ch0)), (.int (loB ch1)), (.int (hiB ch1)), (.int (loB ch2)), (.int (hiB ch2))] (.int 0) := Vq5.other W16 (Ne.symm ne_r0_b5)
  obtain ⟨T25, h25, X25, e25, W25, st25⟩ := putF X16 hx hZ hown (host := "") (Or.inl (tw hw 20 rfl)) Via.refl e16 c23 c22 (Or.inr ⟨(tw hw 16 rfl), rfl, hnm⟩) (tw hw 2 rfl) (ty := (.array .byte)) (by decide) rfl rfl (g := (mkF m 54 #[vr r0, vr r1, vi 0, vi 3, .val .null, vr b5] [(.ref b5), (.ref r0)])) rfl rfl (hb hby d2_54)
  have Fw25 : Fld Z h25 r0 "java/lang/String" "value" "[B" (.ref b5) := c23.same W25
  have N25 := Fr.snoc X25 N16 g_r0
  have Z25 : n0 ≤ h25.size := Nat.le_trans Z16 (Keep.of_wr W25).1
  have K25 : Keep h0 h25 [r0] := K16.wr W25 (Or.inl (List.mem_of_getElem? (i := 0) rfl))
  have c26 : sC Z h25 G1 := c17.wr W25
  have c27 : sI Z h25 G3 := c18.wr W25
  have c28 : sA Z h25 := c19.wr W25
  have c29 : sH Z h25 := c20.wr W25
  have c30 : sL Z h25 := c21.wr W25
  have c31 : Exa Z h25 r0 "java/lang/String" := c22.wr W25
  have c32 : Fld Z h25 r0 "java/lang/String" "coder" "B" (.int 1) := Fw16.other W25 (Or.inr (slot_ne (Or.inr (tw hw 17 rfl)) (Or.inr (tw hw 16 rfl)) (by decide) (t := .byte) (t' := (.array .byte)) (by decide) (by decide)))
  have c33 : Arv Z h25 b5 kb5 .byte (6 : Int32) [(.int (loB ch0)), (.int (hiB ch0)), (.int (loB ch1)), (.int (hiB ch1)), (.int (loB ch2)), (.int (hiB ch2))] (.int 0) := c24.other W25 (Ne.symm ne_r0_b5)
  obtain ⟨fs, hr, hrun, hended, hW, hsame⟩ := X25.leave (v := none) (fun _ => rfl)
  refine ⟨_, _, pre0 _ ?_, hrun, hended, _, _, rfl, ?_, ⟨_, rfl⟩, hW, hsame.mono (by decide) (by decide)⟩
  · skip
    show SF p e below s₁ m 0 #[vr r0, vr r1, vi 0, vi 3, .val .null, .unset] [] _
    refine XS.aloadN X0.here hx rfl (hb hby d2_0) rfl rfl ?_
    refine st1 _ ?_
    refine XS.iloadN X1.here hx rfl (hb hby d2_4) rfl ?_
    refine XS.ifYes X1.here hx rfl (pc0 := 5) (pc' := 27) rfl (hb hby d2_5) rfl ((if0 _ _).trans (feq hc2).2) (by decide) (by decide) ?_
    refine st3 _ ?_
    show SF p e below T3 m 30 #[vr r0, vr r1, vi 0, vi 3, .val .null, .unset] [(.int G1)] _
    refine XS.ifNo X3.here hx rfl (hb hby d2_30) rfl ((if0 _ _).trans (feq hc4).1) ?_
    refine XS.aloadN X3.here hx rfl (hb hby d2_33) rfl rfl ?_
    refine XS.iloadN X3.here hx rfl (hb hby d2_34) rfl ?_
    refine XS.iloadN X3.here hx rfl (hb hby d2_35) rfl ?_
    refine st5 _ ?_
    show SF p e below T5 m 39 #[vr r0, vr r1, vi 0, vi 3, .val .null, .unset] [(.ref b5)] _
    refine XS.astore X5.here hx rfl (hb hby d2_39) rfl rfl (l' := #[vr r0, vr r1, vi 0, vi 3, .val .null, vr b5]) rfl ?_
    refine XS.aloadN X5.here hx rfl (hb hby d2_41) rfl rfl ?_
    refine XS.aload X5.here hx rfl (hb hby d2_42) rfl rfl ?_
    refine XS.iloadN X5.here hx rfl (hb hby d2_44) rfl ?_
    refine st15 _ ?_
    show SF p e below T15 m 48 #[vr r0, vr r1, vi 0, vi 3, .val .null, vr b5] [(.int 1), (.ref r0)] _
    refine st16 _ ?_
    refine XS.aloadN X16.here hx rfl (hb hby d2_51) rfl rfl ?_
    refine XS.aload X16.here hx rfl (hb hby d2_52) rfl rfl ?_
    refine st25 _ ?_
    show SF p e below T25 m 57 #[vr r0, vr r1, vi 0, vi 3, .val .null, vr b5] [] _
    exact X25.returnOut hx Bd.returns (hb hby d2_57) hr
  · show Qi4_3 Z r0 r1 k1 ch0 ch1 ch2 G1 G3 h0 n0 _ T25.heap _
    rw [e25]
    exact ⟨rfl, N25, K25, b5, kb5, c31, Fw25, c32, c33⟩
def Qi2_3 (Z : State) (r0 : Addr) (r1 : Addr) (k1 : ClassId) (ch0 : Int32) (ch1 : Int32) (ch2 : Int32) (G1 : Int32) (G3 : Value) (h0 : Heap) (n0 : Nat) (v : Option Value) (h : Heap) (L : List Loc) : Prop := v = none ∧ Fr n0 L ∧ Keep h0 h [r0] ∧ OW Z h r0 (6 : Int32) [(.int (loB ch0)), (.int (hiB ch0)), (.int (loB ch1)), (.int (hiB ch1)), (.int (loB ch2)), (.int (hiB ch2))]
set_option maxRecDepth 65536 in
set_option maxHeartbeats 40000000 in
theorem rmi2_3 (l : Launch) (Z : State) (a0 : Array Value) (hw : ∀ d ∈ tables_1, d.before a0 Z = true) (ws : List Jvm.Cond) (r0 : Addr) (r1 : Addr) (k1 : ClassId) (ch0 : Int32) (ch1 : Int32) (ch2 : Int32) (G1 : Int32) (G3 : Value) (h0 : Heap) (n0 : Nat) (Z0 : n0 ≤ h0.size) (E_r0 : Exa Z h0 r0 "java/lang/String") (F_0 : Fld Z h0 r0 "java/lang/String" "value" "[B" .null) (F_1 : Fld Z h0 r0 "java/lang/String" "coder" "B" (.int 0)) (g_r0 : n0 ≤ r0) (V1 : Arv Z h0 r1 k1 .char (3 : Int32) [(.int ch0), (.int ch1), (.int ch2)] (.int 0)) (hb_0 : 0 ≤ ch0.toInt ∧ ch0.toInt ≤ 65535) (hb_1 : 0 ≤ ch1.toInt ∧ ch1.toInt ≤ 65535) (hb_2 : 0 ≤ ch2.toInt ∧ ch2.toInt ≤ 65535) (hW : ((255 : Int32) < ch0) ∨ (¬ ((255 : Int32) < ch0) ∧ (255 : Int32) < ch1) ∨ (¬ ((255 : Int32) < ch0) ∧ ¬ ((255 : Int32) < ch1) ∧ (255 : Int32) < ch2)) (O2 : sC Z h0 G1) (P5 : ¬ (G1 = (0 : Int32))) (O4 : sI Z h0 G3) (rG3 : G3.isRef = true) (OA : sA Z h0) (OH : sH Z h0) (OL : sL Z h0) :
    MF l Z mN7 jdk_42_method_3_code 2 none ws (rK 5 2 9 74) #[(.ref r0), (.ref r1)] h0 (Qi2_3 Z r0 r1 k1 ch0 ch1 ch2 G1 G3 h0 n0) := by
  refine MetFree.of_bodySF (plainFor_of_name pn_java_lang_String) hisR ?_
  intro p e s m args below meth c s₁ Bd hml0 hP hK
  obtain ⟨rfl, hZ, hh⟩ := hP
  have hx := Bd.exec
  have hby := Bd.bytes
  have hml : c.maxLocals = 2 := hml0
  have hown : s.vm.findClass "java/lang/String" = some m.cls := findClass_of_methodNamed Bd.named
  have hnm := (name_of_methodNamed Bd.named Bd.method).1
  have X0 : Stand p l e (rK 5 2 9 74) s m #[(.ref r0), (.ref r1)] below meth c s₁ [] 0 0 := Stand.of_body Bd
  have e0 : s₁.heap = h0 := by rw [← hh, Bd.state]; rfl
  have N0 := Fr.nil n0
  have pre0 : ∀ t, SF p e below s₁ m 0 #[vr r0, vr r1] [] t → Steps p.tables e below (s₁.setTop (entryFrame m #[(.ref r0), (.ref r1)] 2)) t := fun t k => castTop (ef_1 m r0 r1) k
  have KR : Keep h0 h0 [r0] := Keep.refl _ _
  obtain ⟨cl1, Ar1, -, Sz1, Nn1, -, -⟩ := id V1
  obtain ⟨_, _, ⟨T2, L2, k2, n2⟩, -, X2, ⟨Lc2, hQ2, l2, y2, z2⟩, st2⟩ := X0.specialBack hx (y := mN6) rfl hown (mvT hZ (tw hw 7 rfl)) (mvT hZ (tw hw 8 rfl)) (mvT hZ (tw hw 10 rfl)) (by decide) (backOf (W := 0) (rmi4_3 l Z a0 hw [] r0 r1 k1 ch0 ch1 ch2 G1 G3 h0 n0 Z0 E_r0 F_0 F_1 g_r0 V1 hb_0 hb_1 hb_2 hW O2 P5 O4 rG3 OA OH OL) hZ (tw hw 10 rfl) (tw hw 3 rfl) (by decide) (by decide)) (g := (mkF m 6 #[vr r0, vr r1] [.null, (.int 3), (.int 0), (.ref r1), (.ref r0)])) rfl (by rw [hml]; rfl) (Steps.refl _) (a := r0) (argsL := [(.ref r1), (.int 0), (.int 3), .null]) (rest := []) (lenOf pd_1 rfl) rfl (by show 2 * 0 + _ ≤ _; exact Nat.le_of_eq rfl) (hb hby d1_6) (fun _ _ => ⟨rfl, e0, (by decide : 0 + 2 ≤ _), (by decide : 0 + 9 ≤ _)⟩)
  dsimp only [Pt.U, Pt.locs, Pt.cells, Pt.slots] at X2 l2 y2 z2 st2 hQ2
  subst l2 y2 z2
  obtain ⟨rfl, Nq2, Kq2, Sq2⟩ := hQ2
  have N2 := Fr.app N0 Nq2
  have Z2 : n0 ≤ T2.heap.size := Nat.le_trans Z0 Kq2.1
  have K2 : Keep h0 T2.heap [r0] := KR.trans Kq2 (fun x hx => by cases List.mem_singleton.mp hx; exact (Or.inl (List.mem_of_getElem? (i := 0) rfl)))
  have c3 : sC Z T2.heap G1 := own_sk O2 Kq2 E_r0
  have c4 : sI Z T2.heap G3 := own_sk O4 Kq2 E_r0
  have c5 : sA Z T2.heap := own_sk OA Kq2 E_r0
  have c6 : sH Z T2.heap := own_sk OH Kq2 E_r0
  have c7 : sL Z T2.heap := own_sk OL Kq2 E_r0
  obtain ⟨fs, hr, hrun, hended, hW, hsame⟩ := X2.leave (v := none) (fun _ => rfl)
  refine ⟨_, _, pre0 _ ?_, hrun, hended, _, _, rfl, ?_, ⟨_, rfl⟩, hW, hsame.mono (by decide) (by decide)⟩
  · skip
    show SF p e below s₁ m 0 #[vr r0, vr r1] [] _
    refine XS.aloadN X0.here hx rfl (hb hby d1_0) rfl rfl ?_
    refine XS.aloadN X0.here hx rfl (hb hby d1_1) rfl rfl ?_
    refine XS.iconst X0.here hx rfl (hb hby d1_2) ?_
    refine XS.aloadN X0.here hx rfl (hb hby d1_3) rfl rfl ?_
    refine X0.arraylength hx (by rw [e0]; exact Ar1.1) (State.isArrayOf_alike hZ.alike Ar1.2.1) (g := (mkF m 4 #[vr r0, vr r1] [(.ref r1), (.int 0), (.ref r1), (.ref r0)])) rfl rfl (hb hby d1_4) _ ?_
    rw [len_of Sz1 Nn1]
    show SF p e below s₁ m 5 #[vr r0, vr r1] [(.int 3), (.int 0), (.ref r1), (.ref r0)] _
    refine XS.aconstNull X0.here hx rfl (hb hby d1_5) ?_
    refine st2.trans ?_
    show SF p e below T2 m 9 #[vr r0, vr r1] [] _
    exact X2.returnOut hx Bd.returns (hb hby d1_9) hr
  · show Qi2_3 Z r0 r1 k1 ch0 ch1 ch2 G1 G3 h0 n0 _ T2.heap _
    exact ⟨rfl, N2, K2, Sq2⟩
def Qcod (Z : State) (r0 : Addr) (G1 : Int32) (G3 : Value) (h0 : Heap) (n0 : Nat) (v : Option Value) (h : Heap) (L : List Loc) : Prop := v = some (.int 1) ∧ Fr n0 L ∧ h = h0
set_option maxRecDepth 65536 in
set_option maxHeartbeats 40000000 in
theorem rmcod (l : Launch) (Z : State) (a0 : Array Value) (hw : ∀ d ∈ tables_1, d.before a0 Z = true) (ws : List Jvm.Cond) (r0 : Addr) (G1 : Int32) (G3 : Value) (h0 : Heap) (n0 : Nat) (Z0 : n0 ≤ h0.size) (O2 : sC Z h0 G1) (P5 : ¬ (G1 = (0 : Int32))) (O4 : sI Z h0 G3) (rG3 : G3.isRef = true) (F0 : Fld Z h0 r0 "java/lang/String" "coder" "B" (.int 1)) :
    MF l Z mN16 jdk_42_method_152_code 1 (some .byte) ws (rK 0 0 0 0) #[(.ref r0)] h0 (Qcod Z r0 G1 G3 h0 n0) := by
  refine MetFree.of_bodySF (plainFor_of_name pn_java_lang_String) hisR ?_
  intro p e s m args below meth c s₁ Bd hml0 hP hK
  obtain ⟨rfl, hZ, hh⟩ := hP
  have hx := Bd.exec
  have hby := Bd.bytes
  have hml : c.maxLocals = 1 := hml0
  have hown : s.vm.findClass "java/lang/String" = some m.cls := findClass_of_methodNamed Bd.named
  have hnm := (name_of_methodNamed Bd.named Bd.method).1
  have X0 : Stand p l e (rK 0 0 0 0) s m #[(.ref r0)] below meth c s₁ [] 0 0 := Stand.of_body Bd
  have e0 : s₁.heap = h0 := by rw [← hh, Bd.state]; rfl
  have N0 := Fr.nil n0
  have pre0 : ∀ t, SF p e below s₁ m 0 #[vr r0] [] t → Steps p.tables e below (s₁.setTop (entryFrame m #[(.ref r0)] 1)) t := fun t k => castTop (ef_27 m r0) k
  obtain ⟨T1, X1, e1, st1⟩ := getS2 X0 hx hZ hown (host := "") (Or.inl (tw hw 31 rfl)) Via.refl e0 O2 (g := (mkF m 0 #[vr r0] [])) rfl (hb hby d27_0)
  have hc2 : ¬ (G1 = (0 : Int32)) := P5
  have ohc2 : ¬ (G1.toInt = 0) := own_neq.mp hc2
  obtain ⟨T3, X3, e3, st3⟩ := getF X1 hx hZ hown (host := "") (Or.inl (tw hw 21 rfl)) Via.refl e1 F0 (g := (mkF m 7 #[vr r0] [(.ref r0)])) rfl rfl (hb hby d27_7)
  obtain ⟨fs, hr, hrun, hended, hW, hsame⟩ := X3.leave (v := some (.int 1)) (fun h => by rw [Bd.returns] at h; cases h)
  refine ⟨_, _, pre0 _ ?_, hrun, hended, _, _, rfl, ?_, ⟨_, rfl⟩, hW, hsame.mono (by decide) (by decide)⟩
  · skip
    show SF p e below s₁ m 0 #[vr r0] [] _
    refine st1 _ ?_
    refine XS.ifNo X1.here hx rfl (hb hby d27_3) rfl ((if0 _ _).trans (feq hc2).1) ?_
    refine XS.aloadN X1.here hx rfl (hb hby d27_6) rfl rfl ?_
    refine st3 _ ?_
    refine XS.goto X3.here hx rfl (pc0 := 10) (pc' := 14) rfl (hb hby d27_10) (by decide) (by decide) ?_
    show SF p e below T3 m 14 #[vr r0] [(.int 1)] _
    exact retN X3 hx (t := .byte) Bd.returns (by simp) (hb hby d27_14) hr
  · show Qcod Z r0 G1 G3 h0 n0 _ T3.heap _
    rw [e3]
    exact ⟨rfl, N0, rfl⟩
def Qlat (Z : State) (r0 : Addr) (G1 : Int32) (G3 : Value) (h0 : Heap) (n0 : Nat) (v : Option Value) (h : Heap) (L : List Loc) : Prop := v = some (.int 0) ∧ Fr n0 L ∧ h = h0
set_option maxRecDepth 65536 in
set_option maxHeartbeats 40000000 in
theorem rmlat (l : Launch) (Z : State) (a0 : Array Value) (hw : ∀ d ∈ tables_1, d.before a0 Z = true) (ws : List Jvm.Cond) (r0 : Addr) (G1 : Int32) (G3 : Value) (h0 : Heap) (n0 : Nat) (Z0 : n0 ≤ h0.size) (O2 : sC Z h0 G1) (P5 : ¬ (G1 = (0 : Int32))) (O4 : sI Z h0 G3) (rG3 : G3.isRef = true) (F0 : Fld Z h0 r0 "java/lang/String" "coder" "B" (.int 1)) :
    MF l Z mN17 jdk_42_method_154_code 1 (some .boolean) ws (rK 0 0 0 0) #[(.ref r0)] h0 (Qlat Z r0 G1 G3 h0 n0) := by
  refine MetFree.of_bodySF (plainFor_of_name pn_java_lang_String) hisR ?_
  intro p e s m args below meth c s₁ Bd hml0 hP hK
  obtain ⟨rfl, hZ, hh⟩ := hP
  have hx := Bd.exec
  have hby := Bd.bytes
  have hml : c.maxLocals = 1 := hml0
  have hown : s.vm.findClass "java/lang/String" = some m.cls := findClass_of_methodNamed Bd.named
  have hnm := (name_of_methodNamed Bd.named Bd.method).1
  have X0 : Stand p l e (rK 0 0 0 0) s m #[(.ref r0)] below meth c s₁ [] 0 0 := Stand.of_body Bd
  have e0 : s₁.heap = h0 := by rw [← hh, Bd.state]; rfl
  have N0 := Fr.nil n0
  have pre0 : ∀ t, SF p e below s₁ m 0 #[vr r0] [] t → Steps p.tables e below (s₁.setTop (entryFrame m #[(.ref r0)] 1)) t := fun t k => castTop (ef_11 m r0) k
  obtain ⟨T1, X1, e1, st1⟩ := getS2 X0 hx hZ hown (host := "") (Or.inl (tw hw 31 rfl)) Via.refl e0 O2 (g := (mkF m 0 #[vr r0] [])) rfl (hb hby d11_0)
  have hc2 : ¬ (G1 = (0 : Int32)) := P5
  have ohc2 : ¬ (G1.toInt = 0) := own_neq.mp hc2
  obtain ⟨T3, X3, e3, st3⟩ := getF X1 hx hZ hown (host := "") (Or.inl (tw hw 21 rfl)) Via.refl e1 F0 (g := (mkF m 7 #[vr r0] [(.ref r0)])) rfl rfl (hb hby d11_7)
  have hc4 : ¬ ((1 : Int32) = (0 : Int32)) := by decide
  obtain ⟨fs, hr, hrun, hended, hW, hsame⟩ := X3.leave (v := some (.int 0)) (fun h => by rw [Bd.returns] at h; cases h)
  refine ⟨_, _, pre0 _ ?_, hrun, hended, _, _, rfl, ?_, ⟨_, rfl⟩, hW, hsame.mono (by decide) (by decide)⟩
  · skip
    show SF p e below s₁ m 0 #[vr r0] [] _
    refine st1 _ ?_
    refine XS.ifNo X1.here hx rfl (hb hby d11_3) rfl ((if0 _ _).trans (feq hc2).1) ?_
    refine XS.aloadN X1.here hx rfl (hb hby d11_6) rfl rfl ?_
    refine st3 _ ?_
    refine XS.ifYes X3.here hx rfl (pc0 := 10) (pc' := 17) rfl (hb hby d11_10) rfl ((if0 _ _).trans (feq hc4).2) (by decide) (by decide) ?_
    show SF p e below T3 m 17 #[vr r0] [] _
    refine XS.iconst X3.here hx rfl (hb hby d11_17) ?_
    show SF p e below T3 m 18 #[vr r0] [(.int 0)] _
    exact retN X3 hx (t := .boolean) Bd.returns (by simp) (hb hby d11_18) hr
  · show Qlat Z r0 G1 G3 h0 n0 _ T3.heap _
    rw [e3]
    exact ⟨rfl, N0, rfl⟩
def QpiN (Z : State) (p0 : Int32) (p1 : Int32) (h0 : Heap) (n0 : Nat) (v : Option Value) (h : Heap) (L : List Loc) : Prop := v = some (.int p0) ∧ Fr n0 L ∧ h = h0
set_option maxRecDepth 65536 in
set_option maxHeartbeats 40000000 in
theorem rmpiN (l : Launch) (Z : State) (a0 : Array Value) (hw : ∀ d ∈ tables_1, d.before a0 Z = true) (ws : List Jvm.Cond) (p0 : Int32) (p1 : Int32) (h0 : Heap) (n0 : Nat) (Z0 : n0 ≤ h0.size) (hi0 : ¬ (p0 < (0 : Int32))) (hi1 : p0 < p1) :
    MF l Z mN18 jdk_41_method_11_code 3 (some .int) ws (rK 0 0 0 0) #[(.int p0), (.int p1), .null] h0 (QpiN Z p0 p1 h0 n0) := by
  refine MetFree.of_bodySF (plainFor_of_name pn_jdk_internal_util_Preconditions) hisR ?_
  intro p e s m args below meth c s₁ Bd hml0 hP hK
  obtain ⟨rfl, hZ, hh⟩ := hP
  have hx := Bd.exec
  have hby := Bd.bytes
  have hml : c.maxLocals = 3 := hml0
  have hown : s.vm.findClass "jdk/internal/util/Preconditions" = some m.cls := findClass_of_methodNamed Bd.named
  have hnm := (name_of_methodNamed Bd.named Bd.method).1
  have X0 : Stand p l e (rK 0 0 0 0) s m #[(.int p0), (.int p1), .null] below meth c s₁ [] 0 0 := Stand.of_body Bd
  have e0 : s₁.heap = h0 := by rw [← hh, Bd.state]; rfl
  have N0 := Fr.nil n0
  have pre0 : ∀ t, SF p e below s₁ m 0 #[vi p0, vi p1, .val .null] [] t → Steps p.tables e below (s₁.setTop (entryFrame m #[(.int p0), (.int p1), .null] 3)) t := fun t k => castTop (ef_14_vvn m p0 p1) k
  have hc1 : ¬ (p0 < (0 : Int32)) := hi0
  have ohc1 : 0 ≤ p0.toInt := own_nlt.mp hc1
  have hc2 : p0 < p1 := hi1
  have ohc2 : p0.toInt < p1.toInt := own_lt.mp hc2
  obtain ⟨fs, hr, hrun, hended, hW, hsame⟩ := X0.leave (v := some (.int p0)) (fun h => by rw [Bd.returns] at h; cases h)
  refine ⟨_, _, pre0 _ ?_, hrun, hended, _, _, rfl, ?_, ⟨_, rfl⟩, hW, hsame.mono (by decide) (by decide)⟩
  · skip
    show SF p e below s₁ m 0 #[vi p0, vi p1, .val .null] [] _
    refine XS.iloadN X0.here hx rfl (hb hby d14_0) rfl ?_
    refine XS.ifNo X0.here hx rfl (hb hby d14_1) rfl ((if0 _ _).trans (flt hc1).1) ?_
    refine XS.iloadN X0.here hx rfl (hb hby d14_4) rfl ?_
    refine XS.iloadN X0.here hx rfl (hb hby d14_5) rfl ?_
    refine XS.icmpYes X0.here hx rfl (pc0 := 6) (pc' := 16) rfl (hb hby d14_6) rfl (tlt hc2).1 (by decide) (by decide) ?_
    show SF p e below s₁ m 16 #[vi p0, vi p1, .val .null] [] _
    refine XS.iloadN X0.here hx rfl (hb hby d14_16) rfl ?_
    show SF p e below s₁ m 17 #[vi p0, vi p1, .val .null] [(.int p0)] _
    exact retI X0 hx Bd.returns (hb hby d14_17) hr
  · show QpiN Z p0 p1 h0 n0 _ s₁.heap _
    rw [e0]
    exact ⟨rfl, N0, rfl⟩
def QpiR (Z : State) (p0 : Int32) (p1 : Int32) (r2 : Addr) (h0 : Heap) (n0 : Nat) (v : Option Value) (h : Heap) (L : List Loc) : Prop := v = some (.int p0) ∧ Fr n0 L ∧ h = h0
set_option maxRecDepth 65536 in
set_option maxHeartbeats 40000000 in
theorem rmpiR (l : Launch) (Z : State) (a0 : Array Value) (hw : ∀ d ∈ tables_1, d.before a0 Z = true) (ws : List Jvm.Cond) (p0 : Int32) (p1 : Int32) (r2 : Addr) (h0 : Heap) (n0 : Nat) (Z0 : n0 ≤ h0.size) (hi0 : ¬ (p0 < (0 : Int32))) (hi1 : p0 < p1) :
    MF l Z mN18 jdk_41_method_11_code 3 (some .int) ws (rK 0 0 0 0) #[(.int p0), (.int p1), (.ref r2)] h0 (QpiR Z p0 p1 r2 h0 n0) := by
  refine MetFree.of_bodySF (plainFor_of_name pn_jdk_internal_util_Preconditions) hisR ?_
  intro p e s m args below meth c s₁ Bd hml0 hP hK
  obtain ⟨rfl, hZ, hh⟩ := hP
  have hx := Bd.exec
  have hby := Bd.bytes
  have hml : c.maxLocals = 3 := hml0
  have hown : s.vm.findClass "jdk/internal/util/Preconditions" = some m.cls := findClass_of_methodNamed Bd.named
  have hnm := (name_of_methodNamed Bd.named Bd.method).1
  have X0 : Stand p l e (rK 0 0 0 0) s m #[(.int p0), (.int p1), (.ref r2)] below meth c s₁ [] 0 0 := Stand.of_body Bd
  have e0 : s₁.heap = h0 := by rw [← hh, Bd.state]; rfl
  have N0 := Fr.nil n0
  have pre0 : ∀ t, SF p e below s₁ m 0 #[vi p0, vi p1, vr r2] [] t → Steps p.tables e below (s₁.setTop (entryFrame m #[(.int p0), (.int p1), (.ref r2)] 3)) t := fun t k => castTop (ef_14 m p0 p1 r2) k
  have hc1 : ¬ (p0 < (0 : Int32)) := hi0
  have ohc1 : 0 ≤ p0.toInt := own_nlt.mp hc1
  have hc2 : p0 < p1 := hi1
  have ohc2 : p0.toInt < p1.toInt := own_lt.mp hc2
  obtain ⟨fs, hr, hrun, hended, hW, hsame⟩ := X0.leave (v := some (.int p0)) (fun h => by rw [Bd.returns] at h; cases h)
  refine ⟨_, _, pre0 _ ?_, hrun, hended, _, _, rfl, ?_, ⟨_, rfl⟩, hW, hsame.mono (by decide) (by decide)⟩
  · skip
    show SF p e below s₁ m 0 #[vi p0, vi p1, vr r2] [] _
    refine XS.iloadN X0.here hx rfl (hb hby d14_0) rfl ?_
    refine XS.ifNo X0.here hx rfl (hb hby d14_1) rfl ((if0 _ _).trans (flt hc1).1) ?_
    refine XS.iloadN X0.here hx rfl (hb hby d14_4) rfl ?_
    refine XS.iloadN X0.here hx rfl (hb hby d14_5) rfl ?_
    refine XS.icmpYes X0.here hx rfl (pc0 := 6) (pc' := 16) rfl (hb hby d14_6) rfl (tlt hc2).1 (by decide) (by decide) ?_
    show SF p e below s₁ m 16 #[vi p0, vi p1, vr r2] [] _
    refine XS.iloadN X0.here hx rfl (hb hby d14_16) rfl ?_
    show SF p e below s₁ m 17 #[vi p0, vi p1, vr r2] [(.int p0)] _
    exact retI X0 hx Bd.returns (hb hby d14_17) hr
  · show QpiR Z p0 p1 r2 h0 n0 _ s₁.heap _
    rw [e0]
    exact ⟨rfl, N0, rfl⟩
def QciN (Z : State) (p0 : Int32) (p1 : Int32) (h0 : Heap) (n0 : Nat) (v : Option Value) (h : Heap) (L : List Loc) : Prop := v = none ∧ Fr n0 L ∧ h = h0
set_option maxRecDepth 65536 in
set_option maxHeartbeats 40000000 in
theorem rmciN (l : Launch) (Z : State) (a0 : Array Value) (hw : ∀ d ∈ tables_1, d.before a0 Z = true) (ws : List Jvm.Cond) (p0 : Int32) (p1 : Int32) (h0 : Heap) (n0 : Nat) (Z0 : n0 ≤ h0.size) (hi0 : ¬ (p0 < (0 : Int32))) (hi1 : p0 < p1) (O4 : Sta Z h0 "jdk/internal/util/Preconditions" "SIOOBE_FORMATTER" "Ljava/util/function/BiFunction;" .null) :
    MF l Z mN19 jdk_42_method_155_code 2 none ws (rK 1 0 0 14) #[(.int p0), (.int p1)] h0 (QciN Z p0 p1 h0 n0) := by
  refine MetFree.of_bodySF (plainFor_of_name pn_java_lang_String) hisR ?_
  intro p e s m args below meth c s₁ Bd hml0 hP hK
  obtain ⟨rfl, hZ, hh⟩ := hP
  have hx := Bd.exec
  have hby := Bd.bytes
  have hml : c.maxLocals = 2 := hml0
  have hown : s.vm.findClass "java/lang/String" = some m.cls := findClass_of_methodNamed Bd.named
  have hnm := (name_of_methodNamed Bd.named Bd.method).1
  have X0 : Stand p l e (rK 1 0 0 14) s m #[(.int p0), (.int p1)] below meth c s₁ [] 0 0 := Stand.of_body Bd
  have e0 : s₁.heap = h0 := by rw [← hh, Bd.state]; rfl
  have N0 := Fr.nil n0
  have pre0 : ∀ t, SF p e below s₁ m 0 #[vi p0, vi p1] [] t → Steps p.tables e below (s₁.setTop (entryFrame m #[(.int p0), (.int p1)] 2)) t := fun t k => castTop (ef_13 m p0 p1) k
  obtain ⟨T1, X1, e1, st1⟩ := getS2 X0 hx hZ hown (host := "") (Or.inl (tw hw 63 rfl)) Via.refl e0 O4 (g := (mkF m 2 #[vi p0, vi p1] [(.int p1), (.int p0)])) rfl (hb hby d13_2)
  obtain ⟨_, _, ⟨T2, L2, k2, n2⟩, -, X2, ⟨Lc2, hQ2, l2, y2, z2⟩, st2⟩ := Jvm.LawKit.callS X1 hx (y := mN18) hown (mvT hZ (tw hw 65 rfl)) (mvT hZ (tw hw 66 rfl)) (mvT hZ (tw hw 64 rfl)) (mvT hZ (tw hw 67 rfl)) (by decide) (backOf (W := 0) (rmpiN l Z a0 hw [] p0 p1 h0 n0 Z0 hi0 hi1) hZ (tw hw 67 rfl) (tw hw 64 rfl) (by decide) (by decide)) (g := (mkF m 5 #[vi p0, vi p1] [.null, (.int p1), (.int p0)])) rfl (by rw [hml]; rfl) (argsL := [(.int p0), (.int p1), .null]) (rest := []) (lenOf pd_9 rfl) rfl (by show 2 * 0 + _ ≤ _; exact Nat.le_of_eq rfl) (hb hby d13_5) (fun _ _ => ⟨rfl, e1, (by decide : 0 + 0 ≤ _), (by decide : 0 + 0 ≤ _)⟩)
  dsimp only [Pt.U, Pt.locs, Pt.cells, Pt.slots] at X2 l2 y2 z2 st2 hQ2
  subst l2 y2 z2
  obtain ⟨rfl, Nq2, e2⟩ := hQ2
  have N2 := Fr.app N0 Nq2
  obtain ⟨fs, hr, hrun, hended, hW, hsame⟩ := X2.leave (v := none) (fun _ => rfl)
  refine ⟨_, _, pre0 _ ?_, hrun, hended, _, _, rfl, ?_, ⟨_, rfl⟩, hW, hsame.mono (by decide) (by decide)⟩
  · skip
    show SF p e below s₁ m 0 #[vi p0, vi p1] [] _
    refine XS.iloadN X0.here hx rfl (hb hby d13_0) rfl ?_
    refine XS.iloadN X0.here hx rfl (hb hby d13_1) rfl ?_
    refine st1 _ ?_
    refine st2 _ ?_
    refine XS.pop X2.here hx rfl (hb hby d13_8) rfl rfl ?_
    show SF p e below T2 m 9 #[vi p0, vi p1] [] _
    exact X2.returnOut hx Bd.returns (hb hby d13_9) hr
  · show QciN Z p0 p1 h0 n0 _ T2.heap _
    rw [e2]
    exact ⟨rfl, N2, rfl⟩
def QciR (Z : State) (p0 : Int32) (p1 : Int32) (g0 : Addr) (h0 : Heap) (n0 : Nat) (v : Option Value) (h : Heap) (L : List Loc) : Prop := v = none ∧ Fr n0 L ∧ h = h0
set_option maxRecDepth 65536 in
set_option maxHeartbeats 40000000 in
theorem rmciR (l : Launch) (Z : State) (a0 : Array Value) (hw : ∀ d ∈ tables_1, d.before a0 Z = true) (ws : List Jvm.Cond) (p0 : Int32) (p1 : Int32) (g0 : Addr) (h0 : Heap) (n0 : Nat) (Z0 : n0 ≤ h0.size) (hi0 : ¬ (p0 < (0 : Int32))) (hi1 : p0 < p1) (O4 : Sta Z h0 "jdk/internal/util/Preconditions" "SIOOBE_FORMATTER" "Ljava/util/function/BiFunction;" (.ref g0)) :
    MF l Z mN19 jdk_42_method_155_code 2 none ws (rK 1 0 0 14) #[(.int p0), (.int p1)] h0 (QciR Z p0 p1 g0 h0 n0) := by
  refine MetFree.of_bodySF (plainFor_of_name pn_java_lang_String) hisR ?_
  intro p e s m args below meth c s₁ Bd hml0 hP hK
  obtain ⟨rfl, hZ, hh⟩ := hP
  have hx := Bd.exec
  have hby := Bd.bytes
  have hml : c.maxLocals = 2 := hml0
  have hown : s.vm.findClass "java/lang/String" = some m.cls := findClass_of_methodNamed Bd.named
  have hnm := (name_of_methodNamed Bd.named Bd.method).1
  have X0 : Stand p l e (rK 1 0 0 14) s m #[(.int p0), (.int p1)] below meth c s₁ [] 0 0 := Stand.of_body Bd
  have e0 : s₁.heap = h0 := by rw [← hh, Bd.state]; rfl
  have N0 := Fr.nil n0
  have pre0 : ∀ t, SF p e below s₁ m 0 #[vi p0, vi p1] [] t → Steps p.tables e below (s₁.setTop (entryFrame m #[(.int p0), (.int p1)] 2)) t := fun t k => castTop (ef_13 m p0 p1) k
  obtain ⟨T1, X1, e1, st1⟩ := getS2 X0 hx hZ hown (host := "") (Or.inl (tw hw 63 rfl)) Via.refl e0 O4 (g := (mkF m 2 #[vi p0, vi p1] [(.int p1), (.int p0)])) rfl (hb hby d13_2)
  obtain ⟨_, _, ⟨T2, L2, k2, n2⟩, -, X2, ⟨Lc2, hQ2, l2, y2, z2⟩, st2⟩ := Jvm.LawKit.callS X1 hx (y := mN18) hown (mvT hZ (tw hw 65 rfl)) (mvT hZ (tw hw 66 rfl)) (mvT hZ (tw hw 64 rfl)) (mvT hZ (tw hw 67 rfl)) (by decide) (backOf (W := 0) (rmpiR l Z a0 hw [] p0 p1 g0 h0 n0 Z0 hi0 hi1) hZ (tw hw 67 rfl) (tw hw 64 rfl) (by decide) (by decide)) (g := (mkF m 5 #[vi p0, vi p1] [(.ref g0), (.int p1), (.int p0)])) rfl (by rw [hml]; rfl) (argsL := [(.int p0), (.int p1), (.ref g0)]) (rest := []) (lenOf pd_9 rfl) rfl (by show 2 * 0 + _ ≤ _; exact Nat.le_of_eq rfl) (hb hby d13_5) (fun _ _ => ⟨rfl, e1, (by decide : 0 + 0 ≤ _), (by decide : 0 + 0 ≤ _)⟩)
  dsimp only [Pt.U, Pt.locs, Pt.cells, Pt.slots] at X2 l2 y2 z2 st2 hQ2
  subst l2 y2 z2
  obtain ⟨rfl, Nq2, e2⟩ := hQ2
  have N2 := Fr.app N0 Nq2
  obtain ⟨fs, hr, hrun, hended, hW, hsame⟩ := X2.leave (v := none) (fun _ => rfl)
  refine ⟨_, _, pre0 _ ?_, hrun, hended, _, _, rfl, ?_, ⟨_, rfl⟩, hW, hsame.mono (by decide) (by decide)⟩
  · skip
    show SF p e below s₁ m 0 #[vi p0, vi p1] [] _
    refine XS.iloadN X0.here hx rfl (hb hby d13_0) rfl ?_
    refine XS.iloadN X0.here hx rfl (hb hby d13_1) rfl ?_
    refine st1 _ ?_
    refine st2 _ ?_
    refine XS.pop X2.here hx rfl (hb hby d13_8) rfl rfl ?_
    show SF p e below T2 m 9 #[vi p0, vi p1] [] _
    exact X2.returnOut hx Bd.returns (hb hby d13_9) hr
  · show QciR Z p0 p1 g0 h0 n0 _ T2.heap _
    rw [e2]
    exact ⟨rfl, N2, rfl⟩
def Qci (Z : State) (p0 p1 : Int32) (G3 : Value) (h0 : Heap) (n0 : Nat) (v : Option Value) (h : Heap) (L : List Loc) : Prop := v = none ∧ Fr n0 L ∧ h = h0
theorem rmci (l : Launch) (Z : State) (a0 : Array Value) (hw : ∀ d ∈ tables_1, d.before a0 Z = true) (ws : List Jvm.Cond) (p0 : Int32) (p1 : Int32) (G3 : Value) (h0 : Heap) (n0 : Nat) (Z0 : n0 ≤ h0.size) (hi0 : ¬ (p0 < (0 : Int32))) (hi1 : p0 < p1) (O4 : sI Z h0 G3) (rG3 : G3.isRef = true) :
    MF l Z mN19 jdk_42_method_155_code 2 none ws (rK 1 0 0 14) #[(.int p0), (.int p1)] h0 (Qci Z p0 p1 G3 h0 n0) := by
  cases G3 with
  | null => exact rmciN l Z a0 hw ws p0 p1 h0 n0 Z0 hi0 hi1 O4
  | ref g => exact rmciR l Z a0 hw ws p0 p1 g h0 n0 Z0 hi0 hi1 O4
  | _ => cases rG3
def Qul_1 (Z : State) (r0 : Addr) (k0 : ClassId) (ch0 : Int32) (h0 : Heap) (n0 : Nat) (v : Option Value) (h : Heap) (L : List Loc) : Prop := v = some (.int 1) ∧ Fr n0 L ∧ h = h0
set_option maxRecDepth 65536 in
set_option maxHeartbeats 40000000 in
theorem rmul_1 (l : Launch) (Z : State) (a0 : Array Value) (hw : ∀ d ∈ tables_1, d.before a0 Z = true) (ws : List Jvm.Cond) (r0 : Addr) (k0 : ClassId) (ch0 : Int32) (h0 : Heap) (n0 : Nat) (Z0 : n0 ≤ h0.size) (V0 : Arv Z h0 r0 k0 .byte (2 : Int32) [(.int (loB ch0)), (.int (hiB ch0))] (.int 0)) :
    MF l Z mN20 jdk_52_method_6_code 1 (some .int) ws (rK 0 0 0 0) #[(.ref r0)] h0 (Qul_1 Z r0 k0 ch0 h0 n0) := by
  refine MetFree.of_bodySF (plainFor_of_name pn_java_lang_StringUTF16) hisR ?_
  intro p e s m args below meth c s₁ Bd hml0 hP hK
  obtain ⟨rfl, hZ, hh⟩ := hP
  have hx := Bd.exec
  have hby := Bd.bytes
  have hml : c.maxLocals = 1 := hml0
  have hown : s.vm.findClass "java/lang/StringUTF16" = some m.cls := findClass_of_methodNamed Bd.named
  have hnm := (name_of_methodNamed Bd.named Bd.method).1
  have X0 : Stand p l e (rK 0 0 0 0) s m #[(.ref r0)] below meth c s₁ [] 0 0 := Stand.of_body Bd
  have e0 : s₁.heap = h0 := by rw [← hh, Bd.state]; rfl
  have N0 := Fr.nil n0
  have pre0 : ∀ t, SF p e below s₁ m 0 #[vr r0] [] t → Steps p.tables e below (s₁.setTop (entryFrame m #[(.ref r0)] 1)) t := fun t k => castTop (ef_24 m r0) k
  obtain ⟨cl1, Ar1, -, Sz1, Nn1, -, -⟩ := id V0
  obtain ⟨fs, hr, hrun, hended, hW, hsame⟩ := X0.leave (v := some (.int 1)) (fun h => by rw [Bd.returns] at h; cases h)
  refine ⟨_, _, pre0 _ ?_, hrun, hended, _, _, rfl, ?_, ⟨_, rfl⟩, hW, hsame.mono (by decide) (by decide)⟩
  · skip
    show SF p e below s₁ m 0 #[vr r0] [] _
    refine XS.aloadN X0.here hx rfl (hb hby d24_0) rfl rfl ?_
    refine X0.arraylength hx (by rw [e0]; exact Ar1.1) (State.isArrayOf_alike hZ.alike Ar1.2.1) (g := (mkF m 1 #[vr r0] [(.ref r0)])) rfl rfl (hb hby d24_1) _ ?_
    rw [len_of Sz1 Nn1]
    refine XS.iconst X0.here hx rfl (hb hby d24_2) ?_
    refine XS.ishr X0.here hx rfl (hb hby d24_3) rfl ?_
    show SF p e below s₁ m 4 #[vr r0] [(.int 1)] _
    exact retI X0 hx Bd.returns (hb hby d24_4) hr
  · show Qul_1 Z r0 k0 ch0 h0 n0 _ s₁.heap _
    rw [e0]
    exact ⟨rfl, N0, rfl⟩
def Qui_1_0 (Z : State) (r1 : Addr) (k0 : ClassId) (ch0 : Int32) (G1 : Int32) (G3 : Value) (h0 : Heap) (n0 : Nat) (v : Option Value) (h : Heap) (L : List Loc) : Prop := v = none ∧ Fr n0 L ∧ h = h0
set_option maxRecDepth 65536 in
set_option maxHeartbeats 40000000 in
theorem rmui_1_0 (l : Launch) (Z : State) (a0 : Array Value) (hw : ∀ d ∈ tables_1, d.before a0 Z = true) (ws : List Jvm.Cond) (r1 : Addr) (k0 : ClassId) (ch0 : Int32) (G1 : Int32) (G3 : Value) (h0 : Heap) (n0 : Nat) (Z0 : n0 ≤ h0.size) (V0 : Arv Z h0 r1 k0 .byte (2 : Int32) [(.int (loB ch0)), (.int (hiB ch0))] (.int 0)) (O2 : sC Z h0 G1) (P5 : ¬ (G1 = (0 : Int32))) (O4 : sI Z h0 G3) (rG3 : G3.isRef = true) :
    MF l Z mN21 jdk_52_method_91_code 2 none ws (rK 2 0 0 27) #[(.int 0), (.ref r1)] h0 (Qui_1_0 Z r1 k0 ch0 G1 G3 h0 n0) := by
  refine MetFree.of_bodySF (plainFor_of_name pn_java_lang_StringUTF16) hisR ?_
  intro p e s m args below meth c s₁ Bd hml0 hP hK
  obtain ⟨rfl, hZ, hh⟩ := hP
  have hx := Bd.exec
  have hby := Bd.bytes
  have hml : c.maxLocals = 2 := hml0
  have hown : s.vm.findClass "java/lang/StringUTF16" = some m.cls := findClass_of_methodNamed Bd.named
  have hnm := (name_of_methodNamed Bd.named Bd.method).1
  have X0 : Stand p l e (rK 2 0 0 27) s m #[(.int 0), (.ref r1)] below meth c s₁ [] 0 0 := Stand.of_body Bd
  have e0 : s₁.heap = h0 := by rw [← hh, Bd.state]; rfl
  have N0 := Fr.nil n0
  have pre0 : ∀ t, SF p e below s₁ m 0 #[vi 0, vr r1] [] t → Steps p.tables e below (s₁.setTop (entryFrame m #[(.int 0), (.ref r1)] 2)) t := fun t k => castTop (ef_23 m (0 : Int32) r1) k
  obtain ⟨_, _, ⟨T1, L1, k1, n1⟩, -, X1, ⟨Lc1, hQ1, l1, y1, z1⟩, st1⟩ := Jvm.LawKit.callS X0 hx (y := mN20) hown (mvT hZ (tw hw 99 rfl)) (mvT hZ (tw hw 100 rfl)) (mvT hZ (tw hw 34 rfl)) (mvT hZ (tw hw 101 rfl)) (by decide) (backOf (W := 1) (rmul_1 l Z a0 hw [] r1 k0 ch0 h0 n0 Z0 V0) hZ (tw hw 101 rfl) (tw hw 34 rfl) (by decide) (by decide)) (g := (mkF m 2 #[vi 0, vr r1] [(.ref r1), (.int 0)])) rfl (by rw [hml]; rfl) (argsL := [(.ref r1)]) (rest := [(.int 0)]) (lenOf pd_10 rfl) rfl (by show 2 * 0 + _ ≤ _; exact Nat.le_of_eq rfl) (hb hby d23_2) (fun _ _ => ⟨rfl, e0, (by decide : 0 + 0 ≤ _), (by decide : 0 + 0 ≤ _)⟩)
  dsimp only [Pt.U, Pt.locs, Pt.cells, Pt.slots] at X1 l1 y1 z1 st1 hQ1
  subst l1 y1 z1
  obtain ⟨rfl, Nq1, e1⟩ := hQ1
  have N1 := Fr.app N0 Nq1
  obtain ⟨_, _, ⟨T2, L2, k2, n2⟩, -, X2, ⟨Lc2, hQ2, l2, y2, z2⟩, st2⟩ := Jvm.LawKit.callS X1 hx (y := mN19) hown (mvT hZ (tw hw 102 rfl)) (mvT hZ (tw hw 61 rfl)) (mvT hZ (tw hw 3 rfl)) (mvT hZ (tw hw 62 rfl)) (by decide) (backOf (W := 0) (rmci l Z a0 hw [] (0 : Int32) (1 : Int32) G3 h0 n0 Z0 (by decide) (by decide) O4 rG3) hZ (tw hw 62 rfl) (tw hw 3 rfl) (by decide) (by decide)) (g := (mkF m 5 #[vi 0, vr r1] [(.int 1), (.int 0)])) rfl (by rw [hml]; rfl) (argsL := [(.int 0), (.int 1)]) (rest := []) (lenOf pd_11 rfl) rfl (by show 2 * 0 + _ ≤ _; exact Nat.le_of_eq rfl) (hb hby d23_5) (fun _ _ => ⟨rfl, e1, (by decide : 0 + 0 ≤ _), (by decide : 0 + 0 ≤ _)⟩)
  dsimp only [Pt.U, Pt.locs, Pt.cells, Pt.slots] at X2 l2 y2 z2 st2 hQ2
  subst l2 y2 z2
  obtain ⟨rfl, Nq2, e2⟩ := hQ2
  have N2 := Fr.app N1 Nq2
  obtain ⟨fs, hr, hrun, hended, hW, hsame⟩ := X2.leave (v := none) (fun _ => rfl)
  refine ⟨_, _, pre0 _ ?_, hrun, hended, _, _, rfl, ?_, ⟨_, rfl⟩, hW, hsame.mono (by decide) (by decide)⟩
  · skip
    show SF p e below s₁ m 0 #[vi 0, vr r1] [] _
    refine XS.iloadN X0.here hx rfl (hb hby d23_0) rfl ?_
    refine XS.aloadN X0.here hx rfl (hb hby d23_1) rfl rfl ?_
    refine st1 _ ?_
    refine st2 _ ?_
    show SF p e below T2 m 8 #[vi 0, vr r1] [] _
    exact X2.returnOut hx Bd.returns (hb hby d23_8) hr
  · show Qui_1_0 Z r1 k0 ch0 G1 G3 h0 n0 _ T2.heap _
    rw [e2]
    exact ⟨rfl, N2, rfl⟩
def Quc_1_0 (Z : State) (r0 : Addr) (k0 : ClassId) (ch0 : Int32) (G1 : Int32) (G3 : Value) (h0 : Heap) (n0 : Nat) (v : Option Value) (h : Heap) (L : List Loc) : Prop := v = some (.int ch0) ∧ Fr n0 L ∧ h = h0
set_option maxRecDepth 65536 in
set_option maxHeartbeats 40000000 in
theorem rmuc_1_0 (l : Launch) (Z : State) (a0 : Array Value) (hw : ∀ d ∈ tables_1, d.before a0 Z = true) (ws : List Jvm.Cond) (r0 : Addr) (k0 : ClassId) (ch0 : Int32) (G1 : Int32) (G3 : Value) (h0 : Heap) (n0 : Nat) (Z0 : n0 ≤ h0.size) (V0 : Arv Z h0 r0 k0 .byte (2 : Int32) [(.int (loB ch0)), (.int (hiB ch0))] (.int 0)) (hb_0 : 0 ≤ ch0.toInt ∧ ch0.toInt ≤ 65535) (O2 : sC Z h0 G1) (P5 : ¬ (G1 = (0 : Int32))) (O4 : sI Z h0 G3) (rG3 : G3.isRef = true) (OA : sA Z h0) (OH : sH Z h0) (OL : sL Z h0) :
    MF l Z mN22 jdk_52_method_83_code 2 (some .char) ws (rK 3 0 0 40) #[(.ref r0), (.int 0)] h0 (Quc_1_0 Z r0 k0 ch0 G1 G3 h0 n0) := by
  refine MetFree.of_bodySF (plainFor_of_name pn_java_lang_StringUTF16) hisR ?_
  intro p e s m args below meth c s₁ Bd hml0 hP hK
  obtain ⟨rfl, hZ, hh⟩ := hP
  have hx := Bd.exec
  have hby := Bd.bytes
  have hml : c.maxLocals = 2 := hml0
  have hown : s.vm.findClass "java/lang/StringUTF16" = some m.cls := findClass_of_methodNamed Bd.named
  have hnm := (name_of_methodNamed Bd.named Bd.method).1
  have X0 : Stand p l e (rK 3 0 0 40) s m #[(.ref r0), (.int 0)] below meth c s₁ [] 0 0 := Stand.of_body Bd
  have e0 : s₁.heap = h0 := by rw [← hh, Bd.state]; rfl
  have N0 := Fr.nil n0
  have pre0 : ∀ t, SF p e below s₁ m 0 #[vr r0, vi 0] [] t → Steps p.tables e below (s₁.setTop (entryFrame m #[(.ref r0), (.int 0)] 2)) t := fun t k => castTop (ef_22 m r0 (0 : Int32)) k
  obtain ⟨_, _, ⟨T1, L1, k1, n1⟩, -, X1, ⟨Lc1, hQ1, l1, y1, z1⟩, st1⟩ := Jvm.LawKit.callS X0 hx (y := mN21) hown (mvT hZ (tw hw 96 rfl)) (mvT hZ (tw hw 97 rfl)) (mvT hZ (tw hw 34 rfl)) (mvT hZ (tw hw 98 rfl)) (by decide) (backOf (W := 0) (rmui_1_0 l Z a0 hw [] r0 k0 ch0 G1 G3 h0 n0 Z0 V0 O2 P5 O4 rG3) hZ (tw hw 98 rfl) (tw hw 34 rfl) (by decide) (by decide)) (g := (mkF m 2 #[vr r0, vi 0] [(.ref r0), (.int 0)])) rfl (by rw [hml]; rfl) (argsL := [(.int 0), (.ref r0)]) (rest := []) (lenOf pd_12 rfl) rfl (by show 2 * 0 + _ ≤ _; exact Nat.le_of_eq rfl) (hb hby d22_2) (fun _ _ => ⟨rfl, e0, (by decide : 0 + 0 ≤ _), (by decide : 0 + 0 ≤ _)⟩)
  dsimp only [Pt.U, Pt.locs, Pt.cells, Pt.slots] at X1 l1 y1 z1 st1 hQ1
  subst l1 y1 z1
  obtain ⟨rfl, Nq1, e1⟩ := hQ1
  have N1 := Fr.app N0 Nq1
  obtain ⟨_, _, ⟨T2, L2, k2, n2⟩, -, X2, ⟨Lc2, hQ2, l2, y2, z2⟩, st2⟩ := Jvm.LawKit.callS X1 hx (y := mN12) hown (mvT hZ (tw hw 90 rfl)) (mvT hZ (tw hw 91 rfl)) (mvT hZ (tw hw 34 rfl)) (mvT hZ (tw hw 92 rfl)) (by decide) (backOf (W := 0) (rmgc_1_0 l Z a0 hw [] r0 k0 ch0 h0 n0 Z0 V0 hb_0 OA OH OL) hZ (tw hw 92 rfl) (tw hw 34 rfl) (by decide) (by decide)) (g := (mkF m 7 #[vr r0, vi 0] [(.int 0), (.ref r0)])) rfl (by rw [hml]; rfl) (argsL := [(.ref r0), (.int 0)]) (rest := []) (lenOf pd_7 rfl) rfl (by show 2 * 0 + _ ≤ _; exact Nat.le_of_eq rfl) (hb hby d22_7) (fun _ _ => ⟨rfl, e1, (by decide : 0 + 0 ≤ _), (by decide : 0 + 0 ≤ _)⟩)
  dsimp only [Pt.U, Pt.locs, Pt.cells, Pt.slots] at X2 l2 y2 z2 st2 hQ2
  subst l2 y2 z2
  obtain ⟨rfl, Nq2, e2⟩ := hQ2
  have N2 := Fr.app N1 Nq2
  obtain ⟨fs, hr, hrun, hended, hW, hsame⟩ := X2.leave (v := some (.int (nar .char ch0))) (fun h => by rw [Bd.returns] at h; cases h)
  refine ⟨_, _, pre0 _ ?_, hrun, hended, _, _, rfl, ?_, ⟨_, rfl⟩, hW, hsame.mono (by decide) (by decide)⟩
  · skip
    show SF p e below s₁ m 0 #[vr r0, vi 0] [] _
    refine XS.iloadN X0.here hx rfl (hb hby d22_0) rfl ?_
    refine XS.aloadN X0.here hx rfl (hb hby d22_1) rfl rfl ?_
    refine st1 _ ?_
    refine XS.aloadN X1.here hx rfl (hb hby d22_5) rfl rfl ?_
    refine XS.iloadN X1.here hx rfl (hb hby d22_6) rfl ?_
    show SF p e below T1 m 7 #[vr r0, vi 0] [(.int 0), (.ref r0)] _
    refine st2 _ ?_
    show SF p e below T2 m 10 #[vr r0, vi 0] [(.int ch0)] _
    exact retN X2 hx (t := .char) Bd.returns (by simp) (hb hby d22_10) hr
  · show Quc_1_0 Z r0 k0 ch0 G1 G3 h0 n0 _ T2.heap _
    rw [e2]
    exact ⟨congrArg (fun z => some (Value.int z)) (own_narcW hb_0), N2, rfl⟩
def Qca_1_0 (Z : State) (r0 : Addr) (ch0 : Int32) (G1 : Int32) (G3 : Value) (h0 : Heap) (n0 : Nat) (v : Option Value) (h : Heap) (L : List Loc) : Prop := v = some (.int ch0) ∧ Fr n0 L ∧ h = h0
set_option maxRecDepth 65536 in
set_option maxHeartbeats 40000000 in
theorem rmca_1_0 (l : Launch) (Z : State) (a0 : Array Value) (hw : ∀ d ∈ tables_1, d.before a0 Z = true) (ws : List Jvm.Cond) (r0 : Addr) (ch0 : Int32) (G1 : Int32) (G3 : Value) (h0 : Heap) (n0 : Nat) (Z0 : n0 ≤ h0.size) (S0 : OW Z h0 r0 (2 : Int32) [(.int (loB ch0)), (.int (hiB ch0))]) (hb_0 : 0 ≤ ch0.toInt ∧ ch0.toInt ≤ 65535) (O2 : sC Z h0 G1) (P5 : ¬ (G1 = (0 : Int32))) (O4 : sI Z h0 G3) (rG3 : G3.isRef = true) (OA : sA Z h0) (OH : sH Z h0) (OL : sL Z h0) :
    MF l Z mN23 jdk_42_method_56_code 2 (some .char) ws (rK 4 0 0 53) #[(.ref r0), (.int 0)] h0 (Qca_1_0 Z r0 ch0 G1 G3 h0 n0) := by
  refine MetFree.of_bodySF (plainFor_of_name pn_java_lang_String) hisR ?_
  intro p e s m args below meth c s₁ Bd hml0 hP hK
  obtain ⟨rfl, hZ, hh⟩ := hP
  have hx := Bd.exec
  have hby := Bd.bytes
  have hml : c.maxLocals = 2 := hml0
  have hown : s.vm.findClass "java/lang/String" = some m.cls := findClass_of_methodNamed Bd.named
  have hnm := (name_of_methodNamed Bd.named Bd.method).1
  have X0 : Stand p l e (rK 4 0 0 53) s m #[(.ref r0), (.int 0)] below meth c s₁ [] 0 0 := Stand.of_body Bd
  have e0 : s₁.heap = h0 := by rw [← hh, Bd.state]; rfl
  have N0 := Fr.nil n0
  have pre0 : ∀ t, SF p e below s₁ m 0 #[vr r0, vi 0] [] t → Steps p.tables e below (s₁.setTop (entryFrame m #[(.ref r0), (.int 0)] 2)) t := fun t k => castTop (ef_10 m r0 (0 : Int32)) k
  obtain ⟨t1, k1, E1, V1, C1, A1⟩ := id S0
  obtain ⟨cq2, kq2, q2a, q2b, q2c⟩ := isOf hZ e0 E1
  obtain ⟨_, _, ⟨T2, L2, k2, n2⟩, -, X2, ⟨Lc2, hQ2, l2, y2, z2⟩, st2⟩ := X0.virtualBack hx (y := mN17) (z := mN17) hown (mvT hZ (tw hw 51 rfl)) (mvT hZ (tw hw 52 rfl)) (notFace_of_selects (args := #[]) (mvT hZ (tw hw 54 rfl))) (mvT hZ (tw hw 54 rfl)) (mvT hZ (tw hw 53 rfl)) (by decide) (backOf (W := 0) (rmlat l Z a0 hw [] r0 G1 G3 h0 n0 Z0 O2 P5 O4 rG3 C1) hZ (tw hw 55 rfl) (tw hw 3 rfl) (by decide) (by decide)) q2a q2c (g := (mkF m 1 #[vr r0, vi 0] [(.ref r0)])) rfl (by rw [hml]; rfl) (Steps.refl _) (argsL := []) (rest := []) (lenOf pd_13 rfl) rfl (by show 2 * 0 + _ ≤ _; exact Nat.le_of_eq rfl) (hb hby d10_1) (fun _ _ => ⟨rfl, e0, (by decide : 0 + 0 ≤ _), (by decide : 0 + 0 ≤ _)⟩)
  dsimp only [Pt.U, Pt.locs, Pt.cells, Pt.slots] at X2 l2 y2 z2 st2 hQ2
  subst l2 y2 z2
  obtain ⟨rfl, Nq2, e2⟩ := hQ2
  have N2 := Fr.app N0 Nq2
  have hc3 : (0 : Int32) = (0 : Int32) := by decide
  obtain ⟨T4, X4, e4, st4⟩ := getF X2 hx hZ hown (host := "") (Or.inl (tw hw 20 rfl)) Via.refl e2 V1 (g := (mkF m 17 #[vr r0, vi 0] [(.ref r0)])) rfl rfl (hb hby d10_17)
  obtain ⟨_, _, ⟨T5, L5, k5, n5⟩, -, X5, ⟨Lc5, hQ5, l5, y5, z5⟩, st5⟩ := Jvm.LawKit.callS X4 hx (y := mN22) hown (mvT hZ (tw hw 93 rfl)) (mvT hZ (tw hw 94 rfl)) (mvT hZ (tw hw 34 rfl)) (mvT hZ (tw hw 95 rfl)) (by decide) (backOf (W := 0) (rmuc_1_0 l Z a0 hw [] t1 k1 ch0 G1 G3 h0 n0 Z0 A1 hb_0 O2 P5 O4 rG3 OA OH OL) hZ (tw hw 95 rfl) (tw hw 34 rfl) (by decide) (by decide)) (g := (mkF m 21 #[vr r0, vi 0] [(.int 0), (.ref t1)])) rfl (by rw [hml]; rfl) (argsL := [(.ref t1), (.int 0)]) (rest := []) (lenOf pd_7 rfl) rfl (by show 2 * 0 + _ ≤ _; exact Nat.le_of_eq rfl) (hb hby d10_21) (fun _ _ => ⟨rfl, e4, (by decide : 0 + 0 ≤ _), (by decide : 0 + 0 ≤ _)⟩)
  dsimp only [Pt.U, Pt.locs, Pt.cells, Pt.slots] at X5 l5 y5 z5 st5 hQ5
  subst l5 y5 z5
  obtain ⟨rfl, Nq5, e5⟩ := hQ5
  have N5 := Fr.app N2 Nq5
  obtain ⟨fs, hr, hrun, hended, hW, hsame⟩ := X5.leave (v := some (.int (nar .char ch0))) (fun h => by rw [Bd.returns] at h; cases h)
  refine ⟨_, _, pre0 _ ?_, hrun, hended, _, _, rfl, ?_, ⟨_, rfl⟩, hW, hsame.mono (by decide) (by decide)⟩
  · skip
    show SF p e below s₁ m 0 #[vr r0, vi 0] [] _
    refine XS.aloadN X0.here hx rfl (hb hby d10_0) rfl rfl ?_
    refine st2.trans ?_
    refine XS.ifYes X2.here hx rfl (pc0 := 4) (pc' := 16) rfl (hb hby d10_4) rfl ((if0 _ _).trans (teq hc3).1) (by decide) (by decide) ?_
    refine XS.aloadN X2.here hx rfl (hb hby d10_16) rfl rfl ?_
    refine st4 _ ?_
    show SF p e below T4 m 20 #[vr r0, vi 0] [(.ref t1)] _
    refine XS.iloadN X4.here hx rfl (hb hby d10_20) rfl ?_
    refine st5 _ ?_
    show SF p e below T5 m 24 #[vr r0, vi 0] [(.int ch0)] _
    exact retN X5 hx (t := .char) Bd.returns (by simp) (hb hby d10_24) hr
  · show Qca_1_0 Z r0 ch0 G1 G3 h0 n0 _ T5.heap _
    rw [e5]
    exact ⟨congrArg (fun z => some (Value.int z)) (own_narcW hb_0), N5, rfl⟩
def Qln_1 (Z : State) (r0 : Addr) (ch0 : Int32) (G1 : Int32) (G3 : Value) (h0 : Heap) (n0 : Nat) (v : Option Value) (h : Heap) (L : List Loc) : Prop := v = some (.int 1) ∧ Fr n0 L ∧ h = h0
set_option maxRecDepth 65536 in
set_option maxHeartbeats 40000000 in
theorem rmln_1 (l : Launch) (Z : State) (a0 : Array Value) (hw : ∀ d ∈ tables_1, d.before a0 Z = true) (ws : List Jvm.Cond) (r0 : Addr) (ch0 : Int32) (G1 : Int32) (G3 : Value) (h0 : Heap) (n0 : Nat) (Z0 : n0 ≤ h0.size) (S0 : OW Z h0 r0 (2 : Int32) [(.int (loB ch0)), (.int (hiB ch0))]) (O2 : sC Z h0 G1) (P5 : ¬ (G1 = (0 : Int32))) (O4 : sI Z h0 G3) (rG3 : G3.isRef = true) (OA : sA Z h0) (OH : sH Z h0) (OL : sL Z h0) :
    MF l Z mN24 jdk_42_method_54_code 1 (some .int) ws (rK 1 0 0 13) #[(.ref r0)] h0 (Qln_1 Z r0 ch0 G1 G3 h0 n0) := by
  refine MetFree.of_bodySF (plainFor_of_name pn_java_lang_String) hisR ?_
  intro p e s m args below meth c s₁ Bd hml0 hP hK
  obtain ⟨rfl, hZ, hh⟩ := hP
  have hx := Bd.exec
  have hby := Bd.bytes
  have hml : c.maxLocals = 1 := hml0
  have hown : s.vm.findClass "java/lang/String" = some m.cls := findClass_of_methodNamed Bd.named
  have hnm := (name_of_methodNamed Bd.named Bd.method).1
  have X0 : Stand p l e (rK 1 0 0 13) s m #[(.ref r0)] below meth c s₁ [] 0 0 := Stand.of_body Bd
  have e0 : s₁.heap = h0 := by rw [← hh, Bd.state]; rfl
  have N0 := Fr.nil n0
  have pre0 : ∀ t, SF p e below s₁ m 0 #[vr r0] [] t → Steps p.tables e below (s₁.setTop (entryFrame m #[(.ref r0)] 1)) t := fun t k => castTop (ef_26 m r0) k
  obtain ⟨t1, k1, E1, V1, C1, A1⟩ := id S0
  obtain ⟨T2, X2, e2, st2⟩ := getF X0 hx hZ hown (host := "") (Or.inl (tw hw 20 rfl)) Via.refl e0 V1 (g := (mkF m 1 #[vr r0] [(.ref r0)])) rfl rfl (hb hby d26_1)
  obtain ⟨cl3, Ar3, -, Sz3, Nn3, -, -⟩ := id A1
  obtain ⟨cq4, kq4, q4a, q4b, q4c⟩ := isOf hZ e2 E1
  obtain ⟨_, _, ⟨T4, L4, k4, n4⟩, -, X4, ⟨Lc4, hQ4, l4, y4, z4⟩, st4⟩ := X2.virtualBack hx (y := mN16) (z := mN16) hown (mvT hZ (tw hw 111 rfl)) (mvT hZ (tw hw 112 rfl)) (notFace_of_selects (args := #[]) (mvT hZ (tw hw 114 rfl))) (mvT hZ (tw hw 114 rfl)) (mvT hZ (tw hw 113 rfl)) (by decide) (backOf (W := 1) (rmcod l Z a0 hw [] r0 G1 G3 h0 n0 Z0 O2 P5 O4 rG3 C1) hZ (tw hw 115 rfl) (tw hw 3 rfl) (by decide) (by decide)) q4a q4c (g := (mkF m 6 #[vr r0] [(.ref r0), (.int 2)])) rfl (by rw [hml]; rfl) (Steps.refl _) (argsL := []) (rest := [(.int 2)]) (lenOf pd_14 rfl) rfl (by show 2 * 0 + _ ≤ _; exact Nat.le_of_eq rfl) (hb hby d26_6) (fun _ _ => ⟨rfl, e2, (by decide : 0 + 0 ≤ _), (by decide : 0 + 0 ≤ _)⟩)
  dsimp only [Pt.U, Pt.locs, Pt.cells, Pt.slots] at X4 l4 y4 z4 st4 hQ4
  subst l4 y4 z4
  obtain ⟨rfl, Nq4, e4⟩ := hQ4
  have N4 := Fr.app N0 Nq4
  obtain ⟨fs, hr, hrun, hended, hW, hsame⟩ := X4.leave (v := some (.int 1)) (fun h => by rw [Bd.returns] at h; cases h)
  refine ⟨_, _, pre0 _ ?_, hrun, hended, _, _, rfl, ?_, ⟨_, rfl⟩, hW, hsame.mono (by decide) (by decide)⟩
  · skip
    show SF p e below s₁ m 0 #[vr r0] [] _
    refine XS.aloadN X0.here hx rfl (hb hby d26_0) rfl rfl ?_
    refine st2 _ ?_
    refine X2.arraylength hx (by rw [e2]; exact Ar3.1) (State.isArrayOf_alike hZ.alike Ar3.2.1) (g := (mkF m 4 #[vr r0] [(.ref t1)])) rfl rfl (hb hby d26_4) _ ?_
    rw [len_of Sz3 Nn3]
    refine XS.aloadN X2.here hx rfl (hb hby d26_5) rfl rfl ?_
    refine st4.trans ?_
    show SF p e below T4 m 9 #[vr r0] [(.int 1), (.int 2)] _
    refine XS.ishr X4.here hx rfl (hb hby d26_9) rfl ?_
    show SF p e below T4 m 10 #[vr r0] [(.int 1)] _
    exact retI X4 hx Bd.returns (hb hby d26_10) hr
  · show Qln_1 Z r0 ch0 G1 G3 h0 n0 _ T4.heap _
    rw [e4]
    exact ⟨rfl, N4, rfl⟩
def Qem_1 (Z : State) (r0 : Addr) (ch0 : Int32) (G1 : Int32) (G3 : Value) (h0 : Heap) (n0 : Nat) (v : Option Value) (h : Heap) (L : List Loc) : Prop := v = some (.int 0) ∧ Fr n0 L ∧ h = h0
set_option maxRecDepth 65536 in
set_option maxHeartbeats 40000000 in
theorem rmem_1 (l : Launch) (Z : State) (a0 : Array Value) (hw : ∀ d ∈ tables_1, d.before a0 Z = true) (ws : List Jvm.Cond) (r0 : Addr) (ch0 : Int32) (G1 : Int32) (G3 : Value) (h0 : Heap) (n0 : Nat) (Z0 : n0 ≤ h0.size) (S0 : OW Z h0 r0 (2 : Int32) [(.int (loB ch0)), (.int (hiB ch0))]) (O2 : sC Z h0 G1) (P5 : ¬ (G1 = (0 : Int32))) (O4 : sI Z h0 G3) (rG3 : G3.isRef = true) (OA : sA Z h0) (OH : sH Z h0) (OL : sL Z h0) :
    MF l Z mN25 jdk_42_method_55_code 1 (some .boolean) ws (rK 0 0 0 0) #[(.ref r0)] h0 (Qem_1 Z r0 ch0 G1 G3 h0 n0) := by
  refine MetFree.of_bodySF (plainFor_of_name pn_java_lang_String) hisR ?_
  intro p e s m args below meth c s₁ Bd hml0 hP hK
  obtain ⟨rfl, hZ, hh⟩ := hP
  have hx := Bd.exec
  have hby := Bd.bytes
  have hml : c.maxLocals = 1 := hml0
  have hown : s.vm.findClass "java/lang/String" = some m.cls := findClass_of_methodNamed Bd.named
  have hnm := (name_of_methodNamed Bd.named Bd.method).1
  have X0 : Stand p l e (rK 0 0 0 0) s m #[(.ref r0)] below meth c s₁ [] 0 0 := Stand.of_body Bd
  have e0 : s₁.heap = h0 := by rw [← hh, Bd.state]; rfl
  have N0 := Fr.nil n0
  have pre0 : ∀ t, SF p e below s₁ m 0 #[vr r0] [] t → Steps p.tables e below (s₁.setTop (entryFrame m #[(.ref r0)] 1)) t := fun t k => castTop (ef_5 m r0) k
  obtain ⟨t1, k1, E1, V1, C1, A1⟩ := id S0
  obtain ⟨T2, X2, e2, st2⟩ := getF X0 hx hZ hown (host := "") (Or.inl (tw hw 20 rfl)) Via.refl e0 V1 (g := (mkF m 1 #[vr r0] [(.ref r0)])) rfl rfl (hb hby d5_1)
  obtain ⟨cl3, Ar3, -, Sz3, Nn3, -, -⟩ := id A1
  have hc4 : ¬ ((2 : Int32) = (0 : Int32)) := by decide
  obtain ⟨fs, hr, hrun, hended, hW, hsame⟩ := X2.leave (v := some (.int 0)) (fun h => by rw [Bd.returns] at h; cases h)
  refine ⟨_, _, pre0 _ ?_, hrun, hended, _, _, rfl, ?_, ⟨_, rfl⟩, hW, hsame.mono (by decide) (by decide)⟩
  · skip
    show SF p e below s₁ m 0 #[vr r0] [] _
    refine XS.aloadN X0.here hx rfl (hb hby d5_0) rfl rfl ?_
    refine st2 _ ?_
    refine X2.arraylength hx (by rw [e2]; exact Ar3.1) (State.isArrayOf_alike hZ.alike Ar3.2.1) (g := (mkF m 4 #[vr r0] [(.ref t1)])) rfl rfl (hb hby d5_4) _ ?_
    rw [len_of Sz3 Nn3]
    refine XS.ifYes X2.here hx rfl (pc0 := 5) (pc' := 12) rfl (hb hby d5_5) rfl ((if0 _ _).trans (feq hc4).2) (by decide) (by decide) ?_
    refine XS.iconst X2.here hx rfl (hb hby d5_12) ?_
    show SF p e below T2 m 13 #[vr r0] [(.int 0)] _
    exact retN X2 hx (t := .boolean) Bd.returns (by simp) (hb hby d5_13) hr
  · show Qem_1 Z r0 ch0 G1 G3 h0 n0 _ T2.heap _
    rw [e2]
    exact ⟨rfl, N0, rfl⟩
def Qul_2 (Z : State) (r0 : Addr) (k0 : ClassId) (ch0 : Int32) (ch1 : Int32) (h0 : Heap) (n0 : Nat) (v : Option Value) (h : Heap) (L : List Loc) : Prop := v = some (.int 2) ∧ Fr n0 L ∧ h = h0
set_option maxRecDepth 65536 in
set_option maxHeartbeats 40000000 in
theorem rmul_2 (l : Launch) (Z : State) (a0 : Array Value) (hw : ∀ d ∈ tables_1, d.before a0 Z = true) (ws : List Jvm.Cond) (r0 : Addr) (k0 : ClassId) (ch0 : Int32) (ch1 : Int32) (h0 : Heap) (n0 : Nat) (Z0 : n0 ≤ h0.size) (V0 : Arv Z h0 r0 k0 .byte (4 : Int32) [(.int (loB ch0)), (.int (hiB ch0)), (.int (loB ch1)), (.int (hiB ch1))] (.int 0)) :
    MF l Z mN20 jdk_52_method_6_code 1 (some .int) ws (rK 0 0 0 0) #[(.ref r0)] h0 (Qul_2 Z r0 k0 ch0 ch1 h0 n0) := by
  refine MetFree.of_bodySF (plainFor_of_name pn_java_lang_StringUTF16) hisR ?_
  intro p e s m args below meth c s₁ Bd hml0 hP hK
  obtain ⟨rfl, hZ, hh⟩ := hP
  have hx := Bd.exec
  have hby := Bd.bytes
  have hml : c.maxLocals = 1 := hml0
  have hown : s.vm.findClass "java/lang/StringUTF16" = some m.cls := findClass_of_methodNamed Bd.named
  have hnm := (name_of_methodNamed Bd.named Bd.method).1
  have X0 : Stand p l e (rK 0 0 0 0) s m #[(.ref r0)] below meth c s₁ [] 0 0 := Stand.of_body Bd
  have e0 : s₁.heap = h0 := by rw [← hh, Bd.state]; rfl
  have N0 := Fr.nil n0
  have pre0 : ∀ t, SF p e below s₁ m 0 #[vr r0] [] t → Steps p.tables e below (s₁.setTop (entryFrame m #[(.ref r0)] 1)) t := fun t k => castTop (ef_24 m r0) k
  obtain ⟨cl1, Ar1, -, Sz1, Nn1, -, -⟩ := id V0
  obtain ⟨fs, hr, hrun, hended, hW, hsame⟩ := X0.leave (v := some (.int 2)) (fun h => by rw [Bd.returns] at h; cases h)
  refine ⟨_, _, pre0 _ ?_, hrun, hended, _, _, rfl, ?_, ⟨_, rfl⟩, hW, hsame.mono (by decide) (by decide)⟩
  · skip
    show SF p e below s₁ m 0 #[vr r0] [] _
    refine XS.aloadN X0.here hx rfl (hb hby d24_0) rfl rfl ?_
    refine X0.arraylength hx (by rw [e0]; exact Ar1.1) (State.isArrayOf_alike hZ.alike Ar1.2.1) (g := (mkF m 1 #[vr r0] [(.ref r0)])) rfl rfl (hb hby d24_1) _ ?_
    rw [len_of Sz1 Nn1]
    refine XS.iconst X0.here hx rfl (hb hby d24_2) ?_
    refine XS.ishr X0.here hx rfl (hb hby d24_3) rfl ?_
    show SF p e below s₁ m 4 #[vr r0] [(.int 2)] _
    exact retI X0 hx Bd.returns (hb hby d24_4) hr
  · show Qul_2 Z r0 k0 ch0 ch1 h0 n0 _ s₁.heap _
    rw [e0]
    exact ⟨rfl, N0, rfl⟩
def Qui_2_0 (Z : State) (r1 : Addr) (k0 : ClassId) (ch0 : Int32) (ch1 : Int32) (G1 : Int32) (G3 : Value) (h0 : Heap) (n0 : Nat) (v : Option Value) (h : Heap) (L : List Loc) : Prop := v = none ∧ Fr n0 L ∧ h = h0
set_option maxRecDepth 65536 in
set_option maxHeartbeats 40000000 in
theorem rmui_2_0 (l : Launch) (Z : State) (a0 : Array Value) (hw : ∀ d ∈ tables_1, d.before a0 Z = true) (ws : List Jvm.Cond) (r1 : Addr) (k0 : ClassId) (ch0 : Int32) (ch1 : Int32) (G1 : Int32) (G3 : Value) (h0 : Heap) (n0 : Nat) (Z0 : n0 ≤ h0.size) (V0 : Arv Z h0 r1 k0 .byte (4 : Int32) [(.int (loB ch0)), (.int (hiB ch0)), (.int (loB ch1)), (.int (hiB ch1))] (.int 0)) (O2 : sC Z h0 G1) (P5 : ¬ (G1 = (0 : Int32))) (O4 : sI Z h0 G3) (rG3 : G3.isRef = true) :
    MF l Z mN21 jdk_52_method_91_code 2 none ws (rK 2 0 0 27) #[(.int 0), (.ref r1)] h0 (Qui_2_0 Z r1 k0 ch0 ch1 G1 G3 h0 n0) := by
  refine MetFree.of_bodySF (plainFor_of_name pn_java_lang_StringUTF16) hisR ?_
  intro p e s m args below meth c s₁ Bd hml0 hP hK
  obtain ⟨rfl, hZ, hh⟩ := hP
  have hx := Bd.exec
  have hby := Bd.bytes
  have hml : c.maxLocals = 2 := hml0
  have hown : s.vm.findClass "java/lang/StringUTF16" = some m.cls := findClass_of_methodNamed Bd.named
  have hnm := (name_of_methodNamed Bd.named Bd.method).1
  have X0 : Stand p l e (rK 2 0 0 27) s m #[(.int 0), (.ref r1)] below meth c s₁ [] 0 0 := Stand.of_body Bd
  have e0 : s₁.heap = h0 := by rw [← hh, Bd.state]; rfl
  have N0 := Fr.nil n0
  have pre0 : ∀ t, SF p e below s₁ m 0 #[vi 0, vr r1] [] t → Steps p.tables e below (s₁.setTop (entryFrame m #[(.int 0), (.ref r1)] 2)) t := fun t k => castTop (ef_23 m (0 : Int32) r1) k
  obtain ⟨_, _, ⟨T1, L1, k1, n1⟩, -, X1, ⟨Lc1, hQ1, l1, y1, z1⟩, st1⟩ := Jvm.LawKit.callS X0 hx (y := mN20) hown (mvT hZ (tw hw 99 rfl)) (mvT hZ (tw hw 100 rfl)) (mvT hZ (tw hw 34 rfl)) (mvT hZ (tw hw 101 rfl)) (by decide) (backOf (W := 1) (rmul_2 l Z a0 hw [] r1 k0 ch0 ch1 h0 n0 Z0 V0) hZ (tw hw 101 rfl) (tw hw 34 rfl) (by decide) (by decide)) (g := (mkF m 2 #[vi 0, vr r1] [(.ref r1), (.int 0)])) rfl (by rw [hml]; rfl) (argsL := [(.ref r1)]) (rest := [(.int 0)]) (lenOf pd_10 rfl) rfl (by show 2 * 0 + _ ≤ _; exact Nat.le_of_eq rfl) (hb hby d23_2) (fun _ _ => ⟨rfl, e0, (by decide : 0 + 0 ≤ _), (by decide : 0 + 0 ≤ _)⟩)
  dsimp only [Pt.U, Pt.locs, Pt.cells, Pt.slots] at X1 l1 y1 z1 st1 hQ1
  subst l1 y1 z1
  obtain ⟨rfl, Nq1, e1⟩ := hQ1
  have N1 := Fr.app N0 Nq1
  obtain ⟨_, _, ⟨T2, L2, k2, n2⟩, -, X2, ⟨Lc2, hQ2, l2, y2, z2⟩, st2⟩ := Jvm.LawKit.callS X1 hx (y := mN19) hown (mvT hZ (tw hw 102 rfl)) (mvT hZ (tw hw 61 rfl)) (mvT hZ (tw hw 3 rfl)) (mvT hZ (tw hw 62 rfl)) (by decide) (backOf (W := 0) (rmci l Z a0 hw [] (0 : Int32) (2 : Int32) G3 h0 n0 Z0 (by decide) (by decide) O4 rG3) hZ (tw hw 62 rfl) (tw hw 3 rfl) (by decide) (by decide)) (g := (mkF m 5 #[vi 0, vr r1] [(.int 2), (.int 0)])) rfl (by rw [hml]; rfl) (argsL := [(.int 0), (.int 2)]) (rest := []) (lenOf pd_11 rfl) rfl (by show 2 * 0 + _ ≤ _; exact Nat.le_of_eq rfl) (hb hby d23_5) (fun _ _ => ⟨rfl, e1, (by decide : 0 + 0 ≤ _), (by decide : 0 + 0 ≤ _)⟩)
  dsimp only [Pt.U, Pt.locs, Pt.cells, Pt.slots] at X2 l2 y2 z2 st2 hQ2
  subst l2 y2 z2
  obtain ⟨rfl, Nq2, e2⟩ := hQ2
  have N2 := Fr.app N1 Nq2
  obtain ⟨fs, hr, hrun, hended, hW, hsame⟩ := X2.leave (v := none) (fun _ => rfl)
  refine ⟨_, _, pre0 _ ?_, hrun, hended, _, _, rfl, ?_, ⟨_, rfl⟩, hW, hsame.mono (by decide) (by decide)⟩
  · skip
    show SF p e below s₁ m 0 #[vi 0, vr r1] [] _
    refine XS.iloadN X0.here hx rfl (hb hby d23_0) rfl ?_
    refine XS.aloadN X0.here hx rfl (hb hby d23_1) rfl rfl ?_
    refine st1 _ ?_
    refine st2 _ ?_
    show SF p e below T2 m 8 #[vi 0, vr r1] [] _
    exact X2.returnOut hx Bd.returns (hb hby d23_8) hr
  · show Qui_2_0 Z r1 k0 ch0 ch1 G1 G3 h0 n0 _ T2.heap _
    rw [e2]
    exact ⟨rfl, N2, rfl⟩
def Quc_2_0 (Z : State) (r0 : Addr) (k0 : ClassId) (ch0 : Int32) (ch1 : Int32) (G1 : Int32) (G3 : Value) (h0 : Heap) (n0 : Nat) (v : Option Value) (h : Heap) (L : List Loc) : Prop := v = some (.int ch0) ∧ Fr n0 L ∧ h = h0
set_option maxRecDepth 65536 in
set_option maxHeartbeats 40000000 in
theorem rmuc_2_0 (l : Launch) (Z : State) (a0 : Array Value) (hw : ∀ d ∈ tables_1, d.before a0 Z = true) (ws : List Jvm.Cond) (r0 : Addr) (k0 : ClassId) (ch0 : Int32) (ch1 : Int32) (G1 : Int32) (G3 : Value) (h0 : Heap) (n0 : Nat) (Z0 : n0 ≤ h0.size) (V0 : Arv Z h0 r0 k0 .byte (4 : Int32) [(.int (loB ch0)), (.int (hiB ch0)), (.int (loB ch1)), (.int (hiB ch1))] (.int 0)) (hb_0 : 0 ≤ ch0.toInt ∧ ch0.toInt ≤ 65535) (O2 : sC Z h0 G1) (P5 : ¬ (G1 = (0 : Int32))) (O4 : sI Z h0 G3) (rG3 : G3.isRef = true) (OA : sA Z h0) (OH : sH Z h0) (OL : sL Z h0) :
    MF l Z mN22 jdk_52_method_83_code 2 (some .char) ws (rK 3 0 0 40) #[(.ref r0), (.int 0)] h0 (Quc_2_0 Z r0 k0 ch0 ch1 G1 G3 h0 n0) := by
  refine MetFree.of_bodySF (plainFor_of_name pn_java_lang_StringUTF16) hisR ?_
  intro p e s m args below meth c s₁ Bd hml0 hP hK
  obtain ⟨rfl, hZ, hh⟩ := hP
  have hx := Bd.exec
  have hby := Bd.bytes
  have hml : c.maxLocals = 2 := hml0
  have hown : s.vm.findClass "java/lang/StringUTF16" = some m.cls := findClass_of_methodNamed Bd.named
  have hnm := (name_of_methodNamed Bd.named Bd.method).1
  have X0 : Stand p l e (rK 3 0 0 40) s m #[(.ref r0), (.int 0)] below meth c s₁ [] 0 0 := Stand.of_body Bd
  have e0 : s₁.heap = h0 := by rw [← hh, Bd.state]; rfl
  have N0 := Fr.nil n0
  have pre0 : ∀ t, SF p e below s₁ m 0 #[vr r0, vi 0] [] t → Steps p.tables e below (s₁.setTop (entryFrame m #[(.ref r0), (.int 0)] 2)) t := fun t k => castTop (ef_22 m r0 (0 : Int32)) k
  obtain ⟨_, _, ⟨T1, L1, k1, n1⟩, -, X1, ⟨Lc1, hQ1, l1, y1, z1⟩, st1⟩ := Jvm.LawKit.callS X0 hx (y := mN21) hown (mvT hZ (tw hw 96 rfl)) (mvT hZ (tw hw 97 rfl)) (mvT hZ (tw hw 34 rfl)) (mvT hZ (tw hw 98 rfl)) (by decide) (backOf (W := 0) (rmui_2_0 l Z a0 hw [] r0 k0 ch0 ch1 G1 G3 h0 n0 Z0 V0 O2 P5 O4 rG3) hZ (tw hw 98 rfl) (tw hw 34 rfl) (by decide) (by decide)) (g := (mkF m 2 #[vr r0, vi 0] [(.ref r0), (.int 0)])) rfl (by rw [hml]; rfl) (argsL := [(.int 0), (.ref r0)]) (rest := []) (lenOf pd_12 rfl) rfl (by show 2 * 0 + _ ≤ _; exact Nat.le_of_eq rfl) (hb hby d22_2) (fun _ _ => ⟨rfl, e0, (by decide : 0 + 0 ≤ _), (by decide : 0 + 0 ≤ _)⟩)
  dsimp only [Pt.U, Pt.locs, Pt.cells, Pt.slots] at X1 l1 y1 z1 st1 hQ1
  subst l1 y1 z1
  obtain ⟨rfl, Nq1, e1⟩ := hQ1
  have N1 := Fr.app N0 Nq1
  obtain ⟨_, _, ⟨T2, L2, k2, n2⟩, -, X2, ⟨Lc2, hQ2, l2, y2, z2⟩, st2⟩ := Jvm.LawKit.callS X1 hx (y := mN12) hown (mvT hZ (tw hw 90 rfl)) (mvT hZ (tw hw 91 rfl)) (mvT hZ (tw hw 34 rfl)) (mvT hZ (tw hw 92 rfl)) (by decide) (backOf (W := 0) (rmgc_2_0 l Z a0 hw [] r0 k0 ch0 ch1 h0 n0 Z0 V0 hb_0 OA OH OL) hZ (tw hw 92 rfl) (tw hw 34 rfl) (by decide) (by decide)) (g := (mkF m 7 #[vr r0, vi 0] [(.int 0), (.ref r0)])) rfl (by rw [hml]; rfl) (argsL := [(.ref r0), (.int 0)]) (rest := []) (lenOf pd_7 rfl) rfl (by show 2 * 0 + _ ≤ _; exact Nat.le_of_eq rfl) (hb hby d22_7) (fun _ _ => ⟨rfl, e1, (by decide : 0 + 0 ≤ _), (by decide : 0 + 0 ≤ _)⟩)
  dsimp only [Pt.U, Pt.locs, Pt.cells, Pt.slots] at X2 l2 y2 z2 st2 hQ2
  subst l2 y2 z2
  obtain ⟨rfl, Nq2, e2⟩ := hQ2
  have N2 := Fr.app N1 Nq2
  obtain ⟨fs, hr, hrun, hended, hW, hsame⟩ := X2.leave (v := some (.int (nar .char ch0))) (fun h => by rw [Bd.returns] at h; cases h)
  refine ⟨_, _, pre0 _ ?_, hrun, hended, _, _, rfl, ?_, ⟨_, rfl⟩, hW, hsame.mono (by decide) (by decide)⟩
  · skip
    show SF p e below s₁ m 0 #[vr r0, vi 0] [] _
    refine XS.iloadN X0.here hx rfl (hb hby d22_0) rfl ?_
    refine XS.aloadN X0.here hx rfl (hb hby d22_1) rfl rfl ?_
    refine st1 _ ?_
    refine XS.aloadN X1.here hx rfl (hb hby d22_5) rfl rfl ?_
    refine XS.iloadN X1.here hx rfl (hb hby d22_6) rfl ?_
    show SF p e below T1 m 7 #[vr r0, vi 0] [(.int 0), (.ref r0)] _
    refine st2 _ ?_
    show SF p e below T2 m 10 #[vr r0, vi 0] [(.int ch0)] _
    exact retN X2 hx (t := .char) Bd.returns (by simp) (hb hby d22_10) hr
  · show Quc_2_0 Z r0 k0 ch0 ch1 G1 G3 h0 n0 _ T2.heap _
    rw [e2]
    exact ⟨congrArg (fun z => some (Value.int z)) (own_narcW hb_0), N2, rfl⟩
def Qca_2_0 (Z : State) (r0 : Addr) (ch0 : Int32) (ch1 : Int32) (G1 : Int32) (G3 : Value) (h0 : Heap) (n0 : Nat) (v : Option Value) (h : Heap) (L : List Loc) : Prop := v = some (.int ch0) ∧ Fr n0 L ∧ h = h0
set_option maxRecDepth 65536 in
set_option maxHeartbeats 40000000 in
theorem rmca_2_0 (l : Launch) (Z : State) (a0 : Array Value) (hw : ∀ d ∈ tables_1, d.before a0 Z = true) (ws : List Jvm.Cond) (r0 : Addr) (ch0 : Int32) (ch1 : Int32) (G1 : Int32) (G3 : Value) (h0 : Heap) (n0 : Nat) (Z0 : n0 ≤ h0.size) (S0 : OW Z h0 r0 (4 : Int32) [(.int (loB ch0)), (.int (hiB ch0)), (.int (loB ch1)), (.int (hiB ch1))]) (hb_0 : 0 ≤ ch0.toInt ∧ ch0.toInt ≤ 65535) (O2 : sC Z h0 G1) (P5 : ¬ (G1 = (0 : Int32))) (O4 : sI Z h0 G3) (rG3 : G3.isRef = true) (OA : sA Z h0) (OH : sH Z h0) (OL : sL Z h0) :
    MF l Z mN23 jdk_42_method_56_code 2 (some .char) ws (rK 4 0 0 53) #[(.ref r0), (.int 0)] h0 (Qca_2_0 Z r0 ch0 ch1 G1 G3 h0 n0) := by
  refine MetFree.of_bodySF (plainFor_of_name pn_java_lang_String) hisR ?_
  intro p e s m args below meth c s₁ Bd hml0 hP hK
  obtain ⟨rfl, hZ, hh⟩ := hP
  have hx := Bd.exec
  have hby := Bd.bytes
  have hml : c.maxLocals = 2 := hml0
  have hown : s.vm.findClass "java/lang/String" = some m.cls := findClass_of_methodNamed Bd.named
  have hnm := (name_of_methodNamed Bd.named Bd.method).1
  have X0 : Stand p l e (rK 4 0 0 53) s m #[(.ref r0), (.int 0)] below meth c s₁ [] 0 0 := Stand.of_body Bd
  have e0 : s₁.heap = h0 := by rw [← hh, Bd.state]; rfl
  have N0 := Fr.nil n0
  have pre0 : ∀ t, SF p e below s₁ m 0 #[vr r0, vi 0] [] t → Steps p.tables e below (s₁.setTop (entryFrame m #[(.ref r0), (.int 0)] 2)) t := fun t k => castTop (ef_10 m r0 (0 : Int32)) k
  obtain ⟨t1, k1, E1, V1, C1, A1⟩ := id S0
  obtain ⟨cq2, kq2, q2a, q2b, q2c⟩ := isOf hZ e0 E1
  obtain ⟨_, _, ⟨T2, L2, k2, n2⟩, -, X2, ⟨Lc2, hQ2, l2, y2, z2⟩, st2⟩ := X0.virtualBack hx (y := mN17) (z := mN17) hown (mvT hZ (tw hw 51 rfl)) (mvT hZ (tw hw 52 rfl)) (notFace_of_selects (args := #[]) (mvT hZ (tw hw 54 rfl))) (mvT hZ (tw hw 54 rfl)) (mvT hZ (tw hw 53 rfl)) (by decide) (backOf (W := 0) (rmlat l Z a0 hw [] r0 G1 G3 h0 n0 Z0 O2 P5 O4 rG3 C1) hZ (tw hw 55 rfl) (tw hw 3 rfl) (by decide) (by decide)) q2a q2c (g := (mkF m 1 #[vr r0, vi 0] [(.ref r0)])) rfl (by rw [hml]; rfl) (Steps.refl _) (argsL := []) (rest := []) (lenOf pd_13 rfl) rfl (by show 2 * 0 + _ ≤ _; exact Nat.le_of_eq rfl) (hb hby d10_1) (fun _ _ => ⟨rfl, e0, (by decide : 0 + 0 ≤ _), (by decide : 0 + 0 ≤ _)⟩)
  dsimp only [Pt.U, Pt.locs, Pt.cells, Pt.slots] at X2 l2 y2 z2 st2 hQ2
  subst l2 y2 z2
  obtain ⟨rfl, Nq2, e2⟩ := hQ2
  have N2 := Fr.app N0 Nq2
  have hc3 : (0 : Int32) = (0 : Int32) := by decide
  obtain ⟨T4, X4, e4, st4⟩ := getF X2 hx hZ hown (host := "") (Or.inl (tw hw 20 rfl)) Via.refl e2 V1 (g := (mkF m 17 #[vr r0, vi 0] [(.ref r0)])) rfl rfl (hb hby d10_17)
  obtain ⟨_, _, ⟨T5, L5, k5, n5⟩, -, X5, ⟨Lc5, hQ5, l5, y5, z5⟩, st5⟩ := Jvm.LawKit.callS X4 hx (y := mN22) hown (mvT hZ (tw hw 93 rfl)) (mvT hZ (tw hw 94 rfl)) (mvT hZ (tw hw 34 rfl)) (mvT hZ (tw hw 95 rfl)) (by decide) (backOf (W := 0) (rmuc_2_0 l Z a0 hw [] t1 k1 ch0 ch1 G1 G3 h0 n0 Z0 A1 hb_0 O2 P5 O4 rG3 OA OH OL) hZ (tw hw 95 rfl) (tw hw 34 rfl) (by decide) (by decide)) (g := (mkF m 21 #[vr r0, vi 0] [(.int 0), (.ref t1)])) rfl (by rw [hml]; rfl) (argsL := [(.ref t1), (.int 0)]) (rest := []) (lenOf pd_7 rfl) rfl (by show 2 * 0 + _ ≤ _; exact Nat.le_of_eq rfl) (hb hby d10_21) (fun _ _ => ⟨rfl, e4, (by decide : 0 + 0 ≤ _), (by decide : 0 + 0 ≤ _)⟩)
  dsimp only [Pt.U, Pt.locs, Pt.cells, Pt.slots] at X5 l5 y5 z5 st5 hQ5
  subst l5 y5 z5
  obtain ⟨rfl, Nq5, e5⟩ := hQ5
  have N5 := Fr.app N2 Nq5
  obtain ⟨fs, hr, hrun, hended, hW, hsame⟩ := X5.leave (v := some (.int (nar .char ch0))) (fun h => by rw [Bd.returns] at h; cases h)
  refine ⟨_, _, pre0 _ ?_, hrun, hended, _, _, rfl, ?_, ⟨_, rfl⟩, hW, hsame.mono (by decide) (by decide)⟩
  · skip
    show SF p e below s₁ m 0 #[vr r0, vi 0] [] _
    refine XS.aloadN X0.here hx rfl (hb hby d10_0) rfl rfl ?_
    refine st2.trans ?_
    refine XS.ifYes X2.here hx rfl (pc0 := 4) (pc' := 16) rfl (hb hby d10_4) rfl ((if0 _ _).trans (teq hc3).1) (by decide) (by decide) ?_
    refine XS.aloadN X2.here hx rfl (hb hby d10_16) rfl rfl ?_
    refine st4 _ ?_
    show SF p e below T4 m 20 #[vr r0, vi 0] [(.ref t1)] _
    refine XS.iloadN X4.here hx rfl (hb hby d10_20) rfl ?_
    refine st5 _ ?_
    show SF p e below T5 m 24 #[vr r0, vi 0] [(.int ch0)] _
    exact retN X5 hx (t := .char) Bd.returns (by simp) (hb hby d10_24) hr
  · show Qca_2_0 Z r0 ch0 ch1 G1 G3 h0 n0 _ T5.heap _
    rw [e5]
    exact ⟨congrArg (fun z => some (Value.int z)) (own_narcW hb_0), N5, rfl⟩
def Qui_2_1 (Z : State) (r1 : Addr) (k0 : ClassId) (ch0 : Int32) (ch1 : Int32) (G1 : Int32) (G3 : Value) (h0 : Heap) (n0 : Nat) (v : Option Value) (h : Heap) (L : List Loc) : Prop := v = none ∧ Fr n0 L ∧ h = h0
set_option maxRecDepth 65536 in
set_option maxHeartbeats 40000000 in
theorem rmui_2_1 (l : Launch) (Z : State) (a0 : Array Value) (hw : ∀ d ∈ tables_1, d.before a0 Z = true) (ws : List Jvm.Cond) (r1 : Addr) (k0 : ClassId) (ch0 : Int32) (ch1 : Int32) (G1 : Int32) (G3 : Value) (h0 : Heap) (n0 : Nat) (Z0 : n0 ≤ h0.size) (V0 : Arv Z h0 r1 k0 .byte (4 : Int32) [(.int (loB ch0)), (.int (hiB ch0)), (.int (loB ch1)), (.int (hiB ch1))] (.int 0)) (O2 : sC Z h0 G1) (P5 : ¬ (G1 = (0 : Int32))) (O4 : sI Z h0 G3) (rG3 : G3.isRef = true) :
    MF l Z mN21 jdk_52_method_91_code 2 none ws (rK 2 0 0 27) #[(.int 1), (.ref r1)] h0 (Qui_2_1 Z r1 k0 ch0 ch1 G1 G3 h0 n0) := by
  refine MetFree.of_bodySF (plainFor_of_name pn_java_lang_StringUTF16) hisR ?_
  intro p e s m args below meth c s₁ Bd hml0 hP hK
  obtain ⟨rfl, hZ, hh⟩ := hP
  have hx := Bd.exec
  have hby := Bd.bytes
  have hml : c.maxLocals = 2 := hml0
  have hown : s.vm.findClass "java/lang/StringUTF16" = some m.cls := findClass_of_methodNamed Bd.named
  have hnm := (name_of_methodNamed Bd.named Bd.method).1
  have X0 : Stand p l e (rK 2 0 0 27) s m #[(.int 1), (.ref r1)] below meth c s₁ [] 0 0 := Stand.of_body Bd
  have e0 : s₁.heap = h0 := by rw [← hh, Bd.state]; rfl
  have N0 := Fr.nil n0
  have pre0 : ∀ t, SF p e below s₁ m 0 #[vi 1, vr r1] [] t → Steps p.tables e below (s₁.setTop (entryFrame m #[(.int 1), (.ref r1)] 2)) t := fun t k => castTop (ef_23 m (1 : Int32) r1) k
  obtain ⟨_, _, ⟨T1, L1, k1, n1⟩, -, X1, ⟨Lc1, hQ1, l1, y1, z1⟩, st1⟩ := Jvm.LawKit.callS X0 hx (y := mN20) hown (mvT hZ (tw hw 99 rfl)) (mvT hZ (tw hw 100 rfl)) (mvT hZ (tw hw 34 rfl)) (mvT hZ (tw hw 101 rfl)) (by decide) (backOf (W := 1) (rmul_2 l Z a0 hw [] r1 k0 ch0 ch1 h0 n0 Z0 V0) hZ (tw hw 101 rfl) (tw hw 34 rfl) (by decide) (by decide)) (g := (mkF m 2 #[vi 1, vr r1] [(.ref r1), (.int 1)])) rfl (by rw [hml]; rfl) (argsL := [(.ref r1)]) (rest := [(.int 1)]) (lenOf pd_10 rfl) rfl (by show 2 * 0 + _ ≤ _; exact Nat.le_of_eq rfl) (hb hby d23_2) (fun _ _ => ⟨rfl, e0, (by decide : 0 + 0 ≤ _), (by decide : 0 + 0 ≤ _)⟩)
  dsimp only [Pt.U, Pt.locs, Pt.cells, Pt.slots] at X1 l1 y1 z1 st1 hQ1
  subst l1 y1 z1
  obtain ⟨rfl, Nq1, e1⟩ := hQ1
  have N1 := Fr.app N0 Nq1
  obtain ⟨_, _, ⟨T2, L2, k2, n2⟩, -, X2, ⟨Lc2, hQ2, l2, y2, z2⟩, st2⟩ := Jvm.LawKit.callS X1 hx (y := mN19) hown (mvT hZ (tw hw 102 rfl)) (mvT hZ (tw hw 61 rfl)) (mvT hZ (tw hw 3 rfl)) (mvT hZ (tw hw 62 rfl)) (by decide) (backOf (W := 0) (rmci l Z a0 hw [] (1 : Int32) (2 : Int32) G3 h0 n0 Z0 (by decide) (by decide) O4 rG3) hZ (tw hw 62 rfl) (tw hw 3 rfl) (by decide) (by decide)) (g := (mkF m 5 #[vi 1, vr r1] [(.int 2), (.int 1)])) rfl (by rw [hml]; rfl) (argsL := [(.int 1), (.int 2)]) (rest := []) (lenOf pd_11 rfl) rfl (by show 2 * 0 + _ ≤ _; exact Nat.le_of_eq rfl) (hb hby d23_5) (fun _ _ => ⟨rfl, e1, (by decide : 0 + 0 ≤ _), (by decide : 0 + 0 ≤ _)⟩)
  dsimp only [Pt.U, Pt.locs, Pt.cells, Pt.slots] at X2 l2 y2 z2 st2 hQ2
  subst l2 y2 z2
  obtain ⟨rfl, Nq2, e2⟩ := hQ2
  have N2 := Fr.app N1 Nq2
  obtain ⟨fs, hr, hrun, hended, hW, hsame⟩ := X2.leave (v := none) (fun _ => rfl)
  refine ⟨_, _, pre0 _ ?_, hrun, hended, _, _, rfl, ?_, ⟨_, rfl⟩, hW, hsame.mono (by decide) (by decide)⟩
  · skip
    show SF p e below s₁ m 0 #[vi 1, vr r1] [] _
    refine XS.iloadN X0.here hx rfl (hb hby d23_0) rfl ?_
    refine XS.aloadN X0.here hx rfl (hb hby d23_1) rfl rfl ?_
    refine st1 _ ?_
    refine st2 _ ?_
    show SF p e below T2 m 8 #[vi 1, vr r1] [] _
    exact X2.returnOut hx Bd.returns (hb hby d23_8) hr
  · show Qui_2_1 Z r1 k0 ch0 ch1 G1 G3 h0 n0 _ T2.heap _
    rw [e2]
    exact ⟨rfl, N2, rfl⟩
def Quc_2_1 (Z : State) (r0 : Addr) (k0 : ClassId) (ch0 : Int32) (ch1 : Int32) (G1 : Int32) (G3 : Value) (h0 : Heap) (n0 : Nat) (v : Option Value) (h : Heap) (L : List Loc) : Prop := v = some (.int ch1) ∧ Fr n0 L ∧ h = h0
set_option maxRecDepth 65536 in
set_option maxHeartbeats 40000000 in
theorem rmuc_2_1 (l : Launch) (Z : State) (a0 : Array Value) (hw : ∀ d ∈ tables_1, d.before a0 Z = true) (ws : List Jvm.Cond) (r0 : Addr) (k0 : ClassId) (ch0 : Int32) (ch1 : Int32) (G1 : Int32) (G3 : Value) (h0 : Heap) (n0 : Nat) (Z0 : n0 ≤ h0.size) (V0 : Arv Z h0 r0 k0 .byte (4 : Int32) [(.int (loB ch0)), (.int (hiB ch0)), (.int (loB ch1)), (.int (hiB ch1))] (.int 0)) (hb_1 : 0 ≤ ch1.toInt ∧ ch1.toInt ≤ 65535) (O2 : sC Z h0 G1) (P5 : ¬ (G1 = (0 : Int32))) (O4 : sI Z h0 G3) (rG3 : G3.isRef = true) (OA : sA Z h0) (OH : sH Z h0) (OL : sL Z h0) :
    MF l Z mN22 jdk_52_method_83_code 2 (some .char) ws (rK 3 0 0 40) #[(.ref r0), (.int 1)] h0 (Quc_2_1 Z r0 k0 ch0 ch1 G1 G3 h0 n0) := by
  refine MetFree.of_bodySF (plainFor_of_name pn_java_lang_StringUTF16) hisR ?_
  intro p e s m args below meth c s₁ Bd hml0 hP hK
  obtain ⟨rfl, hZ, hh⟩ := hP
  have hx := Bd.exec
  have hby := Bd.bytes
  have hml : c.maxLocals = 2 := hml0
  have hown : s.vm.findClass "java/lang/StringUTF16" = some m.cls := findClass_of_methodNamed Bd.named
  have hnm := (name_of_methodNamed Bd.named Bd.method).1
  have X0 : Stand p l e (rK 3 0 0 40) s m #[(.ref r0), (.int 1)] below meth c s₁ [] 0 0 := Stand.of_body Bd
  have e0 : s₁.heap = h0 := by rw [← hh, Bd.state]; rfl
  have N0 := Fr.nil n0
  have pre0 : ∀ t, SF p e below s₁ m 0 #[vr r0, vi 1] [] t → Steps p.tables e below (s₁.setTop (entryFrame m #[(.ref r0), (.int 1)] 2)) t := fun t k => castTop (ef_22 m r0 (1 : Int32)) k
  obtain ⟨_, _, ⟨T1, L1, k1, n1⟩, -, X1, ⟨Lc1, hQ1, l1, y1, z1⟩, st1⟩ := Jvm.LawKit.callS X0 hx (y := mN21) hown (mvT hZ (tw hw 96 rfl)) (mvT hZ (tw hw 97 rfl)) (mvT hZ (tw hw 34 rfl)) (mvT hZ (tw hw 98 rfl)) (by decide) (backOf (W := 0) (rmui_2_1 l Z a0 hw [] r0 k0 ch0 ch1 G1 G3 h0 n0 Z0 V0 O2 P5 O4 rG3) hZ (tw hw 98 rfl) (tw hw 34 rfl) (by decide) (by decide)) (g := (mkF m 2 #[vr r0, vi 1] [(.ref r0), (.int 1)])) rfl (by rw [hml]; rfl) (argsL := [(.int 1), (.ref r0)]) (rest := []) (lenOf pd_12 rfl) rfl (by show 2 * 0 + _ ≤ _; exact Nat.le_of_eq rfl) (hb hby d22_2) (fun _ _ => ⟨rfl, e0, (by decide : 0 + 0 ≤ _), (by decide : 0 + 0 ≤ _)⟩)
  dsimp only [Pt.U, Pt.locs, Pt.cells, Pt.slots] at X1 l1 y1 z1 st1 hQ1
  subst l1 y1 z1
  obtain ⟨rfl, Nq1, e1⟩ := hQ1
  have N1 := Fr.app N0 Nq1
  obtain ⟨_, _, ⟨T2, L2, k2, n2⟩, -, X2, ⟨Lc2, hQ2, l2, y2, z2⟩, st2⟩ := Jvm.LawKit.callS X1 hx (y := mN12) hown (mvT hZ (tw hw 90 rfl)) (mvT hZ (tw hw 91 rfl)) (mvT hZ (tw hw 34 rfl)) (mvT hZ (tw hw 92 rfl)) (by decide) (backOf (W := 0) (rmgc_2_1 l Z a0 hw [] r0 k0 ch0 ch1 h0 n0 Z0 V0 hb_1 OA OH OL) hZ (tw hw 92 rfl) (tw hw 34 rfl) (by decide) (by decide)) (g := (mkF m 7 #[vr r0, vi 1] [(.int 1), (.ref r0)])) rfl (by rw [hml]; rfl) (argsL := [(.ref r0), (.int 1)]) (rest := []) (lenOf pd_7 rfl) rfl (by show 2 * 0 + _ ≤ _; exact Nat.le_of_eq rfl) (hb hby d22_7) (fun _ _ => ⟨rfl, e1, (by decide : 0 + 0 ≤ _), (by decide : 0 + 0 ≤ _)⟩)
  dsimp only [Pt.U, Pt.locs, Pt.cells, Pt.slots] at X2 l2 y2 z2 st2 hQ2
  subst l2 y2 z2
  obtain ⟨rfl, Nq2, e2⟩ := hQ2
  have N2 := Fr.app N1 Nq2
  obtain ⟨fs, hr, hrun, hended, hW, hsame⟩ := X2.leave (v := some (.int (nar .char ch1))) (fun h => by rw [Bd.returns] at h; cases h)
  refine ⟨_, _, pre0 _ ?_, hrun, hended, _, _, rfl, ?_, ⟨_, rfl⟩, hW, hsame.mono (by decide) (by decide)⟩
  · skip
    show SF p e below s₁ m 0 #[vr r0, vi 1] [] _
    refine XS.iloadN X0.here hx rfl (hb hby d22_0) rfl ?_
    refine XS.aloadN X0.here hx rfl (hb hby d22_1) rfl rfl ?_
    refine st1 _ ?_
    refine XS.aloadN X1.here hx rfl (hb hby d22_5) rfl rfl ?_
    refine XS.iloadN X1.here hx rfl (hb hby d22_6) rfl ?_
    show SF p e below T1 m 7 #[vr r0, vi 1] [(.int 1), (.ref r0)] _
    refine st2 _ ?_
    show SF p e below T2 m 10 #[vr r0, vi 1] [(.int ch1)] _
    exact retN X2 hx (t := .char) Bd.returns (by simp) (hb hby d22_10) hr
  · show Quc_2_1 Z r0 k0 ch0 ch1 G1 G3 h0 n0 _ T2.heap _
    rw [e2]
    exact ⟨congrArg (fun z => some (Value.int z)) (own_narcW hb_1), N2, rfl⟩
def Qca_2_1 (Z : State) (r0 : Addr) (ch0 : Int32) (ch1 : Int32) (G1 : Int32) (G3 : Value) (h0 : Heap) (n0 : Nat) (v : Option Value) (h : Heap) (L : List Loc) : Prop := v = some (.int ch1) ∧ Fr n0 L ∧ h = h0
set_option maxRecDepth 65536 in
set_option maxHeartbeats 40000000 in
theorem rmca_2_1 (l : Launch) (Z : State) (a0 : Array Value) (hw : ∀ d ∈ tables_1, d.before a0 Z = true) (ws : List Jvm.Cond) (r0 : Addr) (ch0 : Int32) (ch1 : Int32) (G1 : Int32) (G3 : Value) (h0 : Heap) (n0 : Nat) (Z0 : n0 ≤ h0.size) (S0 : OW Z h0 r0 (4 : Int32) [(.int (loB ch0)), (.int (hiB ch0)), (.int (loB ch1)), (.int (hiB ch1))]) (hb_1 : 0 ≤ ch1.toInt ∧ ch1.toInt ≤ 65535) (O2 : sC Z h0 G1) (P5 : ¬ (G1 = (0 : Int32))) (O4 : sI Z h0 G3) (rG3 : G3.isRef = true) (OA : sA Z h0) (OH : sH Z h0) (OL : sL Z h0) :
    MF l Z mN23 jdk_42_method_56_code 2 (some .char) ws (rK 4 0 0 53) #[(.ref r0), (.int 1)] h0 (Qca_2_1 Z r0 ch0 ch1 G1 G3 h0 n0) := by
  refine MetFree.of_bodySF (plainFor_of_name pn_java_lang_String) hisR ?_
  intro p e s m args below meth c s₁ Bd hml0 hP hK
  obtain ⟨rfl, hZ, hh⟩ := hP
  have hx := Bd.exec
  have hby := Bd.bytes
  have hml : c.maxLocals = 2 := hml0
  have hown : s.vm.findClass "java/lang/String" = some m.cls := findClass_of_methodNamed Bd.named
  have hnm := (name_of_methodNamed Bd.named Bd.method).1
  have X0 : Stand p l e (rK 4 0 0 53) s m #[(.ref r0), (.int 1)] below meth c s₁ [] 0 0 := Stand.of_body Bd
  have e0 : s₁.heap = h0 := by rw [← hh, Bd.state]; rfl
  have N0 := Fr.nil n0
  have pre0 : ∀ t, SF p e below s₁ m 0 #[vr r0, vi 1] [] t → Steps p.tables e below (s₁.setTop (entryFrame m #[(.ref r0), (.int 1)] 2)) t := fun t k => castTop (ef_10 m r0 (1 : Int32)) k
  obtain ⟨t1, k1, E1, V1, C1, A1⟩ := id S0
  obtain ⟨cq2, kq2, q2a, q2b, q2c⟩ := isOf hZ e0 E1
  obtain ⟨_, _, ⟨T2, L2, k2, n2⟩, -, X2, ⟨Lc2, hQ2, l2, y2, z2⟩, st2⟩ := X0.virtualBack hx (y := mN17) (z := mN17) hown (mvT hZ (tw hw 51 rfl)) (mvT hZ (tw hw 52 rfl)) (notFace_of_selects (args := #[]) (mvT hZ (tw hw 54 rfl))) (mvT hZ (tw hw 54 rfl)) (mvT hZ (tw hw 53 rfl)) (by decide) (backOf (W := 0) (rmlat l Z a0 hw [] r0 G1 G3 h0 n0 Z0 O2 P5 O4 rG3 C1) hZ (tw hw 55 rfl) (tw hw 3 rfl) (by decide) (by decide)) q2a q2c (g := (mkF m 1 #[vr r0, vi 1] [(.ref r0)])) rfl (by rw [hml]; rfl) (Steps.refl _) (argsL := []) (rest := []) (lenOf pd_13 rfl) rfl (by show 2 * 0 + _ ≤ _; exact Nat.le_of_eq rfl) (hb hby d10_1) (fun _ _ => ⟨rfl, e0, (by decide : 0 + 0 ≤ _), (by decide : 0 + 0 ≤ _)⟩)
  dsimp only [Pt.U, Pt.locs, Pt.cells, Pt.slots] at X2 l2 y2 z2 st2 hQ2
  subst l2 y2 z2
  obtain ⟨rfl, Nq2, e2⟩ := hQ2
  have N2 := Fr.app N0 Nq2
  have hc3 : (0 : Int32) = (0 : Int32) := by decide
  obtain ⟨T4, X4, e4, st4⟩ := getF X2 hx hZ hown (host := "") (Or.inl (tw hw 20 rfl)) Via.refl e2 V1 (g := (mkF m 17 #[vr r0, vi 1] [(.ref r0)])) rfl rfl (hb hby d10_17)
  obtain ⟨_, _, ⟨T5, L5, k5, n5⟩, -, X5, ⟨Lc5, hQ5, l5, y5, z5⟩, st5⟩ := Jvm.LawKit.callS X4 hx (y := mN22) hown (mvT hZ (tw hw 93 rfl)) (mvT hZ (tw hw 94 rfl)) (mvT hZ (tw hw 34 rfl)) (mvT hZ (tw hw 95 rfl)) (by decide) (backOf (W := 0) (rmuc_2_1 l Z a0 hw [] t1 k1 ch0 ch1 G1 G3 h0 n0 Z0 A1 hb_1 O2 P5 O4 rG3 OA OH OL) hZ (tw hw 95 rfl) (tw hw 34 rfl) (by decide) (by decide)) (g := (mkF m 21 #[vr r0, vi 1] [(.int 1), (.ref t1)])) rfl (by rw [hml]; rfl) (argsL := [(.ref t1), (.int 1)]) (rest := []) (lenOf pd_7 rfl) rfl (by show 2 * 0 + _ ≤ _; exact Nat.le_of_eq rfl) (hb hby d10_21) (fun _ _ => ⟨rfl, e4, (by decide : 0 + 0 ≤ _), (by decide : 0 + 0 ≤ _)⟩)
  dsimp only [Pt.U, Pt.locs, Pt.cells, Pt.slots] at X5 l5 y5 z5 st5 hQ5
  subst l5 y5 z5
  obtain ⟨rfl, Nq5, e5⟩ := hQ5
  have N5 := Fr.app N2 Nq5
  obtain ⟨fs, hr, hrun, hended, hW, hsame⟩ := X5.leave (v := some (.int (nar .char ch1))) (fun h => by rw [Bd.returns] at h; cases h)
  refine ⟨_, _, pre0 _ ?_, hrun, hended, _, _, rfl, ?_, ⟨_, rfl⟩, hW, hsame.mono (by decide) (by decide)⟩
  · skip
    show SF p e below s₁ m 0 #[vr r0, vi 1] [] _
    refine XS.aloadN X0.here hx rfl (hb hby d10_0) rfl rfl ?_
    refine st2.trans ?_
    refine XS.ifYes X2.here hx rfl (pc0 := 4) (pc' := 16) rfl (hb hby d10_4) rfl ((if0 _ _).trans (teq hc3).1) (by decide) (by decide) ?_
    refine XS.aloadN X2.here hx rfl (hb hby d10_16) rfl rfl ?_
    refine st4 _ ?_
    show SF p e below T4 m 20 #[vr r0, vi 1] [(.ref t1)] _
    refine XS.iloadN X4.here hx rfl (hb hby d10_20) rfl ?_
    refine st5 _ ?_
    show SF p e below T5 m 24 #[vr r0, vi 1] [(.int ch1)] _
    exact retN X5 hx (t := .char) Bd.returns (by simp) (hb hby d10_24) hr
  · show Qca_2_1 Z r0 ch0 ch1 G1 G3 h0 n0 _ T5.heap _
    rw [e5]
    exact ⟨congrArg (fun z => some (Value.int z)) (own_narcW hb_1), N5, rfl⟩
def Qln_2 (Z : State) (r0 : Addr) (ch0 : Int32) (ch1 : Int32) (G1 : Int32) (G3 : Value) (h0 : Heap) (n0 : Nat) (v : Option Value) (h : Heap) (L : List Loc) : Prop := v = some (.int 2) ∧ Fr n0 L ∧ h = h0
set_option maxRecDepth 65536 in
set_option maxHeartbeats 40000000 in
theorem rmln_2 (l : Launch) (Z : State) (a0 : Array Value) (hw : ∀ d ∈ tables_1, d.before a0 Z = true) (ws : List Jvm.Cond) (r0 : Addr) (ch0 : Int32) (ch1 : Int32) (G1 : Int32) (G3 : Value) (h0 : Heap) (n0 : Nat) (Z0 : n0 ≤ h0.size) (S0 : OW Z h0 r0 (4 : Int32) [(.int (loB ch0)), (.int (hiB ch0)), (.int (loB ch1)), (.int (hiB ch1))]) (O2 : sC Z h0 G1) (P5 : ¬ (G1 = (0 : Int32))) (O4 : sI Z h0 G3) (rG3 : G3.isRef = true) (OA : sA Z h0) (OH : sH Z h0) (OL : sL Z h0) :
    MF l Z mN24 jdk_42_method_54_code 1 (some .int) ws (rK 1 0 0 13) #[(.ref r0)] h0 (Qln_2 Z r0 ch0 ch1 G1 G3 h0 n0) := by
  refine MetFree.of_bodySF (plainFor_of_name pn_java_lang_String) hisR ?_
  intro p e s m args below meth c s₁ Bd hml0 hP hK
  obtain ⟨rfl, hZ, hh⟩ := hP
  have hx := Bd.exec
  have hby := Bd.bytes
  have hml : c.maxLocals = 1 := hml0
  have hown : s.vm.findClass "java/lang/String" = some m.cls := findClass_of_methodNamed Bd.named
  have hnm := (name_of_methodNamed Bd.named Bd.method).1
  have X0 : Stand p l e (rK 1 0 0 13) s m #[(.ref r0)] below meth c s₁ [] 0 0 := Stand.of_body Bd
  have e0 : s₁.heap = h0 := by rw [← hh, Bd.state]; rfl
  have N0 := Fr.nil n0
  have pre0 : ∀ t, SF p e below s₁ m 0 #[vr r0] [] t → Steps p.tables e below (s₁.setTop (entryFrame m #[(.ref r0)] 1)) t := fun t k => castTop (ef_26 m r0) k
  obtain ⟨t1, k1, E1, V1, C1, A1⟩ := id S0
  obtain ⟨T2, X2, e2, st2⟩ := getF X0 hx hZ hown (host := "") (Or.inl (tw hw 20 rfl)) Via.refl e0 V1 (g := (mkF m 1 #[vr r0] [(.ref r0)])) rfl rfl (hb hby d26_1)
  obtain ⟨cl3, Ar3, -, Sz3, Nn3, -, -⟩ := id A1
  obtain ⟨cq4, kq4, q4a, q4b, q4c⟩ := isOf hZ e2 E1
  obtain ⟨_, _, ⟨T4, L4, k4, n4⟩, -, X4, ⟨Lc4, hQ4, l4, y4, z4⟩, st4⟩ := X2.virtualBack hx (y := mN16) (z := mN16) hown (mvT hZ (tw hw 111 rfl)) (mvT hZ (tw hw 112 rfl)) (notFace_of_selects (args := #[]) (mvT hZ (tw hw 114 rfl))) (mvT hZ (tw hw 114 rfl)) (mvT hZ (tw hw 113 rfl)) (by decide) (backOf (W := 1) (rmcod l Z a0 hw [] r0 G1 G3 h0 n0 Z0 O2 P5 O4 rG3 C1) hZ (tw hw 115 rfl) (tw hw 3 rfl) (by decide) (by decide)) q4a q4c (g := (mkF m 6 #[vr r0] [(.ref r0), (.int 4)])) rfl (by rw [hml]; rfl) (Steps.refl _) (argsL := []) (rest := [(.int 4)]) (lenOf pd_14 rfl) rfl (by show 2 * 0 + _ ≤ _; exact Nat.le_of_eq rfl) (hb hby d26_6) (fun _ _ => ⟨rfl, e2, (by decide : 0 + 0 ≤ _), (by decide : 0 + 0 ≤ _)⟩)
  dsimp only [Pt.U, Pt.locs, Pt.cells, Pt.slots] at X4 l4 y4 z4 st4 hQ4
  subst l4 y4 z4
  obtain ⟨rfl, Nq4, e4⟩ := hQ4
  have N4 := Fr.app N0 Nq4
  obtain ⟨fs, hr, hrun, hended, hW, hsame⟩ := X4.leave (v := some (.int 2)) (fun h => by rw [Bd.returns] at h; cases h)
  refine ⟨_, _, pre0 _ ?_, hrun, hended, _, _, rfl, ?_, ⟨_, rfl⟩, hW, hsame.mono (by decide) (by decide)⟩
  · skip
    show SF p e below s₁ m 0 #[vr r0] [] _
    refine XS.aloadN X0.here hx rfl (hb hby d26_0) rfl rfl ?_
    refine st2 _ ?_
    refine X2.arraylength hx (by rw [e2]; exact Ar3.1) (State.isArrayOf_alike hZ.alike Ar3.2.1) (g := (mkF m 4 #[vr r0] [(.ref t1)])) rfl rfl (hb hby d26_4) _ ?_
    rw [len_of Sz3 Nn3]
    refine XS.aloadN X2.here hx rfl (hb hby d26_5) rfl rfl ?_
    refine st4.trans ?_
    show SF p e below T4 m 9 #[vr r0] [(.int 1), (.int 4)] _
    refine XS.ishr X4.here hx rfl (hb hby d26_9) rfl ?_
    show SF p e below T4 m 10 #[vr r0] [(.int 2)] _
    exact retI X4 hx Bd.returns (hb hby d26_10) hr
  · show Qln_2 Z r0 ch0 ch1 G1 G3 h0 n0 _ T4.heap _
    rw [e4]
    exact ⟨rfl, N4, rfl⟩
def Qem_2 (Z : State) (r0 : Addr) (ch0 : Int32) (ch1 : Int32) (G1 : Int32) (G3 : Value) (h0 : Heap) (n0 : Nat) (v : Option Value) (h : Heap) (L : List Loc) : Prop := v = some (.int 0) ∧ Fr n0 L ∧ h = h0
set_option maxRecDepth 65536 in
set_option maxHeartbeats 40000000 in
theorem rmem_2 (l : Launch) (Z : State) (a0 : Array Value) (hw : ∀ d ∈ tables_1, d.before a0 Z = true) (ws : List Jvm.Cond) (r0 : Addr) (ch0 : Int32) (ch1 : Int32) (G1 : Int32) (G3 : Value) (h0 : Heap) (n0 : Nat) (Z0 : n0 ≤ h0.size) (S0 : OW Z h0 r0 (4 : Int32) [(.int (loB ch0)), (.int (hiB ch0)), (.int (loB ch1)), (.int (hiB ch1))]) (O2 : sC Z h0 G1) (P5 : ¬ (G1 = (0 : Int32))) (O4 : sI Z h0 G3) (rG3 : G3.isRef = true) (OA : sA Z h0) (OH : sH Z h0) (OL : sL Z h0) :
    MF l Z mN25 jdk_42_method_55_code 1 (some .boolean) ws (rK 0 0 0 0) #[(.ref r0)] h0 (Qem_2 Z r0 ch0 ch1 G1 G3 h0 n0) := by
  refine MetFree.of_bodySF (plainFor_of_name pn_java_lang_String) hisR ?_
  intro p e s m args below meth c s₁ Bd hml0 hP hK
  obtain ⟨rfl, hZ, hh⟩ := hP
  have hx := Bd.exec
  have hby := Bd.bytes
  have hml : c.maxLocals = 1 := hml0
  have hown : s.vm.findClass "java/lang/String" = some m.cls := findClass_of_methodNamed Bd.named
  have hnm := (name_of_methodNamed Bd.named Bd.method).1
  have X0 : Stand p l e (rK 0 0 0 0) s m #[(.ref r0)] below meth c s₁ [] 0 0 := Stand.of_body Bd
  have e0 : s₁.heap = h0 := by rw [← hh, Bd.state]; rfl
  have N0 := Fr.nil n0
  have pre0 : ∀ t, SF p e below s₁ m 0 #[vr r0] [] t → Steps p.tables e below (s₁.setTop (entryFrame m #[(.ref r0)] 1)) t := fun t k => castTop (ef_5 m r0) k
  obtain ⟨t1, k1, E1, V1, C1, A1⟩ := id S0
  obtain ⟨T2, X2, e2, st2⟩ := getF X0 hx hZ hown (host := "") (Or.inl (tw hw 20 rfl)) Via.refl e0 V1 (g := (mkF m 1 #[vr r0] [(.ref r0)])) rfl rfl (hb hby d5_1)
  obtain ⟨cl3, Ar3, -, Sz3, Nn3, -, -⟩ := id A1
  have hc4 : ¬ ((4 : Int32) = (0 : Int32)) := by decide
  obtain ⟨fs, hr, hrun, hended, hW, hsame⟩ := X2.leave (v := some (.int 0)) (fun h => by rw [Bd.returns] at h; cases h)
  refine ⟨_, _, pre0 _ ?_, hrun, hended, _, _, rfl, ?_, ⟨_, rfl⟩, hW, hsame.mono (by decide) (by decide)⟩
  · skip
    show SF p e below s₁ m 0 #[vr r0] [] _
    refine XS.aloadN X0.here hx rfl (hb hby d5_0) rfl rfl ?_
    refine st2 _ ?_
    refine X2.arraylength hx (by rw [e2]; exact Ar3.1) (State.isArrayOf_alike hZ.alike Ar3.2.1) (g := (mkF m 4 #[vr r0] [(.ref t1)])) rfl rfl (hb hby d5_4) _ ?_
    rw [len_of Sz3 Nn3]
    refine XS.ifYes X2.here hx rfl (pc0 := 5) (pc' := 12) rfl (hb hby d5_5) rfl ((if0 _ _).trans (feq hc4).2) (by decide) (by decide) ?_
    refine XS.iconst X2.here hx rfl (hb hby d5_12) ?_
    show SF p e below T2 m 13 #[vr r0] [(.int 0)] _
    exact retN X2 hx (t := .boolean) Bd.returns (by simp) (hb hby d5_13) hr
  · show Qem_2 Z r0 ch0 ch1 G1 G3 h0 n0 _ T2.heap _
    rw [e2]
    exact ⟨rfl, N0, rfl⟩
def Qul_3 (Z : State) (r0 : Addr) (k0 : ClassId) (ch0 : Int32) (ch1 : Int32) (ch2 : Int32) (h0 : Heap) (n0 : Nat) (v : Option Value) (h : Heap) (L : List Loc) : Prop := v = some (.int 3) ∧ Fr n0 L ∧ h = h0
set_option maxRecDepth 65536 in
set_option maxHeartbeats 40000000 in
theorem rmul_3 (l : Launch) (Z : State) (a0 : Array Value) (hw : ∀ d ∈ tables_1, d.before a0 Z = true) (ws : List Jvm.Cond) (r0 : Addr) (k0 : ClassId) (ch0 : Int32) (ch1 : Int32) (ch2 : Int32) (h0 : Heap) (n0 : Nat) (Z0 : n0 ≤ h0.size) (V0 : Arv Z h0 r0 k0 .byte (6 : Int32) [(.int (loB ch0)), (.int (hiB ch0)), (.int (loB ch1)), (.int (hiB ch1)), (.int (loB ch2)), (.int (hiB ch2))] (.int 0)) :
    MF l Z mN20 jdk_52_method_6_code 1 (some .int) ws (rK 0 0 0 0) #[(.ref r0)] h0 (Qul_3 Z r0 k0 ch0 ch1 ch2 h0 n0) := by
  refine MetFree.of_bodySF (plainFor_of_name pn_java_lang_StringUTF16) hisR ?_
  intro p e s m args below meth c s₁ Bd hml0 hP hK
  obtain ⟨rfl, hZ, hh⟩ := hP
  have hx := Bd.exec
  have hby := Bd.bytes
  have hml : c.maxLocals = 1 := hml0
  have hown : s.vm.findClass "java/lang/StringUTF16" = some m.cls := findClass_of_methodNamed Bd.named
  have hnm := (name_of_methodNamed Bd.named Bd.method).1
  have X0 : Stand p l e (rK 0 0 0 0) s m #[(.ref r0)] below meth c s₁ [] 0 0 := Stand.of_body Bd
  have e0 : s₁.heap = h0 := by rw [← hh, Bd.state]; rfl
  have N0 := Fr.nil n0
  have pre0 : ∀ t, SF p e below s₁ m 0 #[vr r0] [] t → Steps p.tables e below (s₁.setTop (entryFrame m #[(.ref r0)] 1)) t := fun t k => castTop (ef_24 m r0) k
  obtain ⟨cl1, Ar1, -, Sz1, Nn1, -, -⟩ := id V0
  obtain ⟨fs, hr, hrun, hended, hW, hsame⟩ := X0.leave (v := some (.int 3)) (fun h => by rw [Bd.returns] at h; cases h)
  refine ⟨_, _, pre0 _ ?_, hrun, hended, _, _, rfl, ?_, ⟨_, rfl⟩, hW, hsame.mono (by decide) (by decide)⟩
  · skip
    show SF p e below s₁ m 0 #[vr r0] [] _
    refine XS.aloadN X0.here hx rfl (hb hby d24_0) rfl rfl ?_
    refine X0.arraylength hx (by rw [e0]; exact Ar1.1) (State.isArrayOf_alike hZ.alike Ar1.2.1) (g := (mkF m 1 #[vr r0] [(.ref r0)])) rfl rfl (hb hby d24_1) _ ?_
    rw [len_of Sz1 Nn1]
    refine XS.iconst X0.here hx rfl (hb hby d24_2) ?_
    refine XS.ishr X0.here hx rfl (hb hby d24_3) rfl ?_
    show SF p e below s₁ m 4 #[vr r0] [(.int 3)] _
    exact retI X0 hx Bd.returns (hb hby d24_4) hr
  · show Qul_3 Z r0 k0 ch0 ch1 ch2 h0 n0 _ s₁.heap _
    rw [e0]
    exact ⟨rfl, N0, rfl⟩
def Qui_3_0 (Z : State) (r1 : Addr) (k0 : ClassId) (ch0 : Int32) (ch1 : Int32) (ch2 : Int32) (G1 : Int32) (G3 : Value) (h0 : Heap) (n0 : Nat) (v : Option Value) (h : Heap) (L : List Loc) : Prop := v = none ∧ Fr n0 L ∧ h = h0
set_option maxRecDepth 65536 in
set_option maxHeartbeats 40000000 in
theorem rmui_3_0 (l : Launch) (Z : State) (a0 : Array Value) (hw : ∀ d ∈ tables_1, d.before a0 Z = true) (ws : List Jvm.Cond) (r1 : Addr) (k0 : ClassId) (ch0 : Int32) (ch1 : Int32) (ch2 : Int32) (G1 : Int32) (G3 : Value) (h0 : Heap) (n0 : Nat) (Z0 : n0 ≤ h0.size) (V0 : Arv Z h0 r1 k0 .byte (6 : Int32) [(.int (loB ch0)), (.int (hiB ch0)), (.int (loB ch1)), (.int (hiB ch1)), (.int (loB ch2)), (.int (hiB ch2))] (.int 0)) (O2 : sC Z h0 G1) (P5 : ¬ (G1 = (0 : Int32))) (O4 : sI Z h0 G3) (rG3 : G3.isRef = true) :
    MF l Z mN21 jdk_52_method_91_code 2 none ws (rK 2 0 0 27) #[(.int 0), (.ref r1)] h0 (Qui_3_0 Z r1 k0 ch0 ch1 ch2 G1 G3 h0 n0) := by
  refine MetFree.of_bodySF (plainFor_of_name pn_java_lang_StringUTF16) hisR ?_
  intro p e s m args below meth c s₁ Bd hml0 hP hK
  obtain ⟨rfl, hZ, hh⟩ := hP
  have hx := Bd.exec
  have hby := Bd.bytes
  have hml : c.maxLocals = 2 := hml0
  have hown : s.vm.findClass "java/lang/StringUTF16" = some m.cls := findClass_of_methodNamed Bd.named
  have hnm := (name_of_methodNamed Bd.named Bd.method).1
  have X0 : Stand p l e (rK 2 0 0 27) s m #[(.int 0), (.ref r1)] below meth c s₁ [] 0 0 := Stand.of_body Bd
  have e0 : s₁.heap = h0 := by rw [← hh, Bd.state]; rfl
  have N0 := Fr.nil n0
  have pre0 : ∀ t, SF p e below s₁ m 0 #[vi 0, vr r1] [] t → Steps p.tables e below (s₁.setTop (entryFrame m #[(.int 0), (.ref r1)] 2)) t := fun t k => castTop (ef_23 m (0 : Int32) r1) k
  obtain ⟨_, _, ⟨T1, L1, k1, n1⟩, -, X1, ⟨Lc1, hQ1, l1, y1, z1⟩, st1⟩ := Jvm.LawKit.callS X0 hx (y := mN20) hown (mvT hZ (tw hw 99 rfl)) (mvT hZ (tw hw 100 rfl)) (mvT hZ (tw hw 34 rfl)) (mvT hZ (tw hw 101 rfl)) (by decide) (backOf (W := 1) (rmul_3 l Z a0 hw [] r1 k0 ch0 ch1 ch2 h0 n0 Z0 V0) hZ (tw hw 101 rfl) (tw hw 34 rfl) (by decide) (by decide)) (g := (mkF m 2 #[vi 0, vr r1] [(.ref r1), (.int 0)])) rfl (by rw [hml]; rfl) (argsL := [(.ref r1)]) (rest := [(.int 0)]) (lenOf pd_10 rfl) rfl (by show 2 * 0 + _ ≤ _; exact Nat.le_of_eq rfl) (hb hby d23_2) (fun _ _ => ⟨rfl, e0, (by decide : 0 + 0 ≤ _), (by decide : 0 + 0 ≤ _)⟩)
  dsimp only [Pt.U, Pt.locs, Pt.cells, Pt.slots] at X1 l1 y1 z1 st1 hQ1
  subst l1 y1 z1
  obtain ⟨rfl, Nq1, e1⟩ := hQ1
  have N1 := Fr.app N0 Nq1
  obtain ⟨_, _, ⟨T2, L2, k2, n2⟩, -, X2, ⟨Lc2, hQ2, l2, y2, z2⟩, st2⟩ := Jvm.LawKit.callS X1 hx (y := mN19) hown (mvT hZ (tw hw 102 rfl)) (mvT hZ (tw hw 61 rfl)) (mvT hZ (tw hw 3 rfl)) (mvT hZ (tw hw 62 rfl)) (by decide) (backOf (W := 0) (rmci l Z a0 hw [] (0 : Int32) (3 : Int32) G3 h0 n0 Z0 (by decide) (by decide) O4 rG3) hZ (tw hw 62 rfl) (tw hw 3 rfl) (by decide) (by decide)) (g := (mkF m 5 #[vi 0, vr r1] [(.int 3), (.int 0)])) rfl (by rw [hml]; rfl) (argsL := [(.int 0), (.int 3)]) (rest := []) (lenOf pd_11 rfl) rfl (by show 2 * 0 + _ ≤ _; exact Nat.le_of_eq rfl) (hb hby d23_5) (fun _ _ => ⟨rfl, e1, (by decide : 0 + 0 ≤ _), (by decide : 0 + 0 ≤ _)⟩)
  dsimp only [Pt.U, Pt.locs, Pt.cells, Pt.slots] at X2 l2 y2 z2 st2 hQ2
  subst l2 y2 z2
  obtain ⟨rfl, Nq2, e2⟩ := hQ2
  have N2 := Fr.app N1 Nq2
  obtain ⟨fs, hr, hrun, hended, hW, hsame⟩ := X2.leave (v := none) (fun _ => rfl)
  refine ⟨_, _, pre0 _ ?_, hrun, hended, _, _, rfl, ?_, ⟨_, rfl⟩, hW, hsame.mono (by decide) (by decide)⟩
  · skip
    show SF p e below s₁ m 0 #[vi 0, vr r1] [] _
    refine XS.iloadN X0.here hx rfl (hb hby d23_0) rfl ?_
    refine XS.aloadN X0.here hx rfl (hb hby d23_1) rfl rfl ?_
    refine st1 _ ?_
    refine st2 _ ?_
    show SF p e below T2 m 8 #[vi 0, vr r1] [] _
    exact X2.returnOut hx Bd.returns (hb hby d23_8) hr
  · show Qui_3_0 Z r1 k0 ch0 ch1 ch2 G1 G3 h0 n0 _ T2.heap _
    rw [e2]
    exact ⟨rfl, N2, rfl⟩
def Quc_3_0 (Z : State) (r0 : Addr) (k0 : ClassId) (ch0 : Int32) (ch1 : Int32) (ch2 : Int32) (G1 : Int32) (G3 : Value) (h0 : Heap) (n0 : Nat) (v : Option Value) (h : Heap) (L : List Loc) : Prop := v = some (.int ch0) ∧ Fr n0 L ∧ h = h0
set_option maxRecDepth 65536 in
set_option maxHeartbeats 40000000 in
theorem rmuc_3_0 (l : Launch) (Z : State) (a0 : Array Value) (hw : ∀ d ∈ tables_1, d.before a0 Z = true) (ws : List Jvm.Cond) (r0 : Addr) (k0 : ClassId) (ch0 : Int32) (ch1 : Int32) (ch2 : Int32) (G1 : Int32) (G3 : Value) (h0 : Heap) (n0 : Nat) (Z0 : n0 ≤ h0.size) (V0 : Arv Z h0 r0 k0 .byte (6 : Int32) [(.int (loB ch0)), (.int (hiB ch0)), (.int (loB ch1)), (.int (hiB ch1)), (.int (loB ch2)), (.int (hiB ch2))] (.int 0)) (hb_0 : 0 ≤ ch0.toInt ∧ ch0.toInt ≤ 65535) (O2 : sC Z h0 G1) (P5 : ¬ (G1 = (0 : Int32))) (O4 : sI Z h0 G3) (rG3 : G3.isRef = true) (OA : sA Z h0) (OH : sH Z h0) (OL : sL Z h0) :
    MF l Z mN22 jdk_52_method_83_code 2 (some .char) ws (rK 3 0 0 40) #[(.ref r0), (.int 0)] h0 (Quc_3_0 Z r0 k0 ch0 ch1 ch2 G1 G3 h0 n0) := by
  refine MetFree.of_bodySF (plainFor_of_name pn_java_lang_StringUTF16) hisR ?_
  intro p e s m args below meth c s₁ Bd hml0 hP hK
  obtain ⟨rfl, hZ, hh⟩ := hP
  have hx := Bd.exec
  have hby := Bd.bytes
  have hml : c.maxLocals = 2 := hml0
  have hown : s.vm.findClass "java/lang/StringUTF16" = some m.cls := findClass_of_methodNamed Bd.named
  have hnm := (name_of_methodNamed Bd.named Bd.method).1
  have X0 : Stand p l e (rK 3 0 0 40) s m #[(.ref r0), (.int 0)] below meth c s₁ [] 0 0 := Stand.of_body Bd
  have e0 : s₁.heap = h0 := by rw [← hh, Bd.state]; rfl
  have N0 := Fr.nil n0
  have pre0 : ∀ t, SF p e below s₁ m 0 #[vr r0, vi 0] [] t → Steps p.tables e below (s₁.setTop (entryFrame m #[(.ref r0), (.int 0)] 2)) t := fun t k => castTop (ef_22 m r0 (0 : Int32)) k
  obtain ⟨_, _, ⟨T1, L1, k1, n1⟩, -, X1, ⟨Lc1, hQ1, l1, y1, z1⟩, st1⟩ := Jvm.LawKit.callS X0 hx (y := mN21) hown (mvT hZ (tw hw 96 rfl)) (mvT hZ (tw hw 97 rfl)) (mvT hZ (tw hw 34 rfl)) (mvT hZ (tw hw 98 rfl)) (by decide) (backOf (W := 0) (rmui_3_0 l Z a0 hw [] r0 k0 ch0 ch1 ch2 G1 G3 h0 n0 Z0 V0 O2 P5 O4 rG3) hZ (tw hw 98 rfl) (tw hw 34 rfl) (by decide) (by decide)) (g := (mkF m 2 #[vr r0, vi 0] [(.ref r0), (.int 0)])) rfl (by rw [hml]; rfl) (argsL := [(.int 0), (.ref r0)]) (rest := []) (lenOf pd_12 rfl) rfl (by show 2 * 0 + _ ≤ _; exact Nat.le_of_eq rfl) (hb hby d22_2) (fun _ _ => ⟨rfl, e0, (by decide : 0 + 0 ≤ _), (by decide : 0 + 0 ≤ _)⟩)
  dsimp only [Pt.U, Pt.locs, Pt.cells, Pt.slots] at X1 l1 y1 z1 st1 hQ1
  subst l1 y1 z1
  obtain ⟨rfl, Nq1, e1⟩ := hQ1
  have N1 := Fr.app N0 Nq1
  obtain ⟨_, _, ⟨T2, L2, k2, n2⟩, -, X2, ⟨Lc2, hQ2, l2, y2, z2⟩, st2⟩ := Jvm.LawKit.callS X1 hx (y := mN12) hown (mvT hZ (tw hw 90 rfl)) (mvT hZ (tw hw 91 rfl)) (mvT hZ (tw hw 34 rfl)) (mvT hZ (tw hw 92 rfl)) (by decide) (backOf (W := 0) (rmgc_3_0 l Z a0 hw [] r0 k0 ch0 ch1 ch2 h0 n0 Z0 V0 hb_0 OA OH OL) hZ (tw hw 92 rfl) (tw hw 34 rfl) (by decide) (by decide)) (g := (mkF m 7 #[vr r0, vi 0] [(.int 0), (.ref r0)])) rfl (by rw [hml]; rfl) (argsL := [(.ref r0), (.int 0)]) (rest := []) (lenOf pd_7 rfl) rfl (by show 2 * 0 + _ ≤ _; exact Nat.le_of_eq rfl) (hb hby d22_7) (fun _ _ => ⟨rfl, e1, (by decide : 0 + 0 ≤ _), (by decide : 0 + 0 ≤ _)⟩)
  dsimp only [Pt.U, Pt.locs, Pt.cells, Pt.slots] at X2 l2 y2 z2 st2 hQ2
  subst l2 y2 z2
  obtain ⟨rfl, Nq2, e2⟩ := hQ2
  have N2 := Fr.app N1 Nq2
  obtain ⟨fs, hr, hrun, hended, hW, hsame⟩ := X2.leave (v := some (.int (nar .char ch0))) (fun h => by rw [Bd.returns] at h; cases h)
  refine ⟨_, _, pre0 _ ?_, hrun, hended, _, _, rfl, ?_, ⟨_, rfl⟩, hW, hsame.mono (by decide) (by decide)⟩
  · skip
    show SF p e below s₁ m 0 #[vr r0, vi 0] [] _
    refine XS.iloadN X0.here hx rfl (hb hby d22_0) rfl ?_
    refine XS.aloadN X0.here hx rfl (hb hby d22_1) rfl rfl ?_
    refine st1 _ ?_
    refine XS.aloadN X1.here hx rfl (hb hby d22_5) rfl rfl ?_
    refine XS.iloadN X1.here hx rfl (hb hby d22_6) rfl ?_
    show SF p e below T1 m 7 #[vr r0, vi 0] [(.int 0), (.ref r0)] _
    refine st2 _ ?_
    show SF p e below T2 m 10 #[vr r0, vi 0] [(.int ch0)] _
    exact retN X2 hx (t := .char) Bd.returns (by simp) (hb hby d22_10) hr
  · show Quc_3_0 Z r0 k0 ch0 ch1 ch2 G1 G3 h0 n0 _ T2.heap _
    rw [e2]
    exact ⟨congrArg (fun z => some (Value.int z)) (own_narcW hb_0), N2, rfl⟩
def Qca_3_0 (Z : State) (r0 : Addr) (ch0 : Int32) (ch1 : Int32) (ch2 : Int32) (G1 : Int32) (G3 : Value) (h0 : Heap) (n0 : Nat) (v : Option Value) (h : Heap) (L : List Loc) : Prop := v = some (.int ch0) ∧ Fr n0 L ∧ h = h0
set_option maxRecDepth 65536 in
set_option maxHeartbeats 40000000 in
theorem rmca_3_0 (l : Launch) (Z : State) (a0 : Array Value) (hw : ∀ d ∈ tables_1, d.before a0 Z = true) (ws : List Jvm.Cond) (r0 : Addr) (ch0 : Int32) (ch1 : Int32) (ch2 : Int32) (G1 : Int32) (G3 : Value) (h0 : Heap) (n0 : Nat) (Z0 : n0 ≤ h0.size) (S0 : OW Z h0 r0 (6 : Int32) [(.int (loB ch0)), (.int (hiB ch0)), (.int (loB ch1)), (.int (hiB ch1)), (.int (loB ch2)), (.int (hiB ch2))]) (hb_0 : 0 ≤ ch0.toInt ∧ ch0.toInt ≤ 65535) (O2 : sC Z h0 G1) (P5 : ¬ (G1 = (0 : Int32))) (O4 : sI Z h0 G3) (rG3 : G3.isRef = true) (OA : sA Z h0) (OH : sH Z h0) (OL : sL Z h0) :
    MF l Z mN23 jdk_42_method_56_code 2 (some .char) ws (rK 4 0 0 53) #[(.ref r0), (.int 0)] h0 (Qca_3_0 Z r0 ch0 ch1 ch2 G1 G3 h0 n0) := by
  refine MetFree.of_bodySF (plainFor_of_name pn_java_lang_String) hisR ?_
  intro p e s m args below meth c s₁ Bd hml0 hP hK
  obtain ⟨rfl, hZ, hh⟩ := hP
  have hx := Bd.exec
  have hby := Bd.bytes
  have hml : c.maxLocals = 2 := hml0
  have hown : s.vm.findClass "java/lang/String" = some m.cls := findClass_of_methodNamed Bd.named
  have hnm := (name_of_methodNamed Bd.named Bd.method).1
  have X0 : Stand p l e (rK 4 0 0 53) s m #[(.ref r0), (.int 0)] below meth c s₁ [] 0 0 := Stand.of_body Bd
  have e0 : s₁.heap = h0 := by rw [← hh, Bd.state]; rfl
  have N0 := Fr.nil n0
  have pre0 : ∀ t, SF p e below s₁ m 0 #[vr r0, vi 0] [] t → Steps p.tables e below (s₁.setTop (entryFrame m #[(.ref r0), (.int 0)] 2)) t := fun t k => castTop (ef_10 m r0 (0 : Int32)) k
  obtain ⟨t1, k1, E1, V1, C1, A1⟩ := id S0
  obtain ⟨cq2, kq2, q2a, q2b, q2c⟩ := isOf hZ e0 E1
  obtain ⟨_, _, ⟨T2, L2, k2, n2⟩, -, X2, ⟨Lc2, hQ2, l2, y2, z2⟩, st2⟩ := X0.virtualBack hx (y := mN17) (z := mN17) hown (mvT hZ (tw hw 51 rfl)) (mvT hZ (tw hw 52 rfl)) (notFace_of_selects (args := #[]) (mvT hZ (tw hw 54 rfl))) (mvT hZ (tw hw 54 rfl)) (mvT hZ (tw hw 53 rfl)) (by decide) (backOf (W := 0) (rmlat l Z a0 hw [] r0 G1 G3 h0 n0 Z0 O2 P5 O4 rG3 C1) hZ (tw hw 55 rfl) (tw hw 3 rfl) (by decide) (by decide)) q2a q2c (g := (mkF m 1 #[vr r0, vi 0] [(.ref r0)])) rfl (by rw [hml]; rfl) (Steps.refl _) (argsL := []) (rest := []) (lenOf pd_13 rfl) rfl (by show 2 * 0 + _ ≤ _; exact Nat.le_of_eq rfl) (hb hby d10_1) (fun _ _ => ⟨rfl, e0, (by decide : 0 + 0 ≤ _), (by decide : 0 + 0 ≤ _)⟩)
  dsimp only [Pt.U, Pt.locs, Pt.cells, Pt.slots] at X2 l2 y2 z2 st2 hQ2
  subst l2 y2 z2
  obtain ⟨rfl, Nq2, e2⟩ := hQ2
  have N2 := Fr.app N0 Nq2
  have hc3 : (0 : Int32) = (0 : Int32) := by decide
  obtain ⟨T4, X4, e4, st4⟩ := getF X2 hx hZ hown (host := "") (Or.inl (tw hw 20 rfl)) Via.refl e2 V1 (g := (mkF m 17 #[vr r0, vi 0] [(.ref r0)])) rfl rfl (hb hby d10_17)
  obtain ⟨_, _, ⟨T5, L5, k5, n5⟩, -, X5, ⟨Lc5, hQ5, l5, y5, z5⟩, st5⟩ := Jvm.LawKit.callS X4 hx (y := mN22) hown (mvT hZ (tw hw 93 rfl)) (mvT hZ (tw hw 94 rfl)) (mvT hZ (tw hw 34 rfl)) (mvT hZ (tw hw 95 rfl)) (by decide) (backOf (W := 0) (rmuc_3_0 l Z a0 hw [] t1 k1 ch0 ch1 ch2 G1 G3 h0 n0 Z0 A1 hb_0 O2 P5 O4 rG3 OA OH OL) hZ (tw hw 95 rfl) (tw hw 34 rfl) (by decide) (by decide)) (g := (mkF m 21 #[vr r0, vi 0] [(.int 0), (.ref t1)])) rfl (by rw [hml]; rfl) (argsL := [(.ref t1), (.int 0)]) (rest := []) (lenOf pd_7 rfl) rfl (by show 2 * 0 + _ ≤ _; exact Nat.le_of_eq rfl) (hb hby d10_21) (fun _ _ => ⟨rfl, e4, (by decide : 0 + 0 ≤ _), (by decide : 0 + 0 ≤ _)⟩)
  dsimp only [Pt.U, Pt.locs, Pt.cells, Pt.slots] at X5 l5 y5 z5 st5 hQ5
  subst l5 y5 z5
  obtain ⟨rfl, Nq5, e5⟩ := hQ5
  have N5 := Fr.app N2 Nq5
  obtain ⟨fs, hr, hrun, hended, hW, hsame⟩ := X5.leave (v := some (.int (nar .char ch0))) (fun h => by rw [Bd.returns] at h; cases h)
  refine ⟨_, _, pre0 _ ?_, hrun, hended, _, _, rfl, ?_, ⟨_, rfl⟩, hW, hsame.mono (by decide) (by decide)⟩
  · skip
    show SF p e below s₁ m 0 #[vr r0, vi 0] [] _
    refine XS.aloadN X0.here hx rfl (hb hby d10_0) rfl rfl ?_
    refine st2.trans ?_
    refine XS.ifYes X2.here hx rfl (pc0 := 4) (pc' := 16) rfl (hb hby d10_4) rfl ((if0 _ _).trans (teq hc3).1) (by decide) (by decide) ?_
    refine XS.aloadN X2.here hx rfl (hb hby d10_16) rfl rfl ?_
    refine st4 _ ?_
    show SF p e below T4 m 20 #[vr r0, vi 0] [(.ref t1)] _
    refine XS.iloadN X4.here hx rfl (hb hby d10_20) rfl ?_
    refine st5 _ ?_
    show SF p e below T5 m 24 #[vr r0, vi 0] [(.int ch0)] _
    exact retN X5 hx (t := .char) Bd.returns (by simp) (hb hby d10_24) hr
  · show Qca_3_0 Z r0 ch0 ch1 ch2 G1 G3 h0 n0 _ T5.heap _
    rw [e5]
    exact ⟨congrArg (fun z => some (Value.int z)) (own_narcW hb_0), N5, rfl⟩
def Qui_3_1 (Z : State) (r1 : Addr) (k0 : ClassId) (ch0 : Int32) (ch1 : Int32) (ch2 : Int32) (G1 : Int32) (G3 : Value) (h0 : Heap) (n0 : Nat) (v : Option Value) (h : Heap) (L : List Loc) : Prop := v = none ∧ Fr n0 L ∧ h = h0
set_option maxRecDepth 65536 in
set_option maxHeartbeats 40000000 in
theorem rmui_3_1 (l : Launch) (Z : State) (a0 : Array Value) (hw : ∀ d ∈ tables_1, d.before a0 Z = true) (ws : List Jvm.Cond) (r1 : Addr) (k0 : ClassId) (ch0 : Int32) (ch1 : Int32) (ch2 : Int32) (G1 : Int32) (G3 : Value) (h0 : Heap) (n0 : Nat) (Z0 : n0 ≤ h0.size) (V0 : Arv Z h0 r1 k0 .byte (6 : Int32) [(.int (loB ch0)), (.int (hiB ch0)), (.int (loB ch1)), (.int (hiB ch1)), (.int (loB ch2)), (.int (hiB ch2))] (.int 0)) (O2 : sC Z h0 G1) (P5 : ¬ (G1 = (0 : Int32))) (O4 : sI Z h0 G3) (rG3 : G3.isRef = true) :
    MF l Z mN21 jdk_52_method_91_code 2 none ws (rK 2 0 0 27) #[(.int 1), (.ref r1)] h0 (Qui_3_1 Z r1 k0 ch0 ch1 ch2 G1 G3 h0 n0) := by
  refine MetFree.of_bodySF (plainFor_of_name pn_java_lang_StringUTF16) hisR ?_
  intro p e s m args below meth c s₁ Bd hml0 hP hK
  obtain ⟨rfl, hZ, hh⟩ := hP
  have hx := Bd.exec
  have hby := Bd.bytes
  have hml : c.maxLocals = 2 := hml0
  have hown : s.vm.findClass "java/lang/StringUTF16" = some m.cls := findClass_of_methodNamed Bd.named
  have hnm := (name_of_methodNamed Bd.named Bd.method).1
  have X0 : Stand p l e (rK 2 0 0 27) s m #[(.int 1), (.ref r1)] below meth c s₁ [] 0 0 := Stand.of_body Bd
  have e0 : s₁.heap = h0 := by rw [← hh, Bd.state]; rfl
  have N0 := Fr.nil n0
  have pre0 : ∀ t, SF p e below s₁ m 0 #[vi 1, vr r1] [] t → Steps p.tables e below (s₁.setTop (entryFrame m #[(.int 1), (.ref r1)] 2)) t := fun t k => castTop (ef_23 m (1 : Int32) r1) k
  obtain ⟨_, _, ⟨T1, L1, k1, n1⟩, -, X1, ⟨Lc1, hQ1, l1, y1, z1⟩, st1⟩ := Jvm.LawKit.callS X0 hx (y := mN20) hown (mvT hZ (tw hw 99 rfl)) (mvT hZ (tw hw 100 rfl)) (mvT hZ (tw hw 34 rfl)) (mvT hZ (tw hw 101 rfl)) (by decide) (backOf (W := 1) (rmul_3 l Z a0 hw [] r1 k0 ch0 ch1 ch2 h0 n0 Z0 V0) hZ (tw hw 101 rfl) (tw hw 34 rfl) (by decide) (by decide)) (g := (mkF m 2 #[vi 1, vr r1] [(.ref r1), (.int 1)])) rfl (by rw [hml]; rfl) (argsL := [(.ref r1)]) (rest := [(.int 1)]) (lenOf pd_10 rfl) rfl (by show 2 * 0 + _ ≤ _; exact Nat.le_of_eq rfl) (hb hby d23_2) (fun _ _ => ⟨rfl, e0, (by decide : 0 + 0 ≤ _), (by decide : 0 + 0 ≤ _)⟩)
  dsimp only [Pt.U, Pt.locs, Pt.cells, Pt.slots] at X1 l1 y1 z1 st1 hQ1
  subst l1 y1 z1
  obtain ⟨rfl, Nq1, e1⟩ := hQ1
  have N1 := Fr.app N0 Nq1
  obtain ⟨_, _, ⟨T2, L2, k2, n2⟩, -, X2, ⟨Lc2, hQ2, l2, y2, z2⟩, st2⟩ := Jvm.LawKit.callS X1 hx (y := mN19) hown (mvT hZ (tw hw 102 rfl)) (mvT hZ (tw hw 61 rfl)) (mvT hZ (tw hw 3 rfl)) (mvT hZ (tw hw 62 rfl)) (by decide) (backOf (W := 0) (rmci l Z a0 hw [] (1 : Int32) (3 : Int32) G3 h0 n0 Z0 (by decide) (by decide) O4 rG3) hZ (tw hw 62 rfl) (tw hw 3 rfl) (by decide) (by decide)) (g := (mkF m 5 #[vi 1, vr r1] [(.int 3), (.int 1)])) rfl (by rw [hml]; rfl) (argsL := [(.int 1), (.int 3)]) (rest := []) (lenOf pd_11 rfl) rfl (by show 2 * 0 + _ ≤ _; exact Nat.le_of_eq rfl) (hb hby d23_5) (fun _ _ => ⟨rfl, e1, (by decide : 0 + 0 ≤ _), (by decide : 0 + 0 ≤ _)⟩)
  dsimp only [Pt.U, Pt.locs, Pt.cells, Pt.slots] at X2 l2 y2 z2 st2 hQ2
  subst l2 y2 z2
  obtain ⟨rfl, Nq2, e2⟩ := hQ2
  have N2 := Fr.app N1 Nq2
  obtain ⟨fs, hr, hrun, hended, hW, hsame⟩ := X2.leave (v := none) (fun _ => rfl)
  refine ⟨_, _, pre0 _ ?_, hrun, hended, _, _, rfl, ?_, ⟨_, rfl⟩, hW, hsame.mono (by decide) (by decide)⟩
  · skip
    show SF p e below s₁ m 0 #[vi 1, vr r1] [] _
    refine XS.iloadN X0.here hx rfl (hb hby d23_0) rfl ?_
    refine XS.aloadN X0.here hx rfl (hb hby d23_1) rfl rfl ?_
    refine st1 _ ?_
    refine st2 _ ?_
    show SF p e below T2 m 8 #[vi 1, vr r1] [] _
    exact X2.returnOut hx Bd.returns (hb hby d23_8) hr
  · show Qui_3_1 Z r1 k0 ch0 ch1 ch2 G1 G3 h0 n0 _ T2.heap _
    rw [e2]
    exact ⟨rfl, N2, rfl⟩
def Quc_3_1 (Z : State) (r0 : Addr) (k0 : ClassId) (ch0 : Int32) (ch1 : Int32) (ch2 : Int32) (G1 : Int32) (G3 : Value) (h0 : Heap) (n0 : Nat) (v : Option Value) (h : Heap) (L : List Loc) : Prop := v = some (.int ch1) ∧ Fr n0 L ∧ h = h0
set_option maxRecDepth 65536 in
set_option maxHeartbeats 40000000 in
theorem rmuc_3_1 (l : Launch) (Z : State) (a0 : Array Value) (hw : ∀ d ∈ tables_1, d.before a0 Z = true) (ws : List Jvm.Cond) (r0 : Addr) (k0 : ClassId) (ch0 : Int32) (ch1 : Int32) (ch2 : Int32) (G1 : Int32) (G3 : Value) (h0 : Heap) (n0 : Nat) (Z0 : n0 ≤ h0.size) (V0 : Arv Z h0 r0 k0 .byte (6 : Int32) [(.int (loB ch0)), (.int (hiB ch0)), (.int (loB ch1)), (.int (hiB ch1)), (.int (loB ch2)), (.int (hiB ch2))] (.int 0)) (hb_1 : 0 ≤ ch1.toInt ∧ ch1.toInt ≤ 65535) (O2 : sC Z h0 G1) (P5 : ¬ (G1 = (0 : Int32))) (O4 : sI Z h0 G3) (rG3 : G3.isRef = true) (OA : sA Z h0) (OH : sH Z h0) (OL : sL Z h0) :
    MF l Z mN22 jdk_52_method_83_code 2 (some .char) ws (rK 3 0 0 40) #[(.ref r0), (.int 1)] h0 (Quc_3_1 Z r0 k0 ch0 ch1 ch2 G1 G3 h0 n0) := by
  refine MetFree.of_bodySF (plainFor_of_name pn_java_lang_StringUTF16) hisR ?_
  intro p e s m args below meth c s₁ Bd hml0 hP hK
  obtain ⟨rfl, hZ, hh⟩ := hP
  have hx := Bd.exec
  have hby := Bd.bytes
  have hml : c.maxLocals = 2 := hml0
  have hown : s.vm.findClass "java/lang/StringUTF16" = some m.cls := findClass_of_methodNamed Bd.named
  have hnm := (name_of_methodNamed Bd.named Bd.method).1
  have X0 : Stand p l e (rK 3 0 0 40) s m #[(.ref r0), (.int 1)] below meth c s₁ [] 0 0 := Stand.of_body Bd
  have e0 : s₁.heap = h0 := by rw [← hh, Bd.state]; rfl
  have N0 := Fr.nil n0
  have pre0 : ∀ t, SF p e below s₁ m 0 #[vr r0, vi 1] [] t → Steps p.tables e below (s₁.setTop (entryFrame m #[(.ref r0), (.int 1)] 2)) t := fun t k => castTop (ef_22 m r0 (1 : Int32)) k
  obtain ⟨_, _, ⟨T1, L1, k1, n1⟩, -, X1, ⟨Lc1, hQ1, l1, y1, z1⟩, st1⟩ := Jvm.LawKit.callS X0 hx (y := mN21) hown (mvT hZ (tw hw 96 rfl)) (mvT hZ (tw hw 97 rfl)) (mvT hZ (tw hw 34 rfl)) (mvT hZ (tw hw 98 rfl)) (by decide) (backOf (W := 0) (rmui_3_1 l Z a0 hw [] r0 k0 ch0 ch1 ch2 G1 G3 h0 n0 Z0 V0 O2 P5 O4 rG3) hZ (tw hw 98 rfl) (tw hw 34 rfl) (by decide) (by decide)) (g := (mkF m 2 #[vr r0, vi 1] [(.ref r0), (.int 1)])) rfl (by rw [hml]; rfl) (argsL := [(.int 1), (.ref r0)]) (rest := []) (lenOf pd_12 rfl) rfl (by show 2 * 0 + _ ≤ _; exact Nat.le_of_eq rfl) (hb hby d22_2) (fun _ _ => ⟨rfl, e0, (by decide : 0 + 0 ≤ _), (by decide : 0 + 0 ≤ _)⟩)
  dsimp only [Pt.U, Pt.locs, Pt.cells, Pt.slots] at X1 l1 y1 z1 st1 hQ1
  subst l1 y1 z1
  obtain ⟨rfl, Nq1, e1⟩ := hQ1
  have N1 := Fr.app N0 Nq1
  obtain ⟨_, _, ⟨T2, L2, k2, n2⟩, -, X2, ⟨Lc2, hQ2, l2, y2, z2⟩, st2⟩ := Jvm.LawKit.callS X1 hx (y := mN12) hown (mvT hZ (tw hw 90 rfl)) (mvT hZ (tw hw 91 rfl)) (mvT hZ (tw hw 34 rfl)) (mvT hZ (tw hw 92 rfl)) (by decide) (backOf (W := 0) (rmgc_3_1 l Z a0 hw [] r0 k0 ch0 ch1 ch2 h0 n0 Z0 V0 hb_1 OA OH OL) hZ (tw hw 92 rfl) (tw hw 34 rfl) (by decide) (by decide)) (g := (mkF m 7 #[vr r0, vi 1] [(.int 1), (.ref r0)])) rfl (by rw [hml]; rfl) (argsL := [(.ref r0), (.int 1)]) (rest := []) (lenOf pd_7 rfl) rfl (by show 2 * 0 + _ ≤ _; exact Nat.le_of_eq rfl) (hb hby d22_7) (fun _ _ => ⟨rfl, e1, (by decide : 0 + 0 ≤ _), (by decide : 0 + 0 ≤ _)⟩)
  dsimp only [Pt.U, Pt.locs, Pt.cells, Pt.slots] at X2 l2 y2 z2 st2 hQ2
  subst l2 y2 z2
  obtain ⟨rfl, Nq2, e2⟩ := hQ2
  have N2 := Fr.app N1 Nq2
  obtain ⟨fs, hr, hrun, hended, hW, hsame⟩ := X2.leave (v := some (.int (nar .char ch1))) (fun h => by rw [Bd.returns] at h; cases h)
  refine ⟨_, _, pre0 _ ?_, hrun, hended, _, _, rfl, ?_, ⟨_, rfl⟩, hW, hsame.mono (by decide) (by decide)⟩
  · skip
    show SF p e below s₁ m 0 #[vr r0, vi 1] [] _
    refine XS.iloadN X0.here hx rfl (hb hby d22_0) rfl ?_
    refine XS.aloadN X0.here hx rfl (hb hby d22_1) rfl rfl ?_
    refine st1 _ ?_
    refine XS.aloadN X1.here hx rfl (hb hby d22_5) rfl rfl ?_
    refine XS.iloadN X1.here hx rfl (hb hby d22_6) rfl ?_
    show SF p e below T1 m 7 #[vr r0, vi 1] [(.int 1), (.ref r0)] _
    refine st2 _ ?_
    show SF p e below T2 m 10 #[vr r0, vi 1] [(.int ch1)] _
    exact retN X2 hx (t := .char) Bd.returns (by simp) (hb hby d22_10) hr
  · show Quc_3_1 Z r0 k0 ch0 ch1 ch2 G1 G3 h0 n0 _ T2.heap _
    rw [e2]
    exact ⟨congrArg (fun z => some (Value.int z)) (own_narcW hb_1), N2, rfl⟩
def Qca_3_1 (Z : State) (r0 : Addr) (ch0 : Int32) (ch1 : Int32) (ch2 : Int32) (G1 : Int32) (G3 : Value) (h0 : Heap) (n0 : Nat) (v : Option Value) (h : Heap) (L : List Loc) : Prop := v = some (.int ch1) ∧ Fr n0 L ∧ h = h0
set_option maxRecDepth 65536 in
set_option maxHeartbeats 40000000 in
theorem rmca_3_1 (l : Launch) (Z : State) (a0 : Array Value) (hw : ∀ d ∈ tables_1, d.before a0 Z = true) (ws : List Jvm.Cond) (r0 : Addr) (ch0 : Int32) (ch1 : Int32) (ch2 : Int32) (G1 : Int32) (G3 : Value) (h0 : Heap) (n0 : Nat) (Z0 : n0 ≤ h0.size) (S0 : OW Z h0 r0 (6 : Int32) [(.int (loB ch0)), (.int (hiB ch0)), (.int (loB ch1)), (.int (hiB ch1)), (.int (loB ch2)), (.int (hiB ch2))]) (hb_1 : 0 ≤ ch1.toInt ∧ ch1.toInt ≤ 65535) (O2 : sC Z h0 G1) (P5 : ¬ (G1 = (0 : Int32))) (O4 : sI Z h0 G3) (rG3 : G3.isRef = true) (OA : sA Z h0) (OH : sH Z h0) (OL : sL Z h0) :
    MF l Z mN23 jdk_42_method_56_code 2 (some .char) ws (rK 4 0 0 53) #[(.ref r0), (.int 1)] h0 (Qca_3_1 Z r0 ch0 ch1 ch2 G1 G3 h0 n0) := by
  refine MetFree.of_bodySF (plainFor_of_name pn_java_lang_String) hisR ?_
  intro p e s m args below meth c s₁ Bd hml0 hP hK
  obtain ⟨rfl, hZ, hh⟩ := hP
  have hx := Bd.exec
  have hby := Bd.bytes
  have hml : c.maxLocals = 2 := hml0
  have hown : s.vm.findClass "java/lang/String" = some m.cls := findClass_of_methodNamed Bd.named
  have hnm := (name_of_methodNamed Bd.named Bd.method).1
  have X0 : Stand p l e (rK 4 0 0 53) s m #[(.ref r0), (.int 1)] below meth c s₁ [] 0 0 := Stand.of_body Bd
  have e0 : s₁.heap = h0 := by rw [← hh, Bd.state]; rfl
  have N0 := Fr.nil n0
  have pre0 : ∀ t, SF p e below s₁ m 0 #[vr r0, vi 1] [] t → Steps p.tables e below (s₁.setTop (entryFrame m #[(.ref r0), (.int 1)] 2)) t := fun t k => castTop (ef_10 m r0 (1 : Int32)) k
  obtain ⟨t1, k1, E1, V1, C1, A1⟩ := id S0
  obtain ⟨cq2, kq2, q2a, q2b, q2c⟩ := isOf hZ e0 E1
  obtain ⟨_, _, ⟨T2, L2, k2, n2⟩, -, X2, ⟨Lc2, hQ2, l2, y2, z2⟩, st2⟩ := X0.virtualBack hx (y := mN17) (z := mN17) hown (mvT hZ (tw hw 51 rfl)) (mvT hZ (tw hw 52 rfl)) (notFace_of_selects (args := #[]) (mvT hZ (tw hw 54 rfl))) (mvT hZ (tw hw 54 rfl)) (mvT hZ (tw hw 53 rfl)) (by decide) (backOf (W := 0) (rmlat l Z a0 hw [] r0 G1 G3 h0 n0 Z0 O2 P5 O4 rG3 C1) hZ (tw hw 55 rfl) (tw hw 3 rfl) (by decide) (by decide)) q2a q2c (g := (mkF m 1 #[vr r0, vi 1] [(.ref r0)])) rfl (by rw [hml]; rfl) (Steps.refl _) (argsL := []) (rest := []) (lenOf pd_13 rfl) rfl (by show 2 * 0 + _ ≤ _; exact Nat.le_of_eq rfl) (hb hby d10_1) (fun _ _ => ⟨rfl, e0, (by decide : 0 + 0 ≤ _), (by decide : 0 + 0 ≤ _)⟩)
  dsimp only [Pt.U, Pt.locs, Pt.cells, Pt.slots] at X2 l2 y2 z2 st2 hQ2
  subst l2 y2 z2
  obtain ⟨rfl, Nq2, e2⟩ := hQ2
  have N2 := Fr.app N0 Nq2
  have hc3 : (0 : Int32) = (0 : Int32) := by decide
  obtain ⟨T4, X4, e4, st4⟩ := getF X2 hx hZ hown (host := "") (Or.inl (tw hw 20 rfl)) Via.refl e2 V1 (g := (mkF m 17 #[vr r0, vi 1] [(.ref r0)])) rfl rfl (hb hby d10_17)
  obtain ⟨_, _, ⟨T5, L5, k5, n5⟩, -, X5, ⟨Lc5, hQ5, l5, y5, z5⟩, st5⟩ := Jvm.LawKit.callS X4 hx (y := mN22) hown (mvT hZ (tw hw 93 rfl)) (mvT hZ (tw hw 94 rfl)) (mvT hZ (tw hw 34 rfl)) (mvT hZ (tw hw 95 rfl)) (by decide) (backOf (W := 0) (rmuc_3_1 l Z a0 hw [] t1 k1 ch0 ch1 ch2 G1 G3 h0 n0 Z0 A1 hb_1 O2 P5 O4 rG3 OA OH OL) hZ (tw hw 95 rfl) (tw hw 34 rfl) (by decide) (by decide)) (g := (mkF m 21 #[vr r0, vi 1] [(.int 1), (.ref t1)])) rfl (by rw [hml]; rfl) (argsL := [(.ref t1), (.int 1)]) (rest := []) (lenOf pd_7 rfl) rfl (by show 2 * 0 + _ ≤ _; exact Nat.le_of_eq rfl) (hb hby d10_21) (fun _ _ => ⟨rfl, e4, (by decide : 0 + 0 ≤ _), (by decide : 0 + 0 ≤ _)⟩)
  dsimp only [Pt.U, Pt.locs, Pt.cells, Pt.slots] at X5 l5 y5 z5 st5 hQ5
  subst l5 y5 z5
  obtain ⟨rfl, Nq5, e5⟩ := hQ5
  have N5 := Fr.app N2 Nq5
  obtain ⟨fs, hr, hrun, hended, hW, hsame⟩ := X5.leave (v := some (.int (nar .char ch1))) (fun h => by rw [Bd.returns] at h; cases h)
  refine ⟨_, _, pre0 _ ?_, hrun, hended, _, _, rfl, ?_, ⟨_, rfl⟩, hW, hsame.mono (by decide) (by decide)⟩
  · skip
    show SF p e below s₁ m 0 #[vr r0, vi 1] [] _
    refine XS.aloadN X0.here hx rfl (hb hby d10_0) rfl rfl ?_
    refine st2.trans ?_
    refine XS.ifYes X2.here hx rfl (pc0 := 4) (pc' := 16) rfl (hb hby d10_4) rfl ((if0 _ _).trans (teq hc3).1) (by decide) (by decide) ?_
    refine XS.aloadN X2.here hx rfl (hb hby d10_16) rfl rfl ?_
    refine st4 _ ?_
    show SF p e below T4 m 20 #[vr r0, vi 1] [(.ref t1)] _
    refine XS.iloadN X4.here hx rfl (hb hby d10_20) rfl ?_
    refine st5 _ ?_
    show SF p e below T5 m 24 #[vr r0, vi 1] [(.int ch1)] _
    exact retN X5 hx (t := .char) Bd.returns (by simp) (hb hby d10_24) hr
  · show Qca_3_1 Z r0 ch0 ch1 ch2 G1 G3 h0 n0 _ T5.heap _
    rw [e5]
    exact ⟨congrArg (fun z => some (Value.int z)) (own_narcW hb_1), N5, rfl⟩
def Qui_3_2 (Z : State) (r1 : Addr) (k0 : ClassId) (ch0 : Int32) (ch1 : Int32) (ch2 : Int32) (G1 : Int32) (G3 : Value) (h0 : Heap) (n0 : Nat) (v : Option Value) (h : Heap) (L : List Loc) : Prop := v = none ∧ Fr n0 L ∧ h = h0
set_option maxRecDepth 65536 in
set_option maxHeartbeats 40000000 in
theorem rmui_3_2 (l : Launch) (Z : State) (a0 : Array Value) (hw : ∀ d ∈ tables_1, d.before a0 Z = true) (ws : List Jvm.Cond) (r1 : Addr) (k0 : ClassId) (ch0 : Int32) (ch1 : Int32) (ch2 : Int32) (G1 : Int32) (G3 : Value) (h0 : Heap) (n0 : Nat) (Z0 : n0 ≤ h0.size) (V0 : Arv Z h0 r1 k0 .byte (6 : Int32) [(.int (loB ch0)), (.int (hiB ch0)), (.int (loB ch1)), (.int (hiB ch1)), (.int (loB ch2)), (.int (hiB ch2))] (.int 0)) (O2 : sC Z h0 G1) (P5 : ¬ (G1 = (0 : Int32))) (O4 : sI Z h0 G3) (rG3 : G3.isRef = true) :
    MF l Z mN21 jdk_52_method_91_code 2 none ws (rK 2 0 0 27) #[(.int 2), (.ref r1)] h0 (Qui_3_2 Z r1 k0 ch0 ch1 ch2 G1 G3 h0 n0) := by
  refine MetFree.of_bodySF (plainFor_of_name pn_java_lang_StringUTF16) hisR ?_
  intro p e s m args below meth c s₁ Bd hml0 hP hK
  obtain ⟨rfl, hZ, hh⟩ := hP
  have hx := Bd.exec
  have hby := Bd.bytes
  have hml : c.maxLocals = 2 := hml0
  have hown : s.vm.findClass "java/lang/StringUTF16" = some m.cls := findClass_of_methodNamed Bd.named
  have hnm := (name_of_methodNamed Bd.named Bd.method).1
  have X0 : Stand p l e (rK 2 0 0 27) s m #[(.int 2), (.ref r1)] below meth c s₁ [] 0 0 := Stand.of_body Bd
  have e0 : s₁.heap = h0 := by rw [← hh, Bd.state]; rfl
  have N0 := Fr.nil n0
  have pre0 : ∀ t, SF p e below s₁ m 0 #[vi 2, vr r1] [] t → Steps p.tables e below (s₁.setTop (entryFrame m #[(.int 2), (.ref r1)] 2)) t := fun t k => castTop (ef_23 m (2 : Int32) r1) k
  obtain ⟨_, _, ⟨T1, L1, k1, n1⟩, -, X1, ⟨Lc1, hQ1, l1, y1, z1⟩, st1⟩ := Jvm.LawKit.callS X0 hx (y := mN20) hown (mvT hZ (tw hw 99 rfl)) (mvT hZ (tw hw 100 rfl)) (mvT hZ (tw hw 34 rfl)) (mvT hZ (tw hw 101 rfl)) (by decide) (backOf (W := 1) (rmul_3 l Z a0 hw [] r1 k0 ch0 ch1 ch2 h0 n0 Z0 V0) hZ (tw hw 101 rfl) (tw hw 34 rfl) (by decide) (by decide)) (g := (mkF m 2 #[vi 2, vr r1] [(.ref r1), (.int 2)])) rfl (by rw [hml]; rfl) (argsL := [(.ref r1)]) (rest := [(.int 2)]) (lenOf pd_10 rfl) rfl (by show 2 * 0 + _ ≤ _; exact Nat.le_of_eq rfl) (hb hby d23_2) (fun _ _ => ⟨rfl, e0, (by decide : 0 + 0 ≤ _), (by decide : 0 + 0 ≤ _)⟩)
  dsimp only [Pt.U, Pt.locs, Pt.cells, Pt.slots] at X1 l1 y1 z1 st1 hQ1
  subst l1 y1 z1
  obtain ⟨rfl, Nq1, e1⟩ := hQ1
  have N1 := Fr.app N0 Nq1
  obtain ⟨_, _, ⟨T2, L2, k2, n2⟩, -, X2, ⟨Lc2, hQ2, l2, y2, z2⟩, st2⟩ := Jvm.LawKit.callS X1 hx (y := mN19) hown (mvT hZ (tw hw 102 rfl)) (mvT hZ (tw hw 61 rfl)) (mvT hZ (tw hw 3 rfl)) (mvT hZ (tw hw 62 rfl)) (by decide) (backOf (W := 0) (rmci l Z a0 hw [] (2 : Int32) (3 : Int32) G3 h0 n0 Z0 (by decide) (by decide) O4 rG3) hZ (tw hw 62 rfl) (tw hw 3 rfl) (by decide) (by decide)) (g := (mkF m 5 #[vi 2, vr r1] [(.int 3), (.int 2)])) rfl (by rw [hml]; rfl) (argsL := [(.int 2), (.int 3)]) (rest := []) (lenOf pd_11 rfl) rfl (by show 2 * 0 + _ ≤ _; exact Nat.le_of_eq rfl) (hb hby d23_5) (fun _ _ => ⟨rfl, e1, (by decide : 0 + 0 ≤ _), (by decide : 0 + 0 ≤ _)⟩)
  dsimp only [Pt.U, Pt.locs, Pt.cells, Pt.slots] at X2 l2 y2 z2 st2 hQ2
  subst l2 y2 z2
  obtain ⟨rfl, Nq2, e2⟩ := hQ2
  have N2 := Fr.app N1 Nq2
  obtain ⟨fs, hr, hrun, hended, hW, hsame⟩ := X2.leave (v := none) (fun _ => rfl)
  refine ⟨_, _, pre0 _ ?_, hrun, hended, _, _, rfl, ?_, ⟨_, rfl⟩, hW, hsame.mono (by decide) (by decide)⟩
  · skip
    show SF p e below s₁ m 0 #[vi 2, vr r1] [] _
    refine XS.iloadN X0.here hx rfl (hb hby d23_0) rfl ?_
    refine XS.aloadN X0.here hx rfl (hb hby d23_1) rfl rfl ?_
    refine st1 _ ?_
    refine st2 _ ?_
    show SF p e below T2 m 8 #[vi 2, vr r1] [] _
    exact X2.returnOut hx Bd.returns (hb hby d23_8) hr
  · show Qui_3_2 Z r1 k0 ch0 ch1 ch2 G1 G3 h0 n0 _ T2.heap _
    rw [e2]
    exact ⟨rfl, N2, rfl⟩
def Quc_3_2 (Z : State) (r0 : Addr) (k0 : ClassId) (ch0 : Int32) (ch1 : Int32) (ch2 : Int32) (G1 : Int32) (G3 : Value) (h0 : Heap) (n0 : Nat) (v : Option Value) (h : Heap) (L : List Loc) : Prop := v = some (.int ch2) ∧ Fr n0 L ∧ h = h0
set_option maxRecDepth 65536 in
set_option maxHeartbeats 40000000 in
theorem rmuc_3_2 (l : Launch) (Z : State) (a0 : Array Value) (hw : ∀ d ∈ tables_1, d.before a0 Z = true) (ws : List Jvm.Cond) (r0 : Addr) (k0 : ClassId) (ch0 : Int32) (ch1 : Int32) (ch2 : Int32) (G1 : Int32) (G3 : Value) (h0 : Heap) (n0 : Nat) (Z0 : n0 ≤ h0.size) (V0 : Arv Z h0 r0 k0 .byte (6 : Int32) [(.int (loB ch0)), (.int (hiB ch0)), (.int (loB ch1)), (.int (hiB ch1)), (.int (loB ch2)), (.int (hiB ch2))] (.int 0)) (hb_2 : 0 ≤ ch2.toInt ∧ ch2.toInt ≤ 65535) (O2 : sC Z h0 G1) (P5 : ¬ (G1 = (0 : Int32))) (O4 : sI Z h0 G3) (rG3 : G3.isRef = true) (OA : sA Z h0) (OH : sH Z h0) (OL : sL Z h0) :
    MF l Z mN22 jdk_52_method_83_code 2 (some .char) ws (rK 3 0 0 40) #[(.ref r0), (.int 2)] h0 (Quc_3_2 Z r0 k0 ch0 ch1 ch2 G1 G3 h0 n0) := by
  refine MetFree.of_bodySF (plainFor_of_name pn_java_lang_StringUTF16) hisR ?_
  intro p e s m args below meth c s₁ Bd hml0 hP hK
  obtain ⟨rfl, hZ, hh⟩ := hP
  have hx := Bd.exec
  have hby := Bd.bytes
  have hml : c.maxLocals = 2 := hml0
  have hown : s.vm.findClass "java/lang/StringUTF16" = some m.cls := findClass_of_methodNamed Bd.named
  have hnm := (name_of_methodNamed Bd.named Bd.method).1
  have X0 : Stand p l e (rK 3 0 0 40) s m #[(.ref r0), (.int 2)] below meth c s₁ [] 0 0 := Stand.of_body Bd
  have e0 : s₁.heap = h0 := by rw [← hh, Bd.state]; rfl
  have N0 := Fr.nil n0
  have pre0 : ∀ t, SF p e below s₁ m 0 #[vr r0, vi 2] [] t → Steps p.tables e below (s₁.setTop (entryFrame m #[(.ref r0), (.int 2)] 2)) t := fun t k => castTop (ef_22 m r0 (2 : Int32)) k
  obtain ⟨_, _, ⟨T1, L1, k1, n1⟩, -, X1, ⟨Lc1, hQ1, l1, y1, z1⟩, st1⟩ := Jvm.LawKit.callS X0 hx (y := mN21) hown (mvT hZ (tw hw 96 rfl)) (mvT hZ (tw hw 97 rfl)) (mvT hZ (tw hw 34 rfl)) (mvT hZ (tw hw 98 rfl)) (by decide) (backOf (W := 0) (rmui_3_2 l Z a0 hw [] r0 k0 ch0 ch1 ch2 G1 G3 h0 n0 Z0 V0 O2 P5 O4 rG3) hZ (tw hw 98 rfl) (tw hw 34 rfl) (by decide) (by decide)) (g := (mkF m 2 #[vr r0, vi 2] [(.ref r0), (.int 2)])) rfl (by rw [hml]; rfl) (argsL := [(.int 2), (.ref r0)]) (rest := []) (lenOf pd_12 rfl) rfl (by show 2 * 0 + _ ≤ _; exact Nat.le_of_eq rfl) (hb hby d22_2) (fun _ _ => ⟨rfl, e0, (by decide : 0 + 0 ≤ _), (by decide : 0 + 0 ≤ _)⟩)
  dsimp only [Pt.U, Pt.locs, Pt.cells, Pt.slots] at X1 l1 y1 z1 st1 hQ1
  subst l1 y1 z1
  obtain ⟨rfl, Nq1, e1⟩ := hQ1
  have N1 := Fr.app N0 Nq1
  obtain ⟨_, _, ⟨T2, L2, k2, n2⟩, -, X2, ⟨Lc2, hQ2, l2, y2, z2⟩, st2⟩ := Jvm.LawKit.callS X1 hx (y := mN12) hown (mvT hZ (tw hw 90 rfl)) (mvT hZ (tw hw 91 rfl)) (mvT hZ (tw hw 34 rfl)) (mvT hZ (tw hw 92 rfl)) (by decide) (backOf (W := 0) (rmgc_3_2 l Z a0 hw [] r0 k0 ch0 ch1 ch2 h0 n0 Z0 V0 hb_2 OA OH OL) hZ (tw hw 92 rfl) (tw hw 34 rfl) (by decide) (by decide)) (g := (mkF m 7 #[vr r0, vi 2] [(.int 2), (.ref r0)])) rfl (by rw [hml]; rfl) (argsL := [(.ref r0), (.int 2)]) (rest := []) (lenOf pd_7 rfl) rfl (by show 2 * 0 + _ ≤ _; exact Nat.le_of_eq rfl) (hb hby d22_7) (fun _ _ => ⟨rfl, e1, (by decide : 0 + 0 ≤ _), (by decide : 0 + 0 ≤ _)⟩)
  dsimp only [Pt.U, Pt.locs, Pt.cells, Pt.slots] at X2 l2 y2 z2 st2 hQ2
  subst l2 y2 z2
  obtain ⟨rfl, Nq2, e2⟩ := hQ2
  have N2 := Fr.app N1 Nq2
  obtain ⟨fs, hr, hrun, hended, hW, hsame⟩ := X2.leave (v := some (.int (nar .char ch2))) (fun h => by rw [Bd.returns] at h; cases h)
  refine ⟨_, _, pre0 _ ?_, hrun, hended, _, _, rfl, ?_, ⟨_, rfl⟩, hW, hsame.mono (by decide) (by decide)⟩
  · skip
    show SF p e below s₁ m 0 #[vr r0, vi 2] [] _
    refine XS.iloadN X0.here hx rfl (hb hby d22_0) rfl ?_
    refine XS.aloadN X0.here hx rfl (hb hby d22_1) rfl rfl ?_
    refine st1 _ ?_
    refine XS.aloadN X1.here hx rfl (hb hby d22_5) rfl rfl ?_
    refine XS.iloadN X1.here hx rfl (hb hby d22_6) rfl ?_
    show SF p e below T1 m 7 #[vr r0, vi 2] [(.int 2), (.ref r0)] _
    refine st2 _ ?_
    show SF p e below T2 m 10 #[vr r0, vi 2] [(.int ch2)] _
    exact retN X2 hx (t := .char) Bd.returns (by simp) (hb hby d22_10) hr
  · show Quc_3_2 Z r0 k0 ch0 ch1 ch2 G1 G3 h0 n0 _ T2.heap _
    rw [e2]
    exact ⟨congrArg (fun z => some (Value.int z)) (own_narcW hb_2), N2, rfl⟩
def Qca_3_2 (Z : State) (r0 : Addr) (ch0 : Int32) (ch1 : Int32) (ch2 : Int32) (G1 : Int32) (G3 : Value) (h0 : Heap) (n0 : Nat) (v : Option Value) (h : Heap) (L : List Loc) : Prop := v = some (.int ch2) ∧ Fr n0 L ∧ h = h0
set_option maxRecDepth 65536 in
set_option maxHeartbeats 40000000 in
theorem rmca_3_2 (l : Launch) (Z : State) (a0 : Array Value) (hw : ∀ d ∈ tables_1, d.before a0 Z = true) (ws : List Jvm.Cond) (r0 : Addr) (ch0 : Int32) (ch1 : Int32) (ch2 : Int32) (G1 : Int32) (G3 : Value) (h0 : Heap) (n0 : Nat) (Z0 : n0 ≤ h0.size) (S0 : OW Z h0 r0 (6 : Int32) [(.int (loB ch0)), (.int (hiB ch0)), (.int (loB ch1)), (.int (hiB ch1)), (.int (loB ch2)), (.int (hiB ch2))]) (hb_2 : 0 ≤ ch2.toInt ∧ ch2.toInt ≤ 65535) (O2 : sC Z h0 G1) (P5 : ¬ (G1 = (0 : Int32))) (O4 : sI Z h0 G3) (rG3 : G3.isRef = true) (OA : sA Z h0) (OH : sH Z h0) (OL : sL Z h0) :
    MF l Z mN23 jdk_42_method_56_code 2 (some .char) ws (rK 4 0 0 53) #[(.ref r0), (.int 2)] h0 (Qca_3_2 Z r0 ch0 ch1 ch2 G1 G3 h0 n0) := by
  refine MetFree.of_bodySF (plainFor_of_name pn_java_lang_String) hisR ?_
  intro p e s m args below meth c s₁ Bd hml0 hP hK
  obtain ⟨rfl, hZ, hh⟩ := hP
  have hx := Bd.exec
  have hby := Bd.bytes
  have hml : c.maxLocals = 2 := hml0
  have hown : s.vm.findClass "java/lang/String" = some m.cls := findClass_of_methodNamed Bd.named
  have hnm := (name_of_methodNamed Bd.named Bd.method).1
  have X0 : Stand p l e (rK 4 0 0 53) s m #[(.ref r0), (.int 2)] below meth c s₁ [] 0 0 := Stand.of_body Bd
  have e0 : s₁.heap = h0 := by rw [← hh, Bd.state]; rfl
  have N0 := Fr.nil n0
  have pre0 : ∀ t, SF p e below s₁ m 0 #[vr r0, vi 2] [] t → Steps p.tables e below (s₁.setTop (entryFrame m #[(.ref r0), (.int 2)] 2)) t := fun t k => castTop (ef_10 m r0 (2 : Int32)) k
  obtain ⟨t1, k1, E1, V1, C1, A1⟩ := id S0
  obtain ⟨cq2, kq2, q2a, q2b, q2c⟩ := isOf hZ e0 E1
  obtain ⟨_, _, ⟨T2, L2, k2, n2⟩, -, X2, ⟨Lc2, hQ2, l2, y2, z2⟩, st2⟩ := X0.virtualBack hx (y := mN17) (z := mN17) hown (mvT hZ (tw hw 51 rfl)) (mvT hZ (tw hw 52 rfl)) (notFace_of_selects (args := #[]) (mvT hZ (tw hw 54 rfl))) (mvT hZ (tw hw 54 rfl)) (mvT hZ (tw hw 53 rfl)) (by decide) (backOf (W := 0) (rmlat l Z a0 hw [] r0 G1 G3 h0 n0 Z0 O2 P5 O4 rG3 C1) hZ (tw hw 55 rfl) (tw hw 3 rfl) (by decide) (by decide)) q2a q2c (g := (mkF m 1 #[vr r0, vi 2] [(.ref r0)])) rfl (by rw [hml]; rfl) (Steps.refl _) (argsL := []) (rest := []) (lenOf pd_13 rfl) rfl (by show 2 * 0 + _ ≤ _; exact Nat.le_of_eq rfl) (hb hby d10_1) (fun _ _ => ⟨rfl, e0, (by decide : 0 + 0 ≤ _), (by decide : 0 + 0 ≤ _)⟩)
  dsimp only [Pt.U, Pt.locs, Pt.cells, Pt.slots] at X2 l2 y2 z2 st2 hQ2
  subst l2 y2 z2
  obtain ⟨rfl, Nq2, e2⟩ := hQ2
  have N2 := Fr.app N0 Nq2
  have hc3 : (0 : Int32) = (0 : Int32) := by decide
  obtain ⟨T4, X4, e4, st4⟩ := getF X2 hx hZ hown (host := "") (Or.inl (tw hw 20 rfl)) Via.refl e2 V1 (g := (mkF m 17 #[vr r0, vi 2] [(.ref r0)])) rfl rfl (hb hby d10_17)
  obtain ⟨_, _, ⟨T5, L5, k5, n5⟩, -, X5, ⟨Lc5, hQ5, l5, y5, z5⟩, st5⟩ := Jvm.LawKit.callS X4 hx (y := mN22) hown (mvT hZ (tw hw 93 rfl)) (mvT hZ (tw hw 94 rfl)) (mvT hZ (tw hw 34 rfl)) (mvT hZ (tw hw 95 rfl)) (by decide) (backOf (W := 0) (rmuc_3_2 l Z a0 hw [] t1 k1 ch0 ch1 ch2 G1 G3 h0 n0 Z0 A1 hb_2 O2 P5 O4 rG3 OA OH OL) hZ (tw hw 95 rfl) (tw hw 34 rfl) (by decide) (by decide)) (g := (mkF m 21 #[vr r0, vi 2] [(.int 2), (.ref t1)])) rfl (by rw [hml]; rfl) (argsL := [(.ref t1), (.int 2)]) (rest := []) (lenOf pd_7 rfl) rfl (by show 2 * 0 + _ ≤ _; exact Nat.le_of_eq rfl) (hb hby d10_21) (fun _ _ => ⟨rfl, e4, (by decide : 0 + 0 ≤ _), (by decide : 0 + 0 ≤ _)⟩)
  dsimp only [Pt.U, Pt.locs, Pt.cells, Pt.slots] at X5 l5 y5 z5 st5 hQ5
  subst l5 y5 z5
  obtain ⟨rfl, Nq5, e5⟩ := hQ5
  have N5 := Fr.app N2 Nq5
  obtain ⟨fs, hr, hrun, hended, hW, hsame⟩ := X5.leave (v := some (.int (nar .char ch2))) (fun h => by rw [Bd.returns] at h; cases h)
  refine ⟨_, _, pre0 _ ?_, hrun, hended, _, _, rfl, ?_, ⟨_, rfl⟩, hW, hsame.mono (by decide) (by decide)⟩
  · skip
    show SF p e below s₁ m 0 #[vr r0, vi 2] [] _
    refine XS.aloadN X0.here hx rfl (hb hby d10_0) rfl rfl ?_
    refine st2.trans ?_
    refine XS.ifYes X2.here hx rfl (pc0 := 4) (pc' := 16) rfl (hb hby d10_4) rfl ((if0 _ _).trans (teq hc3).1) (by decide) (by decide) ?_
    refine XS.aloadN X2.here hx rfl (hb hby d10_16) rfl rfl ?_
    refine st4 _ ?_
    show SF p e below T4 m 20 #[vr r0, vi 2] [(.ref t1)] _
    refine XS.iloadN X4.here hx rfl (hb hby d10_20) rfl ?_
    refine st5 _ ?_
    show SF p e below T5 m 24 #[vr r0, vi 2] [(.int ch2)] _
    exact retN X5 hx (t := .char) Bd.returns (by simp) (hb hby d10_24) hr
  · show Qca_3_2 Z r0 ch0 ch1 ch2 G1 G3 h0 n0 _ T5.heap _
    rw [e5]
    exact ⟨congrArg (fun z => some (Value.int z)) (own_narcW hb_2), N5, rfl⟩
def Qln_3 (Z : State) (r0 : Addr) (ch0 : Int32) (ch1 : Int32) (ch2 : Int32) (G1 : Int32) (G3 : Value) (h0 : Heap) (n0 : Nat) (v : Option Value) (h : Heap) (L : List Loc) : Prop := v = some (.int 3) ∧ Fr n0 L ∧ h = h0
set_option maxRecDepth 65536 in
set_option maxHeartbeats 40000000 in
theorem rmln_3 (l : Launch) (Z : State) (a0 : Array Value) (hw : ∀ d ∈ tables_1, d.before a0 Z = true) (ws : List Jvm.Cond) (r0 : Addr) (ch0 : Int32) (ch1 : Int32) (ch2 : Int32) (G1 : Int32) (G3 : Value) (h0 : Heap) (n0 : Nat) (Z0 : n0 ≤ h0.size) (S0 : OW Z h0 r0 (6 : Int32) [(.int (loB ch0)), (.int (hiB ch0)), (.int (loB ch1)), (.int (hiB ch1)), (.int (loB ch2)), (.int (hiB ch2))]) (O2 : sC Z h0 G1) (P5 : ¬ (G1 = (0 : Int32))) (O4 : sI Z h0 G3) (rG3 : G3.isRef = true) (OA : sA Z h0) (OH : sH Z h0) (OL : sL Z h0) :
    MF l Z mN24 jdk_42_method_54_code 1 (some .int) ws (rK 1 0 0 13) #[(.ref r0)] h0 (Qln_3 Z r0 ch0 ch1 ch2 G1 G3 h0 n0) := by
  refine MetFree.of_bodySF (plainFor_of_name pn_java_lang_String) hisR ?_
  intro p e s m args below meth c s₁ Bd hml0 hP hK
  obtain ⟨rfl, hZ, hh⟩ := hP
  have hx := Bd.exec
  have hby := Bd.bytes
  have hml : c.maxLocals = 1 := hml0
  have hown : s.vm.findClass "java/lang/String" = some m.cls := findClass_of_methodNamed Bd.named
  have hnm := (name_of_methodNamed Bd.named Bd.method).1
  have X0 : Stand p l e (rK 1 0 0 13) s m #[(.ref r0)] below meth c s₁ [] 0 0 := Stand.of_body Bd
  have e0 : s₁.heap = h0 := by rw [← hh, Bd.state]; rfl
  have N0 := Fr.nil n0
  have pre0 : ∀ t, SF p e below s₁ m 0 #[vr r0] [] t → Steps p.tables e below (s₁.setTop (entryFrame m #[(.ref r0)] 1)) t := fun t k => castTop (ef_26 m r0) k
  obtain ⟨t1, k1, E1, V1, C1, A1⟩ := id S0
  obtain ⟨T2, X2, e2, st2⟩ := getF X0 hx hZ hown (host := "") (Or.inl (tw hw 20 rfl)) Via.refl e0 V1 (g := (mkF m 1 #[vr r0] [(.ref r0)])) rfl rfl (hb hby d26_1)
  obtain ⟨cl3, Ar3, -, Sz3, Nn3, -, -⟩ := id A1
  obtain ⟨cq4, kq4, q4a, q4b, q4c⟩ := isOf hZ e2 E1
  obtain ⟨_, _, ⟨T4, L4, k4, n4⟩, -, X4, ⟨Lc4, hQ4, l4, y4, z4⟩, st4⟩ := X2.virtualBack hx (y := mN16) (z := mN16) hown (mvT hZ (tw hw 111 rfl)) (mvT hZ (tw hw 112 rfl)) (notFace_of_selects (args := #[]) (mvT hZ (tw hw 114 rfl))) (mvT hZ (tw hw 114 rfl)) (mvT hZ (tw hw 113 rfl)) (by decide) (backOf (W := 1) (rmcod l Z a0 hw [] r0 G1 G3 h0 n0 Z0 O2 P5 O4 rG3 C1) hZ (tw hw 115 rfl) (tw hw 3 rfl) (by decide) (by decide)) q4a q4c (g := (mkF m 6 #[vr r0] [(.ref r0), (.int 6)])) rfl (by rw [hml]; rfl) (Steps.refl _) (argsL := []) (rest := [(.int 6)]) (lenOf pd_14 rfl) rfl (by show 2 * 0 + _ ≤ _; exact Nat.le_of_eq rfl) (hb hby d26_6) (fun _ _ => ⟨rfl, e2, (by decide : 0 + 0 ≤ _), (by decide : 0 + 0 ≤ _)⟩)
  dsimp only [Pt.U, Pt.locs, Pt.cells, Pt.slots] at X4 l4 y4 z4 st4 hQ4
  subst l4 y4 z4
  obtain ⟨rfl, Nq4, e4⟩ := hQ4
  have N4 := Fr.app N0 Nq4
  obtain ⟨fs, hr, hrun, hended, hW, hsame⟩ := X4.leave (v := some (.int 3)) (fun h => by rw [Bd.returns] at h; cases h)
  refine ⟨_, _, pre0 _ ?_, hrun, hended, _, _, rfl, ?_, ⟨_, rfl⟩, hW, hsame.mono (by decide) (by decide)⟩
  · skip
    show SF p e below s₁ m 0 #[vr r0] [] _
    refine XS.aloadN X0.here hx rfl (hb hby d26_0) rfl rfl ?_
    refine st2 _ ?_
    refine X2.arraylength hx (by rw [e2]; exact Ar3.1) (State.isArrayOf_alike hZ.alike Ar3.2.1) (g := (mkF m 4 #[vr r0] [(.ref t1)])) rfl rfl (hb hby d26_4) _ ?_
    rw [len_of Sz3 Nn3]
    refine XS.aloadN X2.here hx rfl (hb hby d26_5) rfl rfl ?_
    refine st4.trans ?_
    show SF p e below T4 m 9 #[vr r0] [(.int 1), (.int 6)] _
    refine XS.ishr X4.here hx rfl (hb hby d26_9) rfl ?_
    show SF p e below T4 m 10 #[vr r0] [(.int 3)] _
    exact retI X4 hx Bd.returns (hb hby d26_10) hr
  · show Qln_3 Z r0 ch0 ch1 ch2 G1 G3 h0 n0 _ T4.heap _
    rw [e4]
    exact ⟨rfl, N4, rfl⟩
def Qem_3 (Z : State) (r0 : Addr) (ch0 : Int32) (ch1 : Int32) (ch2 : Int32) (G1 : Int32) (G3 : Value) (h0 : Heap) (n0 : Nat) (v : Option Value) (h : Heap) (L : List Loc) : Prop := v = some (.int 0) ∧ Fr n0 L ∧ h = h0
set_option maxRecDepth 65536 in
set_option maxHeartbeats 40000000 in
theorem rmem_3 (l : Launch) (Z : State) (a0 : Array Value) (hw : ∀ d ∈ tables_1, d.before a0 Z = true) (ws : List Jvm.Cond) (r0 : Addr) (ch0 : Int32) (ch1 : Int32) (ch2 : Int32) (G1 : Int32) (G3 : Value) (h0 : Heap) (n0 : Nat) (Z0 : n0 ≤ h0.size) (S0 : OW Z h0 r0 (6 : Int32) [(.int (loB ch0)), (.int (hiB ch0)), (.int (loB ch1)), (.int (hiB ch1)), (.int (loB ch2)), (.int (hiB ch2))]) (O2 : sC Z h0 G1) (P5 : ¬ (G1 = (0 : Int32))) (O4 : sI Z h0 G3) (rG3 : G3.isRef = true) (OA : sA Z h0) (OH : sH Z h0) (OL : sL Z h0) :
    MF l Z mN25 jdk_42_method_55_code 1 (some .boolean) ws (rK 0 0 0 0) #[(.ref r0)] h0 (Qem_3 Z r0 ch0 ch1 ch2 G1 G3 h0 n0) := by
  refine MetFree.of_bodySF (plainFor_of_name pn_java_lang_String) hisR ?_
  intro p e s m args below meth c s₁ Bd hml0 hP hK
  obtain ⟨rfl, hZ, hh⟩ := hP
  have hx := Bd.exec
  have hby := Bd.bytes
  have hml : c.maxLocals = 1 := hml0
  have hown : s.vm.findClass "java/lang/String" = some m.cls := findClass_of_methodNamed Bd.named
  have hnm := (name_of_methodNamed Bd.named Bd.method).1
  have X0 : Stand p l e (rK 0 0 0 0) s m #[(.ref r0)] below meth c s₁ [] 0 0 := Stand.of_body Bd
  have e0 : s₁.heap = h0 := by rw [← hh, Bd.state]; rfl
  have N0 := Fr.nil n0
  have pre0 : ∀ t, SF p e below s₁ m 0 #[vr r0] [] t → Steps p.tables e below (s₁.setTop (entryFrame m #[(.ref r0)] 1)) t := fun t k => castTop (ef_5 m r0) k
  obtain ⟨t1, k1, E1, V1, C1, A1⟩ := id S0
  obtain ⟨T2, X2, e2, st2⟩ := getF X0 hx hZ hown (host := "") (Or.inl (tw hw 20 rfl)) Via.refl e0 V1 (g := (mkF m 1 #[vr r0] [(.ref r0)])) rfl rfl (hb hby d5_1)
  obtain ⟨cl3, Ar3, -, Sz3, Nn3, -, -⟩ := id A1
  have hc4 : ¬ ((6 : Int32) = (0 : Int32)) := by decide
  obtain ⟨fs, hr, hrun, hended, hW, hsame⟩ := X2.leave (v := some (.int 0)) (fun h => by rw [Bd.returns] at h; cases h)
  refine ⟨_, _, pre0 _ ?_, hrun, hended, _, _, rfl, ?_, ⟨_, rfl⟩, hW, hsame.mono (by decide) (by decide)⟩
  · skip
    show SF p e below s₁ m 0 #[vr r0] [] _
    refine XS.aloadN X0.here hx rfl (hb hby d5_0) rfl rfl ?_
    refine st2 _ ?_
    refine X2.arraylength hx (by rw [e2]; exact Ar3.1) (State.isArrayOf_alike hZ.alike Ar3.2.1) (g := (mkF m 4 #[vr r0] [(.ref t1)])) rfl rfl (hb hby d5_4) _ ?_
    rw [len_of Sz3 Nn3]
    refine XS.ifYes X2.here hx rfl (pc0 := 5) (pc' := 12) rfl (hb hby d5_5) rfl ((if0 _ _).trans (feq hc4).2) (by decide) (by decide) ?_
    refine XS.iconst X2.here hx rfl (hb hby d5_12) ?_
    show SF p e below T2 m 13 #[vr r0] [(.int 0)] _
    exact retN X2 hx (t := .boolean) Bd.returns (by simp) (hb hby d5_13) hr
  · show Qem_3 Z r0 ch0 ch1 ch2 G1 G3 h0 n0 _ T2.heap _
    rw [e2]
    exact ⟨rfl, N0, rfl⟩
def Qio__0 (Z : State) (r0 : Addr) (G1 : Int32) (G3 : Value) (h0 : Heap) (n0 : Nat) (v : Option Value) (h : Heap) (L : List Loc) : Prop := v = some (.int (bI (False))) ∧ Fr n0 L ∧ h = h0
set_option maxRecDepth 65536 in
set_option maxHeartbeats 40000000 in
theorem rmio__0 (l : Launch) (Z : State) (a0 : Array Value) (hw : ∀ d ∈ tables_1, d.before a0 Z = true) (ws : List Jvm.Cond) (r0 : Addr) (G1 : Int32) (G3 : Value) (h0 : Heap) (n0 : Nat) (Z0 : n0 ≤ h0.size) (O2 : sC Z h0 G1) (P5 : ¬ (G1 = (0 : Int32))) (O4 : sI Z h0 G3) (rG3 : G3.isRef = true) (S0 : OStr Z h0 r0 []) :
    MF l Z mN26 prog_38_method_5_code 1 (some .boolean) ws (rK 6 0 0 79) #[(.ref r0)] h0 (Qio__0 Z r0 G1 G3 h0 n0) := by
  refine MetFree.of_bodySF (plainFor_of_name pn_com_example_orql_orql_Syntax) hisR ?_
  intro p e s m args below meth c s₁ Bd hml0 hP hK
  obtain ⟨rfl, hZ, hh⟩ := hP
  have hx := Bd.exec
  have hby := Bd.bytes
  have hml : c.maxLocals = 1 := hml0
  have hown : s.vm.findClass "com/example/orql/orql/Syntax" = some m.cls := findClass_of_methodNamed Bd.named
  have hnm := (name_of_methodNamed Bd.named Bd.method).1
  have X0 : Stand p l e (rK 6 0 0 79) s m #[(.ref r0)] below meth c s₁ [] 0 0 := Stand.of_body Bd
  have e0 : s₁.heap = h0 := by rw [← hh, Bd.state]; rfl
  have N0 := Fr.nil n0
  have pre0 : ∀ t, SF p e below s₁ m 0 #[vr r0] [] t → Steps p.tables e below (s₁.setTop (entryFrame m #[(.ref r0)] 1)) t := fun t k => castTop (ef_4 m r0) k
  obtain ⟨t1, k1, E1, V1, C1, A1, hp1⟩ := id S0
  have hcd1 := own_cod hp1
  have hbd1 := own_up _ hp1
  obtain ⟨cq2, kq2, q2a, q2b, q2c⟩ := isOf hZ e0 E1
  obtain ⟨_, _, ⟨T2, L2, k2, n2⟩, -, X2, ⟨Lc2, hQ2, l2, y2, z2⟩, st2⟩ := X0.virtualBack hx (y := mN25) (z := mN25) hown (mvT hZ (tw hw 26 rfl)) (mvT hZ (tw hw 27 rfl)) (notFace_of_selects (args := #[]) (mvT hZ (tw hw 29 rfl))) (mvT hZ (tw hw 29 rfl)) (mvT hZ (tw hw 28 rfl)) (by decide) (StrChars.Road.empW (W := 0) hZ (fun d hd => hw d (own_wE d hd)) (kI := 4) (tw hw 2 rfl) E1 V1 C1 A1 hcd1 hbd1 (Nat.le_of_ble_eq_true rfl) (by decide) (by decide)) q2a q2c (g := (mkF m 1 #[vr r0] [(.ref r0)])) rfl (by rw [hml]; rfl) (Steps.refl _) (argsL := []) (rest := []) (lenOf pd_13 rfl) rfl (by show 2 * 0 + _ ≤ _; exact Nat.le_of_eq rfl) (hb hby d4_1) (fun _ _ => ⟨rfl, e0, (by decide : 0 + 0 ≤ _), (by decide : 0 + 0 ≤ _)⟩)
  dsimp only [Pt.U, Pt.locs, Pt.cells, Pt.slots] at X2 l2 y2 z2 st2 hQ2
  subst l2 y2 z2
  obtain ⟨rfl, rfl, e2⟩ := hQ2
  have Nq2 : Fr n0 ([] : List Loc) := Fr.nil n0
  have N2 := Fr.app N0 Nq2
  have hc3 : ¬ ((1 : Int32) = (0 : Int32)) := by decide
  obtain ⟨fs, hr, hrun, hended, hW, hsame⟩ := X2.leave (v := some (.int 0)) (fun h => by rw [Bd.returns] at h; cases h)
  refine ⟨_, _, pre0 _ ?_, hrun, hended, _, _, rfl, ?_, ⟨_, rfl⟩, hW, hsame.mono (by decide) (by decide)⟩
  · skip
    show SF p e below s₁ m 0 #[vr r0] [] _
    refine XS.aloadN X0.here hx rfl (hb hby d4_0) rfl rfl ?_
    refine st2.trans ?_
    refine XS.ifYes X2.here hx rfl (pc0 := 4) (pc' := 40) rfl (hb hby d4_4) rfl ((if0 _ _).trans (feq hc3).2) (by decide) (by decide) ?_
    refine XS.iconst X2.here hx rfl (hb hby d4_40) ?_
    show SF p e below T2 m 41 #[vr r0] [(.int 0)] _
    exact retN X2 hx (t := .boolean) Bd.returns (by simp) (hb hby d4_41) hr
  · show Qio__0 Z r0 G1 G3 h0 n0 _ T2.heap _
    rw [e2]
    exact ⟨own_b0 (by first | trivial | omega), N2, rfl⟩
def Qca__1 (Z : State) (r0 : Addr) (ch0 : Int32) (G1 : Int32) (G3 : Value) (h0 : Heap) (n0 : Nat) (v : Option Value) (h : Heap) (L : List Loc) : Prop := v = some (.int (bI (True))) ∧ Fr n0 L ∧ h = h0
set_option maxRecDepth 65536 in
set_option maxHeartbeats 40000000 in
theorem rmca__1 (l : Launch) (Z : State) (a0 : Array Value) (hw : ∀ d ∈ tables_1, d.before a0 Z = true) (ws : List Jvm.Cond) (r0 : Addr) (ch0 : Int32) (G1 : Int32) (G3 : Value) (h0 : Heap) (n0 : Nat) (Z0 : n0 ≤ h0.size) (O2 : sC Z h0 G1) (P5 : ¬ (G1 = (0 : Int32))) (O4 : sI Z h0 G3) (rG3 : G3.isRef = true) (S0 : OStr Z h0 r0 [ch0]) :
    MF l Z mN27 prog_38_method_6_code 2 (some .boolean) ws (rK 4 0 0 54) #[(.ref r0)] h0 (Qca__1 Z r0 ch0 G1 G3 h0 n0) := by
  refine MetFree.of_bodySF (plainFor_of_name pn_com_example_orql_orql_Syntax) hisR ?_
  intro p e s m args below meth c s₁ Bd hml0 hP hK
  obtain ⟨rfl, hZ, hh⟩ := hP
  have hx := Bd.exec
  have hby := Bd.bytes
  have hml : c.maxLocals = 2 := hml0
  have hown : s.vm.findClass "com/example/orql/orql/Syntax" = some m.cls := findClass_of_methodNamed Bd.named
  have hnm := (name_of_methodNamed Bd.named Bd.method).1
  have X0 : Stand p l e (rK 4 0 0 54) s m #[(.ref r0)] below meth c s₁ [] 0 0 := Stand.of_body Bd
  have e0 : s₁.heap = h0 := by rw [← hh, Bd.state]; rfl
  have N0 := Fr.nil n0
  have pre0 : ∀ t, SF p e below s₁ m 0 #[vr r0, .unset] [] t → Steps p.tables e below (s₁.setTop (entryFrame m #[(.ref r0)] 2)) t := fun t k => castTop (ef_25 m r0) k
  obtain ⟨t1, k1, E1, V1, C1, A1, hp1⟩ := id S0
  have hcd1 := own_cod hp1
  have hbd1 := own_up _ hp1
  obtain ⟨cq2, kq2, q2a, q2b, q2c⟩ := isOf hZ e0 E1
  obtain ⟨_, _, ⟨T2, L2, k2, n2⟩, -, X2, ⟨Lc2, hQ2, l2, y2, z2⟩, st2⟩ := X0.virtualBack hx (y := mN24) (z := mN24) hown (mvT hZ (tw hw 106 rfl)) (mvT hZ (tw hw 107 rfl)) (notFace_of_selects (args := #[]) (mvT hZ (tw hw 109 rfl))) (mvT hZ (tw hw 109 rfl)) (mvT hZ (tw hw 108 rfl)) (by decide) (StrChars.Road.lenW (W := 1) hZ (fun d hd => hw d (own_wL d hd)) (kI := 4) (tw hw 2 rfl) E1 V1 C1 A1 hcd1 hbd1 O2 P5 (Nat.le_of_ble_eq_true rfl) (by decide) (by decide)) q2a q2c (g := (mkF m 4 #[vr r0, vi 1] [(.ref r0), (.int 1)])) rfl (by rw [hml]; rfl) (Steps.refl _) (argsL := []) (rest := [(.int 1)]) (lenOf pd_15 rfl) rfl (by show 2 * 0 + _ ≤ _; exact Nat.le_of_eq rfl) (hb hby d25_4) (fun _ _ => ⟨rfl, e0, (by decide : 0 + 0 ≤ _), (by decide : 0 + 0 ≤ _)⟩)
  dsimp only [Pt.U, Pt.locs, Pt.cells, Pt.slots] at X2 l2 y2 z2 st2 hQ2
  subst l2 y2 z2
  obtain ⟨rfl, rfl, e2⟩ := hQ2
  have Nq2 : Fr n0 ([] : List Loc) := Fr.nil n0
  have N2 := Fr.app N0 Nq2
  have hc3 : ¬ ((1 : Int32) < (1 : Int32)) := by decide
  obtain ⟨fs, hr, hrun, hended, hW, hsame⟩ := X2.leave (v := some (.int 1)) (fun h => by rw [Bd.returns] at h; cases h)
  refine ⟨_, _, pre0 _ ?_, hrun, hended, _, _, rfl, ?_, ⟨_, rfl⟩, hW, hsame.mono (by decide) (by decide)⟩
  · skip
    show SF p e below s₁ m 0 #[vr r0, .unset] [] _
    refine XS.iconst X0.here hx rfl (hb hby d25_0) ?_
    refine XS.istoreN X0.here hx rfl (hb hby d25_1) rfl (l' := #[vr r0, vi 1]) rfl ?_
    refine XS.iloadN X0.here hx rfl (hb hby d25_2) rfl ?_
    refine XS.aloadN X0.here hx rfl (hb hby d25_3) rfl rfl ?_
    refine st2.trans ?_
    show SF p e below T2 m 7 #[vr r0, vi 1] [(.int 1), (.int 1)] _
    refine XS.icmpYes X2.here hx rfl (pc0 := 7) (pc' := 29) rfl (hb hby d25_7) rfl (flt hc3).2.1 (by decide) (by decide) ?_
    refine XS.iconst X2.here hx rfl (hb hby d25_29) ?_
    show SF p e below T2 m 30 #[vr r0, vi 1] [(.int 1)] _
    exact retN X2 hx (t := .boolean) Bd.returns (by simp) (hb hby d25_30) hr
  · show Qca__1 Z r0 ch0 G1 G3 h0 n0 _ T2.heap _
    rw [e2]
    exact ⟨own_b1 (by first | trivial | omega), N2, rfl⟩
def Qio__1 (Z : State) (r0 : Addr) (ch0 : Int32) (G1 : Int32) (G3 : Value) (h0 : Heap) (n0 : Nat) (v : Option Value) (h : Heap) (L : List Loc) : Prop := v = some (.int (bI (((97 ≤ ch0.toInt ∧ ch0.toInt ≤ 122) ∨ (48 ≤ ch0.toInt ∧ ch0.toInt ≤ 57))))) ∧ Fr n0 L ∧ h = h0
set_option maxRecDepth 65536 in
set_option maxHeartbeats 40000000 in
theorem rmio__1 (l : Launch) (Z : State) (a0 : Array Value) (hw : ∀ d ∈ tables_1, d.before a0 Z = true) (ws : List Jvm.Cond) (r0 : Addr) (ch0 : Int32) (G1 : Int32) (G3 : Value) (h0 : Heap) (n0 : Nat) (Z0 : n0 ≤ h0.size) (O2 : sC Z h0 G1) (P5 : ¬ (G1 = (0 : Int32))) (O4 : sI Z h0 G3) (rG3 : G3.isRef = true) (S0 : OStr Z h0 r0 [ch0]) :
    MF l Z mN26 prog_38_method_5_code 1 (some .boolean) ws (rK 6 0 0 79) #[(.ref r0)] h0 (Qio__1 Z r0 ch0 G1 G3 h0 n0) := by
  refine MetFree.of_bodySF (plainFor_of_name pn_com_example_orql_orql_Syntax) hisR ?_
  intro p e s m args below meth c s₁ Bd hml0 hP hK
  obtain ⟨rfl, hZ, hh⟩ := hP
  have hx := Bd.exec
  have hby := Bd.bytes
  have hml : c.maxLocals = 1 := hml0
  have hown : s.vm.findClass "com/example/orql/orql/Syntax" = some m.cls := findClass_of_methodNamed Bd.named
  have hnm := (name_of_methodNamed Bd.named Bd.method).1
  have X0 : Stand p l e (rK 6 0 0 79) s m #[(.ref r0)] below meth c s₁ [] 0 0 := Stand.of_body Bd
  have e0 : s₁.heap = h0 := by rw [← hh, Bd.state]; rfl
  have N0 := Fr.nil n0
  have pre0 : ∀ t, SF p e below s₁ m 0 #[vr r0] [] t → Steps p.tables e below (s₁.setTop (entryFrame m #[(.ref r0)] 1)) t := fun t k => castTop (ef_4 m r0) k
  obtain ⟨t1, k1, E1, V1, C1, A1, hp1⟩ := id S0
  have hcd1 := own_cod hp1
  have hbd1 := own_up _ hp1
  obtain ⟨cq2, kq2, q2a, q2b, q2c⟩ := isOf hZ e0 E1
  obtain ⟨_, _, ⟨T2, L2, k2, n2⟩, -, X2, ⟨Lc2, hQ2, l2, y2, z2⟩, st2⟩ := X0.virtualBack hx (y := mN25) (z := mN25) hown (mvT hZ (tw hw 26 rfl)) (mvT hZ (tw hw 27 rfl)) (notFace_of_selects (args := #[]) (mvT hZ (tw hw 29 rfl))) (mvT hZ (tw hw 29 rfl)) (mvT hZ (tw hw 28 rfl)) (by decide) (StrChars.Road.empW (W := 0) hZ (fun d hd => hw d (own_wE d hd)) (kI := 4) (tw hw 2 rfl) E1 V1 C1 A1 hcd1 hbd1 (Nat.le_of_ble_eq_true rfl) (by decide) (by decide)) q2a q2c (g := (mkF m 1 #[vr r0] [(.ref r0)])) rfl (by rw [hml]; rfl) (Steps.refl _) (argsL := []) (rest := []) (lenOf pd_13 rfl) rfl (by show 2 * 0 + _ ≤ _; exact Nat.le_of_eq rfl) (hb hby d4_1) (fun _ _ => ⟨rfl, e0, (by decide : 0 + 0 ≤ _), (by decide : 0 + 0 ≤ _)⟩)
  dsimp only [Pt.U, Pt.locs, Pt.cells, Pt.slots] at X2 l2 y2 z2 st2 hQ2
  subst l2 y2 z2
  obtain ⟨rfl, rfl, e2⟩ := hQ2
  have Nq2 : Fr n0 ([] : List Loc) := Fr.nil n0
  have N2 := Fr.app N0 Nq2
  have hc3 : (0 : Int32) = (0 : Int32) := by decide
  obtain ⟨cq4, kq4, q4a, q4b, q4c⟩ := isOf hZ e2 E1
  obtain ⟨_, _, ⟨T4, L4, k4, n4⟩, -, X4, ⟨Lc4, hQ4, l4, y4, z4⟩, st4⟩ := X2.virtualBack hx (y := mN23) (z := mN23) hown (mvT hZ (tw hw 46 rfl)) (mvT hZ (tw hw 47 rfl)) (notFace_of_selects (args := #[]) (mvT hZ (tw hw 49 rfl))) (mvT hZ (tw hw 49 rfl)) (mvT hZ (tw hw 48 rfl)) (by decide) (StrChars.Road.chN (W := 0) hZ (fun d hd => hw d (own_wC d hd)) (kI := 4) (tw hw 2 rfl) E1 V1 C1 A1 hcd1 hbd1 O2 P5 O4 rG3 (Nat.le_of_ble_eq_true rfl) (i := 0) (Nat.le_of_ble_eq_true rfl) (j := (0 : Int32)) rfl (by decide) (by decide)) q4a q4c (g := (mkF m 9 #[vr r0] [(.int 0), (.ref r0)])) rfl (by rw [hml]; rfl) (Steps.refl _) (argsL := [(.int 0)]) (rest := []) (lenOf pd_16 rfl) rfl (by show 2 * 0 + _ ≤ _; exact Nat.le_of_eq rfl) (hb hby d4_9) (fun _ _ => ⟨rfl, e2, (by decide : 0 + 0 ≤ _), (by decide : 0 + 0 ≤ _)⟩)
  dsimp only [Pt.U, Pt.locs, Pt.cells, Pt.slots] at X4 l4 y4 z4 st4 hQ4
  subst l4 y4 z4
  obtain ⟨rfl, rfl, e4⟩ := hQ4
  have Nq4 : Fr n0 ([] : List Loc) := Fr.nil n0
  have N4 := Fr.app N2 Nq4
  obtain ⟨_, _, ⟨T5, L5, k5, n5⟩, -, X5, ⟨Lc5, hQ5, l5, y5, z5⟩, st5⟩ := Jvm.LawKit.callS X4 hx (y := mN0) hown (mvT hZ (tw hw 68 rfl)) (mvT hZ (tw hw 69 rfl)) (mvT hZ (tw hw 24 rfl)) (mvT hZ (tw hw 70 rfl)) (by decide) (backOf (W := 0) (rm15 l Z a0 hw [] ch0  h0 n0 Z0 ) hZ (tw hw 70 rfl) (tw hw 24 rfl) (by decide) (by decide)) (g := (mkF m 12 #[vr r0] [(.int ch0)])) rfl (by rw [hml]; rfl) (argsL := [(.int ch0)]) (rest := []) (lenOf pd_0 rfl) rfl (by show 2 * 0 + _ ≤ _; exact Nat.le_of_eq rfl) (hb hby d4_12) (fun _ _ => ⟨rfl, e4, (by decide : 0 + 0 ≤ _), (by decide : 0 + 0 ≤ _)⟩)
  dsimp only [Pt.U, Pt.locs, Pt.cells, Pt.slots] at X5 l5 y5 z5 st5 hQ5
  subst l5 y5 z5
  obtain ⟨rfl, Nq5, e5⟩ := hQ5
  have N5 := Fr.app N4 Nq5
  have t5 := own_bt (P := 97 ≤ ch0.toInt ∧ ch0.toInt ≤ 122)
  have pre7 : ∀ t, SF p e below T5 m 15 #[vr r0] [(.int (bI (97 ≤ ch0.toInt ∧ ch0.toInt ≤ 122)))] t → SF p e below s₁ m 0 #[vr r0] [] t := fun t k => (by
    show SF p e below s₁ m 0 #[vr r0] [] _
    refine XS.aloadN X0.here hx rfl (hb hby d4_0) rfl rfl ?_
    refine st2.trans ?_
    refine XS.ifNo X2.here hx rfl (hb hby d4_4) rfl ((if0 _ _).trans (teq hc3).2) ?_
    refine XS.aloadN X2.here hx rfl (hb hby d4_7) rfl rfl ?_
    refine XS.iconst X2.here hx rfl (hb hby d4_8) ?_
    show SF p e below T2 m 9 #[vr r0] [(.int 0), (.ref r0)] _
    refine st4.trans ?_
    refine st5 _ ?_
    exact k)
  by_cases hc6 : (bI (97 ≤ ch0.toInt ∧ ch0.toInt ≤ 122)) = (0 : Int32)
  · skip
    have ohc6 : (bI (97 ≤ ch0.toInt ∧ ch0.toInt ≤ 122)).toInt = 0 := own_eq.mp hc6
    obtain ⟨cq8, kq8, q8a, q8b, q8c⟩ := isOf hZ e5 E1
    obtain ⟨_, _, ⟨T8, L8, k8, n8⟩, -, X8, ⟨Lc8, hQ8, l8, y8, z8⟩, st8⟩ := X5.virtualBack hx (y := mN23) (z := mN23) hown (mvT hZ (tw hw 46 rfl)) (mvT hZ (tw hw 47 rfl)) (notFace_of_selects (args := #[]) (mvT hZ (tw hw 49 rfl))) (mvT hZ (tw hw 49 rfl)) (mvT hZ (tw hw 48 rfl)) (by decide) (StrChars.Road.chN (W := 0) hZ (fun d hd => hw d (own_wC d hd)) (kI := 4) (tw hw 2 rfl) E1 V1 C1 A1 hcd1 hbd1 O2 P5 O4 rG3 (Nat.le_of_ble_eq_true rfl) (i := 0) (Nat.le_of_ble_eq_true rfl) (j := (0 : Int32)) rfl (by decide) (by decide)) q8a q8c (g := (mkF m 20 #[vr r0] [(.int 0), (.ref r0)])) rfl (by rw [hml]; rfl) (Steps.refl _) (argsL := [(.int 0)]) (rest := []) (lenOf pd_16 rfl) rfl (by show 2 * 0 + _ ≤ _; exact Nat.le_of_eq rfl) (hb hby d4_20) (fun _ _ => ⟨rfl, e5, (by decide : 0 + 0 ≤ _), (by decide : 0 + 0 ≤ _)⟩)
    dsimp only [Pt.U, Pt.locs, Pt.cells, Pt.slots] at X8 l8 y8 z8 st8 hQ8
    subst l8 y8 z8
    obtain ⟨rfl, rfl, e8⟩ := hQ8
    have Nq8 : Fr n0 ([] : List Loc) := Fr.nil n0
    have N8 := Fr.app N5 Nq8
    obtain ⟨_, _, ⟨T9, L9, k9, n9⟩, -, X9, ⟨Lc9, hQ9, l9, y9, z9⟩, st9⟩ := Jvm.LawKit.callS X8 hx (y := mN2) hown (mvT hZ (tw hw 71 rfl)) (mvT hZ (tw hw 72 rfl)) (mvT hZ (tw hw 24 rfl)) (mvT hZ (tw hw 73 rfl)) (by decide) (backOf (W := 0) (rm16 l Z a0 hw [] ch0  h0 n0 Z0 ) hZ (tw hw 73 rfl) (tw hw 24 rfl) (by decide) (by decide)) (g := (mkF m 23 #[vr r0] [(.int ch0)])) rfl (by rw [hml]; rfl) (argsL := [(.int ch0)]) (rest := []) (lenOf pd_0 rfl) rfl (by show 2 * 0 + _ ≤ _; exact Nat.le_of_eq rfl) (hb hby d4_23) (fun _ _ => ⟨rfl, e8, (by decide : 0 + 0 ≤ _), (by decide : 0 + 0 ≤ _)⟩)
    dsimp only [Pt.U, Pt.locs, Pt.cells, Pt.slots] at X9 l9 y9 z9 st9 hQ9
    subst l9 y9 z9
    obtain ⟨rfl, Nq9, e9⟩ := hQ9
    have N9 := Fr.app N8 Nq9
    have t9 := own_bt (P := 48 ≤ ch0.toInt ∧ ch0.toInt ≤ 57)
    have pre11 : ∀ t, SF p e below T9 m 26 #[vr r0] [(.int (bI (48 ≤ ch0.toInt ∧ ch0.toInt ≤ 57)))] t → SF p e below s₁ m 0 #[vr r0] [] t := fun t k => pre7 t (by
      show SF p e below T5 m 15 #[vr r0] [(.int (bI (97 ≤ ch0.toInt ∧ ch0.toInt ≤ 122)))] _
      refine XS.ifNo X5.here hx rfl (hb hby d4_15) rfl ((if0 _ _).trans (teq hc6).2) ?_
      show SF p e below T5 m 18 #[vr r0] [] _
      refine XS.aloadN X5.here hx rfl (hb hby d4_18) rfl rfl ?_
      refine XS.iconst X5.here hx rfl (hb hby d4_19) ?_
      refine st8.trans ?_
      refine st9 _ ?_
      exact k)
    by_cases hc10 : (bI (48 ≤ ch0.toInt ∧ ch0.toInt ≤ 57)) = (0 : Int32)
    · skip
      have ohc10 : (bI (48 ≤ ch0.toInt ∧ ch0.toInt ≤ 57)).toInt = 0 := own_eq.mp hc10
      obtain ⟨fs, hr, hrun, hended, hW, hsame⟩ := X9.leave (v := some (.int 0)) (fun h => by rw [Bd.returns] at h; cases h)
      refine ⟨_, _, pre0 _ (pre11 _ ?_), hrun, hended, _, _, rfl, ?_, ⟨_, rfl⟩, hW, hsame.mono (by decide) (by decide)⟩
      · skip
        show SF p e below T9 m 26 #[vr r0] [(.int (bI (48 ≤ ch0.toInt ∧ ch0.toInt ≤ 57)))] _
        refine XS.ifYes X9.here hx rfl (pc0 := 26) (pc' := 40) rfl (hb hby d4_26) rfl ((if0 _ _).trans (teq hc10).1) (by decide) (by decide) ?_
        show SF p e below T9 m 40 #[vr r0] [] _
        refine XS.iconst X9.here hx rfl (hb hby d4_40) ?_
        show SF p e below T9 m 41 #[vr r0] [(.int 0)] _
        exact retN X9 hx (t := .boolean) Bd.returns (by simp) (hb hby d4_41) hr
      · show Qio__1 Z r0 ch0 G1 G3 h0 n0 _ T9.heap _
        rw [e9]
        exact ⟨own_b0 (by first | trivial | omega), N9, rfl⟩
    · skip
      have ohc10 : ¬ ((bI (48 ≤ ch0.toInt ∧ ch0.toInt ≤ 57)).toInt = 0) := own_neq.mp hc10
      obtain ⟨_, _, ⟨T12, L12, k12, n12⟩, -, X12, ⟨Lc12, hQ12, l12, y12, z12⟩, st12⟩ := Jvm.LawKit.callS X9 hx (y := mN27) hown (mvT hZ (tw hw 103 rfl)) (mvT hZ (tw hw 104 rfl)) (mvT hZ (tw hw 24 rfl)) (mvT hZ (tw hw 105 rfl)) (by decide) (backOf (W := 0) (rmca__1 l Z a0 hw [] r0 ch0 G1 G3 h0 n0 Z0 O2 P5 O4 rG3 S0) hZ (tw hw 105 rfl) (tw hw 24 rfl) (by decide) (by decide)) (g := (mkF m 30 #[vr r0] [(.ref r0)])) rfl (by rw [hml]; rfl) (argsL := [(.ref r0)]) (rest := []) (lenOf pd_17 rfl) rfl (by show 2 * 0 + _ ≤ _; exact Nat.le_of_eq rfl) (hb hby d4_30) (fun _ _ => ⟨rfl, e9, (by decide : 0 + 0 ≤ _), (by decide : 0 + 0 ≤ _)⟩)
      dsimp only [Pt.U, Pt.locs, Pt.cells, Pt.slots] at X12 l12 y12 z12 st12 hQ12
      subst l12 y12 z12
      obtain ⟨rfl, Nq12, e12⟩ := hQ12
      have N12 := Fr.app N9 Nq12
      have t12 := own_bt (P := True)
      have pre14 : ∀ t, SF p e below T12 m 33 #[vr r0] [(.int (bI (True)))] t → SF p e below s₁ m 0 #[vr r0] [] t := fun t k => pre11 t (by
        show SF p e below T9 m 26 #[vr r0] [(.int (bI (48 ≤ ch0.toInt ∧ ch0.toInt ≤ 57)))] _
        refine XS.ifNo X9.here hx rfl (hb hby d4_26) rfl ((if0 _ _).trans (feq hc10).1) ?_
        show SF p e below T9 m 29 #[vr r0] [] _
        refine XS.aloadN X9.here hx rfl (hb hby d4_29) rfl rfl ?_
        refine st12 _ ?_
        exact k)
      by_cases hc13 : (bI (True)) = (0 : Int32)
      · skip
        have ohc13 : (bI (True)).toInt = 0 := own_eq.mp hc13
        obtain ⟨fs, hr, hrun, hended, hW, hsame⟩ := X12.leave (v := some (.int 0)) (fun h => by rw [Bd.returns] at h; cases h)
        refine ⟨_, _, pre0 _ (pre14 _ ?_), hrun, hended, _, _, rfl, ?_, ⟨_, rfl⟩, hW, hsame.mono (by decide) (by decide)⟩
        · skip
          show SF p e below T12 m 33 #[vr r0] [(.int (bI (True)))] _
          refine XS.ifYes X12.here hx rfl (pc0 := 33) (pc' := 40) rfl (hb hby d4_33) rfl ((if0 _ _).trans (teq hc13).1) (by decide) (by decide) ?_
          show SF p e below T12 m 40 #[vr r0] [] _
          refine XS.iconst X12.here hx rfl (hb hby d4_40) ?_
          show SF p e below T12 m 41 #[vr r0] [(.int 0)] _
          exact retN X12 hx (t := .boolean) Bd.returns (by simp) (hb hby d4_41) hr
        · show Qio__1 Z r0 ch0 G1 G3 h0 n0 _ T12.heap _
          rw [e12]
          exact ⟨own_b0 (by first | trivial | omega), N12, rfl⟩
      · skip
        have ohc13 : ¬ ((bI (True)).toInt = 0) := own_neq.mp hc13
        obtain ⟨fs, hr, hrun, hended, hW, hsame⟩ := X12.leave (v := some (.int 1)) (fun h => by rw [Bd.returns] at h; cases h)
        refine ⟨_, _, pre0 _ (pre14 _ ?_), hrun, hended, _, _, rfl, ?_, ⟨_, rfl⟩, hW, hsame.mono (by decide) (by decide)⟩
        · skip
          show SF p e below T12 m 33 #[vr r0] [(.int (bI (True)))] _
          refine XS.ifNo X12.here hx rfl (hb hby d4_33) rfl ((if0 _ _).trans (feq hc13).1) ?_
          show SF p e below T12 m 36 #[vr r0] [] _
          refine XS.iconst X12.here hx rfl (hb hby d4_36) ?_
          refine XS.goto X12.here hx rfl (pc0 := 37) (pc' := 41) rfl (hb hby d4_37) (by decide) (by decide) ?_
          show SF p e below T12 m 41 #[vr r0] [(.int 1)] _
          exact retN X12 hx (t := .boolean) Bd.returns (by simp) (hb hby d4_41) hr
        · show Qio__1 Z r0 ch0 G1 G3 h0 n0 _ T12.heap _
          rw [e12]
          exact ⟨own_b1 (by first | trivial | omega), N12, rfl⟩
  · skip
    have ohc6 : ¬ ((bI (97 ≤ ch0.toInt ∧ ch0.toInt ≤ 122)).toInt = 0) := own_neq.mp hc6
    obtain ⟨_, _, ⟨T15, L15, k15, n15⟩, -, X15, ⟨Lc15, hQ15, l15, y15, z15⟩, st15⟩ := Jvm.LawKit.callS X5 hx (y := mN27) hown (mvT hZ (tw hw 103 rfl)) (mvT hZ (tw hw 104 rfl)) (mvT hZ (tw hw 24 rfl)) (mvT hZ (tw hw 105 rfl)) (by decide) (backOf (W := 0) (rmca__1 l Z a0 hw [] r0 ch0 G1 G3 h0 n0 Z0 O2 P5 O4 rG3 S0) hZ (tw hw 105 rfl) (tw hw 24 rfl) (by decide) (by decide)) (g := (mkF m 30 #[vr r0] [(.ref r0)])) rfl (by rw [hml]; rfl) (argsL := [(.ref r0)]) (rest := []) (lenOf pd_17 rfl) rfl (by show 2 * 0 + _ ≤ _; exact Nat.le_of_eq rfl) (hb hby d4_30) (fun _ _ => ⟨rfl, e5, (by decide : 0 + 0 ≤ _), (by decide : 0 + 0 ≤ _)⟩)
    dsimp only [Pt.U, Pt.locs, Pt.cells, Pt.slots] at X15 l15 y15 z15 st15 hQ15
    subst l15 y15 z15
    obtain ⟨rfl, Nq15, e15⟩ := hQ15
    have N15 := Fr.app N5 Nq15
    have t15 := own_bt (P := True)
    have pre17 : ∀ t, SF p e below T15 m 33 #[vr r0] [(.int (bI (True)))] t → SF p e below s₁ m 0 #[vr r0] [] t := fun t k => pre7 t (by
      show SF p e below T5 m 15 #[vr r0] [(.int (bI (97 ≤ ch0.toInt ∧ ch0.toInt ≤ 122)))] _
      refine XS.ifYes X5.here hx rfl (pc0 := 15) (pc' := 29) rfl (hb hby d4_15) rfl ((if0 _ _).trans (feq hc6).2) (by decide) (by decide) ?_
      show SF p e below T5 m 29 #[vr r0] [] _
      refine XS.aloadN X5.here hx rfl (hb hby d4_29) rfl rfl ?_
      refine st15 _ ?_
      exact k)
    by_cases hc16 : (bI (True)) = (0 : Int32)
    · skip
      have ohc16 : (bI (True)).toInt = 0 := own_eq.mp hc16
      obtain ⟨fs, hr, hrun, hended, hW, hsame⟩ := X15.leave (v := some (.int 0)) (fun h => by rw [Bd.returns] at h; cases h)
      refine ⟨_, _, pre0 _ (pre17 _ ?_), hrun, hended, _, _, rfl, ?_, ⟨_, rfl⟩, hW, hsame.mono (by decide) (by decide)⟩
      · skip
        show SF p e below T15 m 33 #[vr r0] [(.int (bI (True)))] _
        refine XS.ifYes X15.here hx rfl (pc0 := 33) (pc' := 40) rfl (hb hby d4_33) rfl ((if0 _ _).trans (teq hc16).1) (by decide) (by decide) ?_
        show SF p e below T15 m 40 #[vr r0] [] _
        refine XS.iconst X15.here hx rfl (hb hby d4_40) ?_
        show SF p e below T15 m 41 #[vr r0] [(.int 0)] _
        exact retN X15 hx (t := .boolean) Bd.returns (by simp) (hb hby d4_41) hr
      · show Qio__1 Z r0 ch0 G1 G3 h0 n0 _ T15.heap _
        rw [e15]
        exact ⟨own_b0 (by first | trivial | omega), N15, rfl⟩
    · skip
      have ohc16 : ¬ ((bI (True)).toInt = 0) := own_neq.mp hc16
      obtain ⟨fs, hr, hrun, hended, hW, hsame⟩ := X15.leave (v := some (.int 1)) (fun h => by rw [Bd.returns] at h; cases h)
      refine ⟨_, _, pre0 _ (pre17 _ ?_), hrun, hended, _, _, rfl, ?_, ⟨_, rfl⟩, hW, hsame.mono (by decide) (by decide)⟩
      · skip
        show SF p e below T15 m 33 #[vr r0] [(.int (bI (True)))] _
        refine XS.ifNo X15.here hx rfl (hb hby d4_33) rfl ((if0 _ _).trans (feq hc16).1) ?_
        show SF p e below T15 m 36 #[vr r0] [] _
        refine XS.iconst X15.here hx rfl (hb hby d4_36) ?_
        refine XS.goto X15.here hx rfl (pc0 := 37) (pc' := 41) rfl (hb hby d4_37) (by decide) (by decide) ?_
        show SF p e below T15 m 41 #[vr r0] [(.int 1)] _
        exact retN X15 hx (t := .boolean) Bd.returns (by simp) (hb hby d4_41) hr
      · show Qio__1 Z r0 ch0 G1 G3 h0 n0 _ T15.heap _
        rw [e15]
        exact ⟨own_b1 (by first | trivial | omega), N15, rfl⟩
def Qca__2 (Z : State) (r0 : Addr) (ch0 : Int32) (ch1 : Int32) (G1 : Int32) (G3 : Value) (h0 : Heap) (n0 : Nat) (v : Option Value) (h : Heap) (L : List Loc) : Prop := v = some (.int (bI (((97 ≤ ch1.toInt ∧ ch1.toInt ≤ 122) ∨ (65 ≤ ch1.toInt ∧ ch1.toInt ≤ 90) ∨ (48 ≤ ch1.toInt ∧ ch1.toInt ≤ 57) ∨ ch1.toInt = 95)))) ∧ Fr n0 L ∧ h = h0
set_option maxRecDepth 65536 in
set_option maxHeartbeats 40000000 in
theorem rmca__2 (l : Launch) (Z : State) (a0 : Array Value) (hw : ∀ d ∈ tables_1, d.before a0 Z = true) (ws : List Jvm.Cond) (r0 : Addr) (ch0 : Int32) (ch1 : Int32) (G1 : Int32) (G3 : Value) (h0 : Heap) (n0 : Nat) (Z0 : n0 ≤ h0.size) (O2 : sC Z h0 G1) (P5 : ¬ (G1 = (0 : Int32))) (O4 : sI Z h0 G3) (rG3 : G3.isRef = true) (S0 : OStr Z h0 r0 [ch0, ch1]) :
    MF l Z mN27 prog_38_method_6_code 2 (some .boolean) ws (rK 4 0 0 54) #[(.ref r0)] h0 (Qca__2 Z r0 ch0 ch1 G1 G3 h0 n0) := by
  refine MetFree.of_bodySF (plainFor_of_name pn_com_example_orql_orql_Syntax) hisR ?_
  intro p e s m args below meth c s₁ Bd hml0 hP hK
  obtain ⟨rfl, hZ, hh⟩ := hP
  have hx := Bd.exec
  have hby := Bd.bytes
  have hml : c.maxLocals = 2 := hml0
  have hown : s.vm.findClass "com/example/orql/orql/Syntax" = some m.cls := findClass_of_methodNamed Bd.named
  have hnm := (name_of_methodNamed Bd.named Bd.method).1
  have X0 : Stand p l e (rK 4 0 0 54) s m #[(.ref r0)] below meth c s₁ [] 0 0 := Stand.of_body Bd
  have e0 : s₁.heap = h0 := by rw [← hh, Bd.state]; rfl
  have N0 := Fr.nil n0
  have pre0 : ∀ t, SF p e below s₁ m 0 #[vr r0, .unset] [] t → Steps p.tables e below (s₁.setTop (entryFrame m #[(.ref r0)] 2)) t := fun t k => castTop (ef_25 m r0) k
  obtain ⟨t1, k1, E1, V1, C1, A1, hp1⟩ := id S0
  have hcd1 := own_cod hp1
  have hbd1 := own_up _ hp1
  obtain ⟨cq2, kq2, q2a, q2b, q2c⟩ := isOf hZ e0 E1
  obtain ⟨_, _, ⟨T2, L2, k2, n2⟩, -, X2, ⟨Lc2, hQ2, l2, y2, z2⟩, st2⟩ := X0.virtualBack hx (y := mN24) (z := mN24) hown (mvT hZ (tw hw 106 rfl)) (mvT hZ (tw hw 107 rfl)) (notFace_of_selects (args := #[]) (mvT hZ (tw hw 109 rfl))) (mvT hZ (tw hw 109 rfl)) (mvT hZ (tw hw 108 rfl)) (by decide) (StrChars.Road.lenW (W := 1) hZ (fun d hd => hw d (own_wL d hd)) (kI := 4) (tw hw 2 rfl) E1 V1 C1 A1 hcd1 hbd1 O2 P5 (Nat.le_of_ble_eq_true rfl) (by decide) (by decide)) q2a q2c (g := (mkF m 4 #[vr r0, vi 1] [(.ref r0), (.int 1)])) rfl (by rw [hml]; rfl) (Steps.refl _) (argsL := []) (rest := [(.int 1)]) (lenOf pd_15 rfl) rfl (by show 2 * 0 + _ ≤ _; exact Nat.le_of_eq rfl) (hb hby d25_4) (fun _ _ => ⟨rfl, e0, (by decide : 0 + 0 ≤ _), (by decide : 0 + 0 ≤ _)⟩)
  dsimp only [Pt.U, Pt.locs, Pt.cells, Pt.slots] at X2 l2 y2 z2 st2 hQ2
  subst l2 y2 z2
  obtain ⟨rfl, rfl, e2⟩ := hQ2
  have Nq2 : Fr n0 ([] : List Loc) := Fr.nil n0
  have N2 := Fr.app N0 Nq2
  have hc3 : (1 : Int32) < (2 : Int32) := by decide
  obtain ⟨cq4, kq4, q4a, q4b, q4c⟩ := isOf hZ e2 E1
  obtain ⟨_, _, ⟨T4, L4, k4, n4⟩, -, X4, ⟨Lc4, hQ4, l4, y4, z4⟩, st4⟩ := X2.virtualBack hx (y := mN23) (z := mN23) hown (mvT hZ (tw hw 46 rfl)) (mvT hZ (tw hw 47 rfl)) (notFace_of_selects (args := #[]) (mvT hZ (tw hw 49 rfl))) (mvT hZ (tw hw 49 rfl)) (mvT hZ (tw hw 48 rfl)) (by decide) (StrChars.Road.chN (W := 0) hZ (fun d hd => hw d (own_wC d hd)) (kI := 4) (tw hw 2 rfl) E1 V1 C1 A1 hcd1 hbd1 O2 P5 O4 rG3 (Nat.le_of_ble_eq_true rfl) (i := 1) (Nat.le_of_ble_eq_true rfl) (j := (1 : Int32)) rfl (by decide) (by decide)) q4a q4c (g := (mkF m 12 #[vr r0, vi 1] [(.int 1), (.ref r0)])) rfl (by rw [hml]; rfl) (Steps.refl _) (argsL := [(.int 1)]) (rest := []) (lenOf pd_16 rfl) rfl (by show 2 * 0 + _ ≤ _; exact Nat.le_of_eq rfl) (hb hby d25_12) (fun _ _ => ⟨rfl, e2, (by decide : 0 + 0 ≤ _), (by decide : 0 + 0 ≤ _)⟩)
  dsimp only [Pt.U, Pt.locs, Pt.cells, Pt.slots] at X4 l4 y4 z4 st4 hQ4
  subst l4 y4 z4
  obtain ⟨rfl, rfl, e4⟩ := hQ4
  have Nq4 : Fr n0 ([] : List Loc) := Fr.nil n0
  have N4 := Fr.app N2 Nq4
  obtain ⟨_, _, ⟨T5, L5, k5, n5⟩, -, X5, ⟨Lc5, hQ5, l5, y5, z5⟩, st5⟩ := Jvm.LawKit.callS X4 hx (y := mN3) hown (mvT hZ (tw hw 119 rfl)) (mvT hZ (tw hw 120 rfl)) (mvT hZ (tw hw 24 rfl)) (mvT hZ (tw hw 121 rfl)) (by decide) (backOf (W := 0) (rm29 l Z a0 hw [] ch1  h0 n0 Z0 ) hZ (tw hw 121 rfl) (tw hw 24 rfl) (by decide) (by decide)) (g := (mkF m 15 #[vr r0, vi 1] [(.int ch1)])) rfl (by rw [hml]; rfl) (argsL := [(.int ch1)]) (rest := []) (lenOf pd_0 rfl) rfl (by show 2 * 0 + _ ≤ _; exact Nat.le_of_eq rfl) (hb hby d25_15) (fun _ _ => ⟨rfl, e4, (by decide : 0 + 0 ≤ _), (by decide : 0 + 0 ≤ _)⟩)
  dsimp only [Pt.U, Pt.locs, Pt.cells, Pt.slots] at X5 l5 y5 z5 st5 hQ5
  subst l5 y5 z5
  obtain ⟨rfl, Nq5, e5⟩ := hQ5
  have N5 := Fr.app N4 Nq5
  have t5 := own_bt (P := (97 ≤ ch1.toInt ∧ ch1.toInt ≤ 122) ∨ (65 ≤ ch1.toInt ∧ ch1.toInt ≤ 90) ∨ (48 ≤ ch1.toInt ∧ ch1.toInt ≤ 57) ∨ ch1.toInt = 95)
  have pre7 : ∀ t, SF p e below T5 m 18 #[vr r0, vi 1] [(.int (bI ((97 ≤ ch1.toInt ∧ ch1.toInt ≤ 122) ∨ (65 ≤ ch1.toInt ∧ ch1.toInt ≤ 90) ∨ (48 ≤ ch1.toInt ∧ ch1.toInt ≤ 57) ∨ ch1.toInt = 95)))] t → SF p e below s₁ m 0 #[vr r0, .unset] [] t := fun t k => (by
    show SF p e below s₁ m 0 #[vr r0, .unset] [] _
    refine XS.iconst X0.here hx rfl (hb hby d25_0) ?_
    refine XS.istoreN X0.here hx rfl (hb hby d25_1) rfl (l' := #[vr r0, vi 1]) rfl ?_
    refine XS.iloadN X0.here hx rfl (hb hby d25_2) rfl ?_
    refine XS.aloadN X0.here hx rfl (hb hby d25_3) rfl rfl ?_
    refine st2.trans ?_
    show SF p e below T2 m 7 #[vr r0, vi 1] [(.int 2), (.int 1)] _
    refine XS.icmpNo X2.here hx rfl (hb hby d25_7) rfl (tlt hc3).2.1 ?_
    refine XS.aloadN X2.here hx rfl (hb hby d25_10) rfl rfl ?_
    refine XS.iloadN X2.here hx rfl (hb hby d25_11) rfl ?_
    refine st4.trans ?_
    refine st5 _ ?_
    exact k)
  by_cases hc6 : (bI ((97 ≤ ch1.toInt ∧ ch1.toInt ≤ 122) ∨ (65 ≤ ch1.toInt ∧ ch1.toInt ≤ 90) ∨ (48 ≤ ch1.toInt ∧ ch1.toInt ≤ 57) ∨ ch1.toInt = 95)) = (0 : Int32)
  · skip
    have ohc6 : (bI ((97 ≤ ch1.toInt ∧ ch1.toInt ≤ 122) ∨ (65 ≤ ch1.toInt ∧ ch1.toInt ≤ 90) ∨ (48 ≤ ch1.toInt ∧ ch1.toInt ≤ 57) ∨ ch1.toInt = 95)).toInt = 0 := own_eq.mp hc6
    obtain ⟨fs, hr, hrun, hended, hW, hsame⟩ := X5.leave (v := some (.int 0)) (fun h => by rw [Bd.returns] at h; cases h)
    refine ⟨_, _, pre0 _ (pre7 _ ?_), hrun, hended, _, _, rfl, ?_, ⟨_, rfl⟩, hW, hsame.mono (by decide) (by decide)⟩
    · skip
      show SF p e below T5 m 18 #[vr r0, vi 1] [(.int (bI ((97 ≤ ch1.toInt ∧ ch1.toInt ≤ 122) ∨ (65 ≤ ch1.toInt ∧ ch1.toInt ≤ 90) ∨ (48 ≤ ch1.toInt ∧ ch1.toInt ≤ 57) ∨ ch1.toInt = 95)))] _
      refine XS.ifNo X5.here hx rfl (hb hby d25_18) rfl ((if0 _ _).trans (teq hc6).2) ?_
      show SF p e below T5 m 21 #[vr r0, vi 1] [] _
      refine XS.iconst X5.here hx rfl (hb hby d25_21) ?_
      show SF p e below T5 m 22 #[vr r0, vi 1] [(.int 0)] _
      exact retN X5 hx (t := .boolean) Bd.returns (by simp) (hb hby d25_22) hr
    · show Qca__2 Z r0 ch0 ch1 G1 G3 h0 n0 _ T5.heap _
      rw [e5]
      exact ⟨own_b0 (by first | trivial | omega), N5, rfl⟩
  · skip
    have ohc6 : ¬ ((bI ((97 ≤ ch1.toInt ∧ ch1.toInt ≤ 122) ∨ (65 ≤ ch1.toInt ∧ ch1.toInt ≤ 90) ∨ (48 ≤ ch1.toInt ∧ ch1.toInt ≤ 57) ∨ ch1.toInt = 95)).toInt = 0) := own_neq.mp hc6
    obtain ⟨cq8, kq8, q8a, q8b, q8c⟩ := isOf hZ e5 E1
    obtain ⟨_, _, ⟨T8, L8, k8, n8⟩, -, X8, ⟨Lc8, hQ8, l8, y8, z8⟩, st8⟩ := X5.virtualBack hx (y := mN24) (z := mN24) hown (mvT hZ (tw hw 106 rfl)) (mvT hZ (tw hw 107 rfl)) (notFace_of_selects (args := #[]) (mvT hZ (tw hw 109 rfl))) (mvT hZ (tw hw 109 rfl)) (mvT hZ (tw hw 108 rfl)) (by decide) (StrChars.Road.lenW (W := 1) hZ (fun d hd => hw d (own_wL d hd)) (kI := 4) (tw hw 2 rfl) E1 V1 C1 A1 hcd1 hbd1 O2 P5 (Nat.le_of_ble_eq_true rfl) (by decide) (by decide)) q8a q8c (g := (mkF m 4 #[vr r0, vi 2] [(.ref r0), (.int 2)])) rfl (by rw [hml]; rfl) (Steps.refl _) (argsL := []) (rest := [(.int 2)]) (lenOf pd_15 rfl) rfl (by show 2 * 0 + _ ≤ _; exact Nat.le_of_eq rfl) (hb hby d25_4) (fun _ _ => ⟨rfl, e5, (by decide : 0 + 0 ≤ _), (by decide : 0 + 0 ≤ _)⟩)
    dsimp only [Pt.U, Pt.locs, Pt.cells, Pt.slots] at X8 l8 y8 z8 st8 hQ8
    subst l8 y8 z8
    obtain ⟨rfl, rfl, e8⟩ := hQ8
    have Nq8 : Fr n0 ([] : List Loc) := Fr.nil n0
    have N8 := Fr.app N5 Nq8
    have hc9 : ¬ ((2 : Int32) < (2 : Int32)) := by decide
    obtain ⟨fs, hr, hrun, hended, hW, hsame⟩ := X8.leave (v := some (.int 1)) (fun h => by rw [Bd.returns] at h; cases h)
    refine ⟨_, _, pre0 _ (pre7 _ ?_), hrun, hended, _, _, rfl, ?_, ⟨_, rfl⟩, hW, hsame.mono (by decide) (by decide)⟩
    · skip
      show SF p e below T5 m 18 #[vr r0, vi 1] [(.int (bI ((97 ≤ ch1.toInt ∧ ch1.toInt ≤ 122) ∨ (65 ≤ ch1.toInt ∧ ch1.toInt ≤ 90) ∨ (48 ≤ ch1.toInt ∧ ch1.toInt ≤ 57) ∨ ch1.toInt = 95)))] _
      refine XS.ifYes X5.here hx rfl (pc0 := 18) (pc' := 23) rfl (hb hby d25_18) rfl ((if0 _ _).trans (feq hc6).2) (by decide) (by decide) ?_
      show SF p e below T5 m 23 #[vr r0, vi 1] [] _
      refine XS.iinc X5.here hx rfl (hb hby d25_23) rfl (l' := #[vr r0, vi 2]) rfl ?_
      refine XS.goto X5.here hx rfl (pc0 := 26) (pc' := 2) rfl (hb hby d25_26) (by decide) (by decide) ?_
      refine XS.iloadN X5.here hx rfl (hb hby d25_2) rfl ?_
      refine XS.aloadN X5.here hx rfl (hb hby d25_3) rfl rfl ?_
      refine st8.trans ?_
      show SF p e below T8 m 7 #[vr r0, vi 2] [(.int 2), (.int 2)] _
      refine XS.icmpYes X8.here hx rfl (pc0 := 7) (pc' := 29) rfl (hb hby d25_7) rfl (flt hc9).2.1 (by decide) (by decide) ?_
      refine XS.iconst X8.here hx rfl (hb hby d25_29) ?_
      show SF p e below T8 m 30 #[vr r0, vi 2] [(.int 1)] _
      exact retN X8 hx (t := .boolean) Bd.returns (by simp) (hb hby d25_30) hr
    · show Qca__2 Z r0 ch0 ch1 G1 G3 h0 n0 _ T8.heap _
      rw [e8]
      exact ⟨own_b1 (by first | trivial | omega), N8, rfl⟩
def Qio__2 (Z : State) (r0 : Addr) (ch0 : Int32) (ch1 : Int32) (G1 : Int32) (G3 : Value) (h0 : Heap) (n0 : Nat) (v : Option Value) (h : Heap) (L : List Loc) : Prop := v = some (.int (bI (((97 ≤ ch0.toInt ∧ ch0.toInt ≤ 122) ∨ (48 ≤ ch0.toInt ∧ ch0.toInt ≤ 57)) ∧ ((97 ≤ ch1.toInt ∧ ch1.toInt ≤ 122) ∨ (65 ≤ ch1.toInt ∧ ch1.toInt ≤ 90) ∨ (48 ≤ ch1.toInt ∧ ch1.toInt ≤ 57) ∨ ch1.toInt = 95)))) ∧ Fr n0 L ∧ h = h0
set_option maxRecDepth 65536 in
set_option maxHeartbeats 40000000 in
theorem rmio__2 (l : Launch) (Z : State) (a0 : Array Value) (hw : ∀ d ∈ tables_1, d.before a0 Z = true) (ws : List Jvm.Cond) (r0 : Addr) (ch0 : Int32) (ch1 : Int32) (G1 : Int32) (G3 : Value) (h0 : Heap) (n0 : Nat) (Z0 : n0 ≤ h0.size) (O2 : sC Z h0 G1) (P5 : ¬ (G1 = (0 : Int32))) (O4 : sI Z h0 G3) (rG3 : G3.isRef = true) (S0 : OStr Z h0 r0 [ch0, ch1]) :
    MF l Z mN26 prog_38_method_5_code 1 (some .boolean) ws (rK 6 0 0 79) #[(.ref r0)] h0 (Qio__2 Z r0 ch0 ch1 G1 G3 h0 n0) := by
  refine MetFree.of_bodySF (plainFor_of_name pn_com_example_orql_orql_Syntax) hisR ?_
  intro p e s m args below meth c s₁ Bd hml0 hP hK
  obtain ⟨rfl, hZ, hh⟩ := hP
  have hx := Bd.exec
  have hby := Bd.bytes
  have hml : c.maxLocals = 1 := hml0
  have hown : s.vm.findClass "com/example/orql/orql/Syntax" = some m.cls := findClass_of_methodNamed Bd.named
  have hnm := (name_of_methodNamed Bd.named Bd.method).1
  have X0 : Stand p l e (rK 6 0 0 79) s m #[(.ref r0)] below meth c s₁ [] 0 0 := Stand.of_body Bd
  have e0 : s₁.heap = h0 := by rw [← hh, Bd.state]; rfl
  have N0 := Fr.nil n0
  have pre0 : ∀ t, SF p e below s₁ m 0 #[vr r0] [] t → Steps p.tables e below (s₁.setTop (entryFrame m #[(.ref r0)] 1)) t := fun t k => castTop (ef_4 m r0) k
  obtain ⟨t1, k1, E1, V1, C1, A1, hp1⟩ := id S0
  have hcd1 := own_cod hp1
  have hbd1 := own_up _ hp1
  obtain ⟨cq2, kq2, q2a, q2b, q2c⟩ := isOf hZ e0 E1
  obtain ⟨_, _, ⟨T2, L2, k2, n2⟩, -, X2, ⟨Lc2, hQ2, l2, y2, z2⟩, st2⟩ := X0.virtualBack hx (y := mN25) (z := mN25) hown (mvT hZ (tw hw 26 rfl)) (mvT hZ (tw hw 27 rfl)) (notFace_of_selects (args := #[]) (mvT hZ (tw hw 29 rfl))) (mvT hZ (tw hw 29 rfl)) (mvT hZ (tw hw 28 rfl)) (by decide) (StrChars.Road.empW (W := 0) hZ (fun d hd => hw d (own_wE d hd)) (kI := 4) (tw hw 2 rfl) E1 V1 C1 A1 hcd1 hbd1 (Nat.le_of_ble_eq_true rfl) (by decide) (by decide)) q2a q2c (g := (mkF m 1 #[vr r0] [(.ref r0)])) rfl (by rw [hml]; rfl) (Steps.refl _) (argsL := []) (rest := []) (lenOf pd_13 rfl) rfl (by show 2 * 0 + _ ≤ _; exact Nat.le_of_eq rfl) (hb hby d4_1) (fun _ _ => ⟨rfl, e0, (by decide : 0 + 0 ≤ _), (by decide : 0 + 0 ≤ _)⟩)
  dsimp only [Pt.U, Pt.locs, Pt.cells, Pt.slots] at X2 l2 y2 z2 st2 hQ2
  subst l2 y2 z2
  obtain ⟨rfl, rfl, e2⟩ := hQ2
  have Nq2 : Fr n0 ([] : List Loc) := Fr.nil n0
  have N2 := Fr.app N0 Nq2
  have hc3 : (0 : Int32) = (0 : Int32) := by decide
  obtain ⟨cq4, kq4, q4a, q4b, q4c⟩ := isOf hZ e2 E1
  obtain ⟨_, _, ⟨T4, L4, k4, n4⟩, -, X4, ⟨Lc4, hQ4, l4, y4, z4⟩, st4⟩ := X2.virtualBack hx (y := mN23) (z := mN23) hown (mvT hZ (tw hw 46 rfl)) (mvT hZ (tw hw 47 rfl)) (notFace_of_selects (args := #[]) (mvT hZ (tw hw 49 rfl))) (mvT hZ (tw hw 49 rfl)) (mvT hZ (tw hw 48 rfl)) (by decide) (StrChars.Road.chN (W := 0) hZ (fun d hd => hw d (own_wC d hd)) (kI := 4) (tw hw 2 rfl) E1 V1 C1 A1 hcd1 hbd1 O2 P5 O4 rG3 (Nat.le_of_ble_eq_true rfl) (i := 0) (Nat.le_of_ble_eq_true rfl) (j := (0 : Int32)) rfl (by decide) (by decide)) q4a q4c (g := (mkF m 9 #[vr r0] [(.int 0), (.ref r0)])) rfl (by rw [hml]; rfl) (Steps.refl _) (argsL := [(.int 0)]) (rest := []) (lenOf pd_16 rfl) rfl (by show 2 * 0 + _ ≤ _; exact Nat.le_of_eq rfl) (hb hby d4_9) (fun _ _ => ⟨rfl, e2, (by decide : 0 + 0 ≤ _), (by decide : 0 + 0 ≤ _)⟩)
  dsimp only [Pt.U, Pt.locs, Pt.cells, Pt.slots] at X4 l4 y4 z4 st4 hQ4
  subst l4 y4 z4
  obtain ⟨rfl, rfl, e4⟩ := hQ4
  have Nq4 : Fr n0 ([] : List Loc) := Fr.nil n0
  have N4 := Fr.app N2 Nq4
  obtain ⟨_, _, ⟨T5, L5, k5, n5⟩, -, X5, ⟨Lc5, hQ5, l5, y5, z5⟩, st5⟩ := Jvm.LawKit.callS X4 hx (y := mN0) hown (mvT hZ (tw hw 68 rfl)) (mvT hZ (tw hw 69 rfl)) (mvT hZ (tw hw 24 rfl)) (mvT hZ (tw hw 70 rfl)) (by decide) (backOf (W := 0) (rm15 l Z a0 hw [] ch0  h0 n0 Z0 ) hZ (tw hw 70 rfl) (tw hw 24 rfl) (by decide) (by decide)) (g := (mkF m 12 #[vr r0] [(.int ch0)])) rfl (by rw [hml]; rfl) (argsL := [(.int ch0)]) (rest := []) (lenOf pd_0 rfl) rfl (by show 2 * 0 + _ ≤ _; exact Nat.le_of_eq rfl) (hb hby d4_12) (fun _ _ => ⟨rfl, e4, (by decide : 0 + 0 ≤ _), (by decide : 0 + 0 ≤ _)⟩)
  dsimp only [Pt.U, Pt.locs, Pt.cells, Pt.slots] at X5 l5 y5 z5 st5 hQ5
  subst l5 y5 z5
  obtain ⟨rfl, Nq5, e5⟩ := hQ5
  have N5 := Fr.app N4 Nq5
  have t5 := own_bt (P := 97 ≤ ch0.toInt ∧ ch0.toInt ≤ 122)
  have pre7 : ∀ t, SF p e below T5 m 15 #[vr r0] [(.int (bI (97 ≤ ch0.toInt ∧ ch0.toInt ≤ 122)))] t → SF p e below s₁ m 0 #[vr r0] [] t := fun t k => (by
    show SF p e below s₁ m 0 #[vr r0] [] _
    refine XS.aloadN X0.here hx rfl (hb hby d4_0) rfl rfl ?_
    refine st2.trans ?_
    refine XS.ifNo X2.here hx rfl (hb hby d4_4) rfl ((if0 _ _).trans (teq hc3).2) ?_
    refine XS.aloadN X2.here hx rfl (hb hby d4_7) rfl rfl ?_
    refine XS.iconst X2.here hx rfl (hb hby d4_8) ?_
    show SF p e below T2 m 9 #[vr r0] [(.int 0), (.ref r0)] _
    refine st4.trans ?_
    refine st5 _ ?_
    exact k)
  by_cases hc6 : (bI (97 ≤ ch0.toInt ∧ ch0.toInt ≤ 122)) = (0 : Int32)
  · skip
    have ohc6 : (bI (97 ≤ ch0.toInt ∧ ch0.toInt ≤ 122)).toInt = 0 := own_eq.mp hc6
    obtain ⟨cq8, kq8, q8a, q8b, q8c⟩ := isOf hZ e5 E1
    obtain ⟨_, _, ⟨T8, L8, k8, n8⟩, -, X8, ⟨Lc8, hQ8, l8, y8, z8⟩, st8⟩ := X5.virtualBack hx (y := mN23) (z := mN23) hown (mvT hZ (tw hw 46 rfl)) (mvT hZ (tw hw 47 rfl)) (notFace_of_selects (args := #[]) (mvT hZ (tw hw 49 rfl))) (mvT hZ (tw hw 49 rfl)) (mvT hZ (tw hw 48 rfl)) (by decide) (StrChars.Road.chN (W := 0) hZ (fun d hd => hw d (own_wC d hd)) (kI := 4) (tw hw 2 rfl) E1 V1 C1 A1 hcd1 hbd1 O2 P5 O4 rG3 (Nat.le_of_ble_eq_true rfl) (i := 0) (Nat.le_of_ble_eq_true rfl) (j := (0 : Int32)) rfl (by decide) (by decide)) q8a q8c (g := (mkF m 20 #[vr r0] [(.int 0), (.ref r0)])) rfl (by rw [hml]; rfl) (Steps.refl _) (argsL := [(.int 0)]) (rest := []) (lenOf pd_16 rfl) rfl (by show 2 * 0 + _ ≤ _; exact Nat.le_of_eq rfl) (hb hby d4_20) (fun _ _ => ⟨rfl, e5, (by decide : 0 + 0 ≤ _), (by decide : 0 + 0 ≤ _)⟩)
    dsimp only [Pt.U, Pt.locs, Pt.cells, Pt.slots] at X8 l8 y8 z8 st8 hQ8
    subst l8 y8 z8
    obtain ⟨rfl, rfl, e8⟩ := hQ8
    have Nq8 : Fr n0 ([] : List Loc) := Fr.nil n0
    have N8 := Fr.app N5 Nq8
    obtain ⟨_, _, ⟨T9, L9, k9, n9⟩, -, X9, ⟨Lc9, hQ9, l9, y9, z9⟩, st9⟩ := Jvm.LawKit.callS X8 hx (y := mN2) hown (mvT hZ (tw hw 71 rfl)) (mvT hZ (tw hw 72 rfl)) (mvT hZ (tw hw 24 rfl)) (mvT hZ (tw hw 73 rfl)) (by decide) (backOf (W := 0) (rm16 l Z a0 hw [] ch0  h0 n0 Z0 ) hZ (tw hw 73 rfl) (tw hw 24 rfl) (by decide) (by decide)) (g := (mkF m 23 #[vr r0] [(.int ch0)])) rfl (by rw [hml]; rfl) (argsL := [(.int ch0)]) (rest := []) (lenOf pd_0 rfl) rfl (by show 2 * 0 + _ ≤ _; exact Nat.le_of_eq rfl) (hb hby d4_23) (fun _ _ => ⟨rfl, e8, (by decide : 0 + 0 ≤ _), (by decide : 0 + 0 ≤ _)⟩)
    dsimp only [Pt.U, Pt.locs, Pt.cells, Pt.slots] at X9 l9 y9 z9 st9 hQ9
    subst l9 y9 z9
    obtain ⟨rfl, Nq9, e9⟩ := hQ9
    have N9 := Fr.app N8 Nq9
    have t9 := own_bt (P := 48 ≤ ch0.toInt ∧ ch0.toInt ≤ 57)
    have pre11 : ∀ t, SF p e below T9 m 26 #[vr r0] [(.int (bI (48 ≤ ch0.toInt ∧ ch0.toInt ≤ 57)))] t → SF p e below s₁ m 0 #[vr r0] [] t := fun t k => pre7 t (by
      show SF p e below T5 m 15 #[vr r0] [(.int (bI (97 ≤ ch0.toInt ∧ ch0.toInt ≤ 122)))] _
      refine XS.ifNo X5.here hx rfl (hb hby d4_15) rfl ((if0 _ _).trans (teq hc6).2) ?_
      show SF p e below T5 m 18 #[vr r0] [] _
      refine XS.aloadN X5.here hx rfl (hb hby d4_18) rfl rfl ?_
      refine XS.iconst X5.here hx rfl (hb hby d4_19) ?_
      refine st8.trans ?_
      refine st9 _ ?_
      exact k)
    by_cases hc10 : (bI (48 ≤ ch0.toInt ∧ ch0.toInt ≤ 57)) = (0 : Int32)
    · skip
      have ohc10 : (bI (48 ≤ ch0.toInt ∧ ch0.toInt ≤ 57)).toInt = 0 := own_eq.mp hc10
      obtain ⟨fs, hr, hrun, hended, hW, hsame⟩ := X9.leave (v := some (.int 0)) (fun h => by rw [Bd.returns] at h; cases h)
      refine ⟨_, _, pre0 _ (pre11 _ ?_), hrun, hended, _, _, rfl, ?_, ⟨_, rfl⟩, hW, hsame.mono (by decide) (by decide)⟩
      · skip
        show SF p e below T9 m 26 #[vr r0] [(.int (bI (48 ≤ ch0.toInt ∧ ch0.toInt ≤ 57)))] _
        refine XS.ifYes X9.here hx rfl (pc0 := 26) (pc' := 40) rfl (hb hby d4_26) rfl ((if0 _ _).trans (teq hc10).1) (by decide) (by decide) ?_
        show SF p e below T9 m 40 #[vr r0] [] _
        refine XS.iconst X9.here hx rfl (hb hby d4_40) ?_
        show SF p e below T9 m 41 #[vr r0] [(.int 0)] _
        exact retN X9 hx (t := .boolean) Bd.returns (by simp) (hb hby d4_41) hr
      · show Qio__2 Z r0 ch0 ch1 G1 G3 h0 n0 _ T9.heap _
        rw [e9]
        exact ⟨own_b0 (by first | trivial | omega), N9, rfl⟩
    · skip
      have ohc10 : ¬ ((bI (48 ≤ ch0.toInt ∧ ch0.toInt ≤ 57)).toInt = 0) := own_neq.mp hc10
      obtain ⟨_, _, ⟨T12, L12, k12, n12⟩, -, X12, ⟨Lc12, hQ12, l12, y12, z12⟩, st12⟩ := Jvm.LawKit.callS X9 hx (y := mN27) hown (mvT hZ (tw hw 103 rfl)) (mvT hZ (tw hw 104 rfl)) (mvT hZ (tw hw 24 rfl)) (mvT hZ (tw hw 105 rfl)) (by decide) (backOf (W := 0) (rmca__2 l Z a0 hw [] r0 ch0 ch1 G1 G3 h0 n0 Z0 O2 P5 O4 rG3 S0) hZ (tw hw 105 rfl) (tw hw 24 rfl) (by decide) (by decide)) (g := (mkF m 30 #[vr r0] [(.ref r0)])) rfl (by rw [hml]; rfl) (argsL := [(.ref r0)]) (rest := []) (lenOf pd_17 rfl) rfl (by show 2 * 0 + _ ≤ _; exact Nat.le_of_eq rfl) (hb hby d4_30) (fun _ _ => ⟨rfl, e9, (by decide : 0 + 0 ≤ _), (by decide : 0 + 0 ≤ _)⟩)
      dsimp only [Pt.U, Pt.locs, Pt.cells, Pt.slots] at X12 l12 y12 z12 st12 hQ12
      subst l12 y12 z12
      obtain ⟨rfl, Nq12, e12⟩ := hQ12
      have N12 := Fr.app N9 Nq12
      have t12 := own_bt (P := ((97 ≤ ch1.toInt ∧ ch1.toInt ≤ 122) ∨ (65 ≤ ch1.toInt ∧ ch1.toInt ≤ 90) ∨ (48 ≤ ch1.toInt ∧ ch1.toInt ≤ 57) ∨ ch1.toInt = 95))
      have pre14 : ∀ t, SF p e below T12 m 33 #[vr r0] [(.int (bI (((97 ≤ ch1.toInt ∧ ch1.toInt ≤ 122) ∨ (65 ≤ ch1.toInt ∧ ch1.toInt ≤ 90) ∨ (48 ≤ ch1.toInt ∧ ch1.toInt ≤ 57) ∨ ch1.toInt = 95))))] t → SF p e below s₁ m 0 #[vr r0] [] t := fun t k => pre11 t (by
        show SF p e below T9 m 26 #[vr r0] [(.int (bI (48 ≤ ch0.toInt ∧ ch0.toInt ≤ 57)))] _
        refine XS.ifNo X9.here hx rfl (hb hby d4_26) rfl ((if0 _ _).trans (feq hc10).1) ?_
        show SF p e below T9 m 29 #[vr r0] [] _
        refine XS.aloadN X9.here hx rfl (hb hby d4_29) rfl rfl ?_
        refine st12 _ ?_
        exact k)
      by_cases hc13 : (bI (((97 ≤ ch1.toInt ∧ ch1.toInt ≤ 122) ∨ (65 ≤ ch1.toInt ∧ ch1.toInt ≤ 90) ∨ (48 ≤ ch1.toInt ∧ ch1.toInt ≤ 57) ∨ ch1.toInt = 95))) = (0 : Int32)
      · skip
        have ohc13 : (bI (((97 ≤ ch1.toInt ∧ ch1.toInt ≤ 122) ∨ (65 ≤ ch1.toInt ∧ ch1.toInt ≤ 90) ∨ (48 ≤ ch1.toInt ∧ ch1.toInt ≤ 57) ∨ ch1.toInt = 95))).toInt = 0 := own_eq.mp hc13
        obtain ⟨fs, hr, hrun, hended, hW, hsame⟩ := X12.leave (v := some (.int 0)) (fun h => by rw [Bd.returns] at h; cases h)
        refine ⟨_, _, pre0 _ (pre14 _ ?_), hrun, hended, _, _, rfl, ?_, ⟨_, rfl⟩, hW, hsame.mono (by decide) (by decide)⟩
        · skip
          show SF p e below T12 m 33 #[vr r0] [(.int (bI (((97 ≤ ch1.toInt ∧ ch1.toInt ≤ 122) ∨ (65 ≤ ch1.toInt ∧ ch1.toInt ≤ 90) ∨ (48 ≤ ch1.toInt ∧ ch1.toInt ≤ 57) ∨ ch1.toInt = 95))))] _
          refine XS.ifYes X12.here hx rfl (pc0 := 33) (pc' := 40) rfl (hb hby d4_33) rfl ((if0 _ _).trans (teq hc13).1) (by decide) (by decide) ?_
          show SF p e below T12 m 40 #[vr r0] [] _
          refine XS.iconst X12.here hx rfl (hb hby d4_40) ?_
          show SF p e below T12 m 41 #[vr r0] [(.int 0)] _
          exact retN X12 hx (t := .boolean) Bd.returns (by simp) (hb hby d4_41) hr
        · show Qio__2 Z r0 ch0 ch1 G1 G3 h0 n0 _ T12.heap _
          rw [e12]
          exact ⟨own_b0 (by first | trivial | omega), N12, rfl⟩
      · skip
        have ohc13 : ¬ ((bI (((97 ≤ ch1.toInt ∧ ch1.toInt ≤ 122) ∨ (65 ≤ ch1.toInt ∧ ch1.toInt ≤ 90) ∨ (48 ≤ ch1.toInt ∧ ch1.toInt ≤ 57) ∨ ch1.toInt = 95))).toInt = 0) := own_neq.mp hc13
        obtain ⟨fs, hr, hrun, hended, hW, hsame⟩ := X12.leave (v := some (.int 1)) (fun h => by rw [Bd.returns] at h; cases h)
        refine ⟨_, _, pre0 _ (pre14 _ ?_), hrun, hended, _, _, rfl, ?_, ⟨_, rfl⟩, hW, hsame.mono (by decide) (by decide)⟩
        · skip
          show SF p e below T12 m 33 #[vr r0] [(.int (bI (((97 ≤ ch1.toInt ∧ ch1.toInt ≤ 122) ∨ (65 ≤ ch1.toInt ∧ ch1.toInt ≤ 90) ∨ (48 ≤ ch1.toInt ∧ ch1.toInt ≤ 57) ∨ ch1.toInt = 95))))] _
          refine XS.ifNo X12.here hx rfl (hb hby d4_33) rfl ((if0 _ _).trans (feq hc13).1) ?_
          show SF p e below T12 m 36 #[vr r0] [] _
          refine XS.iconst X12.here hx rfl (hb hby d4_36) ?_
          refine XS.goto X12.here hx rfl (pc0 := 37) (pc' := 41) rfl (hb hby d4_37) (by decide) (by decide) ?_
          show SF p e below T12 m 41 #[vr r0] [(.int 1)] _
          exact retN X12 hx (t := .boolean) Bd.returns (by simp) (hb hby d4_41) hr
        · show Qio__2 Z r0 ch0 ch1 G1 G3 h0 n0 _ T12.heap _
          rw [e12]
          exact ⟨own_b1 (by first | trivial | omega), N12, rfl⟩
  · skip
    have ohc6 : ¬ ((bI (97 ≤ ch0.toInt ∧ ch0.toInt ≤ 122)).toInt = 0) := own_neq.mp hc6
    obtain ⟨_, _, ⟨T15, L15, k15, n15⟩, -, X15, ⟨Lc15, hQ15, l15, y15, z15⟩, st15⟩ := Jvm.LawKit.callS X5 hx (y := mN27) hown (mvT hZ (tw hw 103 rfl)) (mvT hZ (tw hw 104 rfl)) (mvT hZ (tw hw 24 rfl)) (mvT hZ (tw hw 105 rfl)) (by decide) (backOf (W := 0) (rmca__2 l Z a0 hw [] r0 ch0 ch1 G1 G3 h0 n0 Z0 O2 P5 O4 rG3 S0) hZ (tw hw 105 rfl) (tw hw 24 rfl) (by decide) (by decide)) (g := (mkF m 30 #[vr r0] [(.ref r0)])) rfl (by rw [hml]; rfl) (argsL := [(.ref r0)]) (rest := []) (lenOf pd_17 rfl) rfl (by show 2 * 0 + _ ≤ _; exact Nat.le_of_eq rfl) (hb hby d4_30) (fun _ _ => ⟨rfl, e5, (by decide : 0 + 0 ≤ _), (by decide : 0 + 0 ≤ _)⟩)
    dsimp only [Pt.U, Pt.locs, Pt.cells, Pt.slots] at X15 l15 y15 z15 st15 hQ15
    subst l15 y15 z15
    obtain ⟨rfl, Nq15, e15⟩ := hQ15
    have N15 := Fr.app N5 Nq15
    have t15 := own_bt (P := ((97 ≤ ch1.toInt ∧ ch1.toInt ≤ 122) ∨ (65 ≤ ch1.toInt ∧ ch1.toInt ≤ 90) ∨ (48 ≤ ch1.toInt ∧ ch1.toInt ≤ 57) ∨ ch1.toInt = 95))
    have pre17 : ∀ t, SF p e below T15 m 33 #[vr r0] [(.int (bI (((97 ≤ ch1.toInt ∧ ch1.toInt ≤ 122) ∨ (65 ≤ ch1.toInt ∧ ch1.toInt ≤ 90) ∨ (48 ≤ ch1.toInt ∧ ch1.toInt ≤ 57) ∨ ch1.toInt = 95))))] t → SF p e below s₁ m 0 #[vr r0] [] t := fun t k => pre7 t (by
      show SF p e below T5 m 15 #[vr r0] [(.int (bI (97 ≤ ch0.toInt ∧ ch0.toInt ≤ 122)))] _
      refine XS.ifYes X5.here hx rfl (pc0 := 15) (pc' := 29) rfl (hb hby d4_15) rfl ((if0 _ _).trans (feq hc6).2) (by decide) (by decide) ?_
      show SF p e below T5 m 29 #[vr r0] [] _
      refine XS.aloadN X5.here hx rfl (hb hby d4_29) rfl rfl ?_
      refine st15 _ ?_
      exact k)
    by_cases hc16 : (bI (((97 ≤ ch1.toInt ∧ ch1.toInt ≤ 122) ∨ (65 ≤ ch1.toInt ∧ ch1.toInt ≤ 90) ∨ (48 ≤ ch1.toInt ∧ ch1.toInt ≤ 57) ∨ ch1.toInt = 95))) = (0 : Int32)
    · skip
      have ohc16 : (bI (((97 ≤ ch1.toInt ∧ ch1.toInt ≤ 122) ∨ (65 ≤ ch1.toInt ∧ ch1.toInt ≤ 90) ∨ (48 ≤ ch1.toInt ∧ ch1.toInt ≤ 57) ∨ ch1.toInt = 95))).toInt = 0 := own_eq.mp hc16
      obtain ⟨fs, hr, hrun, hended, hW, hsame⟩ := X15.leave (v := some (.int 0)) (fun h => by rw [Bd.returns] at h; cases h)
      refine ⟨_, _, pre0 _ (pre17 _ ?_), hrun, hended, _, _, rfl, ?_, ⟨_, rfl⟩, hW, hsame.mono (by decide) (by decide)⟩
      · skip
        show SF p e below T15 m 33 #[vr r0] [(.int (bI (((97 ≤ ch1.toInt ∧ ch1.toInt ≤ 122) ∨ (65 ≤ ch1.toInt ∧ ch1.toInt ≤ 90) ∨ (48 ≤ ch1.toInt ∧ ch1.toInt ≤ 57) ∨ ch1.toInt = 95))))] _
        refine XS.ifYes X15.here hx rfl (pc0 := 33) (pc' := 40) rfl (hb hby d4_33) rfl ((if0 _ _).trans (teq hc16).1) (by decide) (by decide) ?_
        show SF p e below T15 m 40 #[vr r0] [] _
        refine XS.iconst X15.here hx rfl (hb hby d4_40) ?_
        show SF p e below T15 m 41 #[vr r0] [(.int 0)] _
        exact retN X15 hx (t := .boolean) Bd.returns (by simp) (hb hby d4_41) hr
      · show Qio__2 Z r0 ch0 ch1 G1 G3 h0 n0 _ T15.heap _
        rw [e15]
        exact ⟨own_b0 (by first | trivial | omega), N15, rfl⟩
    · skip
      have ohc16 : ¬ ((bI (((97 ≤ ch1.toInt ∧ ch1.toInt ≤ 122) ∨ (65 ≤ ch1.toInt ∧ ch1.toInt ≤ 90) ∨ (48 ≤ ch1.toInt ∧ ch1.toInt ≤ 57) ∨ ch1.toInt = 95))).toInt = 0) := own_neq.mp hc16
      obtain ⟨fs, hr, hrun, hended, hW, hsame⟩ := X15.leave (v := some (.int 1)) (fun h => by rw [Bd.returns] at h; cases h)
      refine ⟨_, _, pre0 _ (pre17 _ ?_), hrun, hended, _, _, rfl, ?_, ⟨_, rfl⟩, hW, hsame.mono (by decide) (by decide)⟩
      · skip
        show SF p e below T15 m 33 #[vr r0] [(.int (bI (((97 ≤ ch1.toInt ∧ ch1.toInt ≤ 122) ∨ (65 ≤ ch1.toInt ∧ ch1.toInt ≤ 90) ∨ (48 ≤ ch1.toInt ∧ ch1.toInt ≤ 57) ∨ ch1.toInt = 95))))] _
        refine XS.ifNo X15.here hx rfl (hb hby d4_33) rfl ((if0 _ _).trans (feq hc16).1) ?_
        show SF p e below T15 m 36 #[vr r0] [] _
        refine XS.iconst X15.here hx rfl (hb hby d4_36) ?_
        refine XS.goto X15.here hx rfl (pc0 := 37) (pc' := 41) rfl (hb hby d4_37) (by decide) (by decide) ?_
        show SF p e below T15 m 41 #[vr r0] [(.int 1)] _
        exact retN X15 hx (t := .boolean) Bd.returns (by simp) (hb hby d4_41) hr
      · show Qio__2 Z r0 ch0 ch1 G1 G3 h0 n0 _ T15.heap _
        rw [e15]
        exact ⟨own_b1 (by first | trivial | omega), N15, rfl⟩
def Qca__3 (Z : State) (r0 : Addr) (ch0 : Int32) (ch1 : Int32) (ch2 : Int32) (G1 : Int32) (G3 : Value) (h0 : Heap) (n0 : Nat) (v : Option Value) (h : Heap) (L : List Loc) : Prop := v = some (.int (bI (((97 ≤ ch1.toInt ∧ ch1.toInt ≤ 122) ∨ (65 ≤ ch1.toInt ∧ ch1.toInt ≤ 90) ∨ (48 ≤ ch1.toInt ∧ ch1.toInt ≤ 57) ∨ ch1.toInt = 95) ∧ ((97 ≤ ch2.toInt ∧ ch2.toInt ≤ 122) ∨ (65 ≤ ch2.toInt ∧ ch2.toInt ≤ 90) ∨ (48 ≤ ch2.toInt ∧ ch2.toInt ≤ 57) ∨ ch2.toInt = 95)))) ∧ Fr n0 L ∧ h = h0
set_option maxRecDepth 65536 in
set_option maxHeartbeats 40000000 in
theorem rmca__3 (l : Launch) (Z : State) (a0 : Array Value) (hw : ∀ d ∈ tables_1, d.before a0 Z = true) (ws : List Jvm.Cond) (r0 : Addr) (ch0 : Int32) (ch1 : Int32) (ch2 : Int32) (G1 : Int32) (G3 : Value) (h0 : Heap) (n0 : Nat) (Z0 : n0 ≤ h0.size) (O2 : sC Z h0 G1) (P5 : ¬ (G1 = (0 : Int32))) (O4 : sI Z h0 G3) (rG3 : G3.isRef = true) (S0 : OStr Z h0 r0 [ch0, ch1, ch2]) :
    MF l Z mN27 prog_38_method_6_code 2 (some .boolean) ws (rK 4 0 0 54) #[(.ref r0)] h0 (Qca__3 Z r0 ch0 ch1 ch2 G1 G3 h0 n0) := by
  refine MetFree.of_bodySF (plainFor_of_name pn_com_example_orql_orql_Syntax) hisR ?_
  intro p e s m args below meth c s₁ Bd hml0 hP hK
  obtain ⟨rfl, hZ, hh⟩ := hP
  have hx := Bd.exec
  have hby := Bd.bytes
  have hml : c.maxLocals = 2 := hml0
  have hown : s.vm.findClass "com/example/orql/orql/Syntax" = some m.cls := findClass_of_methodNamed Bd.named
  have hnm := (name_of_methodNamed Bd.named Bd.method).1
  have X0 : Stand p l e (rK 4 0 0 54) s m #[(.ref r0)] below meth c s₁ [] 0 0 := Stand.of_body Bd
  have e0 : s₁.heap = h0 := by rw [← hh, Bd.state]; rfl
  have N0 := Fr.nil n0
  have pre0 : ∀ t, SF p e below s₁ m 0 #[vr r0, .unset] [] t → Steps p.tables e below (s₁.setTop (entryFrame m #[(.ref r0)] 2)) t := fun t k => castTop (ef_25 m r0) k
  obtain ⟨t1, k1, E1, V1, C1, A1, hp1⟩ := id S0
  have hcd1 := own_cod hp1
  have hbd1 := own_up _ hp1
  obtain ⟨cq2, kq2, q2a, q2b, q2c⟩ := isOf hZ e0 E1
  obtain ⟨_, _, ⟨T2, L2, k2, n2⟩, -, X2, ⟨Lc2, hQ2, l2, y2, z2⟩, st2⟩ := X0.virtualBack hx (y := mN24) (z := mN24) hown (mvT hZ (tw hw 106 rfl)) (mvT hZ (tw hw 107 rfl)) (notFace_of_selects (args := #[]) (mvT hZ (tw hw 109 rfl))) (mvT hZ (tw hw 109 rfl)) (mvT hZ (tw hw 108 rfl)) (by decide) (StrChars.Road.lenW (W := 1) hZ (fun d hd => hw d (own_wL d hd)) (kI := 4) (tw hw 2 rfl) E1 V1 C1 A1 hcd1 hbd1 O2 P5 (Nat.le_of_ble_eq_true rfl) (by decide) (by decide)) q2a q2c (g := (mkF m 4 #[vr r0, vi 1] [(.ref r0), (.int 1)])) rfl (by rw [hml]; rfl) (Steps.refl _) (argsL := []) (rest := [(.int 1)]) (lenOf pd_15 rfl) rfl (by show 2 * 0 + _ ≤ _; exact Nat.le_of_eq rfl) (hb hby d25_4) (fun _ _ => ⟨rfl, e0, (by decide : 0 + 0 ≤ _), (by decide : 0 + 0 ≤ _)⟩)
  dsimp only [Pt.U, Pt.locs, Pt.cells, Pt.slots] at X2 l2 y2 z2 st2 hQ2
  subst l2 y2 z2
  obtain ⟨rfl, rfl, e2⟩ := hQ2
  have Nq2 : Fr n0 ([] : List Loc) := Fr.nil n0
  have N2 := Fr.app N0 Nq2
  have hc3 : (1 : Int32) < (3 : Int32) := by decide
  obtain ⟨cq4, kq4, q4a, q4b, q4c⟩ := isOf hZ e2 E1
  obtain ⟨_, _, ⟨T4, L4, k4, n4⟩, -, X4, ⟨Lc4, hQ4, l4, y4, z4⟩, st4⟩ := X2.virtualBack hx (y := mN23) (z := mN23) hown (mvT hZ (tw hw 46 rfl)) (mvT hZ (tw hw 47 rfl)) (notFace_of_selects (args := #[]) (mvT hZ (tw hw 49 rfl))) (mvT hZ (tw hw 49 rfl)) (mvT hZ (tw hw 48 rfl)) (by decide) (StrChars.Road.chN (W := 0) hZ (fun d hd => hw d (own_wC d hd)) (kI := 4) (tw hw 2 rfl) E1 V1 C1 A1 hcd1 hbd1 O2 P5 O4 rG3 (Nat.le_of_ble_eq_true rfl) (i := 1) (Nat.le_of_ble_eq_true rfl) (j := (1 : Int32)) rfl (by decide) (by decide)) q4a q4c (g := (mkF m 12 #[vr r0, vi 1] [(.int 1), (.ref r0)])) rfl (by rw [hml]; rfl) (Steps.refl _) (argsL := [(.int 1)]) (rest := []) (lenOf pd_16 rfl) rfl (by show 2 * 0 + _ ≤ _; exact Nat.le_of_eq rfl) (hb hby d25_12) (fun _ _ => ⟨rfl, e2, (by decide : 0 + 0 ≤ _), (by decide : 0 + 0 ≤ _)⟩)
  dsimp only [Pt.U, Pt.locs, Pt.cells, Pt.slots] at X4 l4 y4 z4 st4 hQ4
  subst l4 y4 z4
  obtain ⟨rfl, rfl, e4⟩ := hQ4
  have Nq4 : Fr n0 ([] : List Loc) := Fr.nil n0
  have N4 := Fr.app N2 Nq4
  obtain ⟨_, _, ⟨T5, L5, k5, n5⟩, -, X5, ⟨Lc5, hQ5, l5, y5, z5⟩, st5⟩ := Jvm.LawKit.callS X4 hx (y := mN3) hown (mvT hZ (tw hw 119 rfl)) (mvT hZ (tw hw 120 rfl)) (mvT hZ (tw hw 24 rfl)) (mvT hZ (tw hw 121 rfl)) (by decide) (backOf (W := 0) (rm29 l Z a0 hw [] ch1  h0 n0 Z0 ) hZ (tw hw 121 rfl) (tw hw 24 rfl) (by decide) (by decide)) (g := (mkF m 15 #[vr r0, vi 1] [(.int ch1)])) rfl (by rw [hml]; rfl) (argsL := [(.int ch1)]) (rest := []) (lenOf pd_0 rfl) rfl (by show 2 * 0 + _ ≤ _; exact Nat.le_of_eq rfl) (hb hby d25_15) (fun _ _ => ⟨rfl, e4, (by decide : 0 + 0 ≤ _), (by decide : 0 + 0 ≤ _)⟩)
  dsimp only [Pt.U, Pt.locs, Pt.cells, Pt.slots] at X5 l5 y5 z5 st5 hQ5
  subst l5 y5 z5
  obtain ⟨rfl, Nq5, e5⟩ := hQ5
  have N5 := Fr.app N4 Nq5
  have t5 := own_bt (P := (97 ≤ ch1.toInt ∧ ch1.toInt ≤ 122) ∨ (65 ≤ ch1.toInt ∧ ch1.toInt ≤ 90) ∨ (48 ≤ ch1.toInt ∧ ch1.toInt ≤ 57) ∨ ch1.toInt = 95)
  have pre7 : ∀ t, SF p e below T5 m 18 #[vr r0, vi 1] [(.int (bI ((97 ≤ ch1.toInt ∧ ch1.toInt ≤ 122) ∨ (65 ≤ ch1.toInt ∧ ch1.toInt ≤ 90) ∨ (48 ≤ ch1.toInt ∧ ch1.toInt ≤ 57) ∨ ch1.toInt = 95)))] t → SF p e below s₁ m 0 #[vr r0, .unset] [] t := fun t k => (by
    show SF p e below s₁ m 0 #[vr r0, .unset] [] _
    refine XS.iconst X0.here hx rfl (hb hby d25_0) ?_
    refine XS.istoreN X0.here hx rfl (hb hby d25_1) rfl (l' := #[vr r0, vi 1]) rfl ?_
    refine XS.iloadN X0.here hx rfl (hb hby d25_2) rfl ?_
    refine XS.aloadN X0.here hx rfl (hb hby d25_3) rfl rfl ?_
    refine st2.trans ?_
    show SF p e below T2 m 7 #[vr r0, vi 1] [(.int 3), (.int 1)] _
    refine XS.icmpNo X2.here hx rfl (hb hby d25_7) rfl (tlt hc3).2.1 ?_
    refine XS.aloadN X2.here hx rfl (hb hby d25_10) rfl rfl ?_
    refine XS.iloadN X2.here hx rfl (hb hby d25_11) rfl ?_
    refine st4.trans ?_
    refine st5 _ ?_
    exact k)
  by_cases hc6 : (bI ((97 ≤ ch1.toInt ∧ ch1.toInt ≤ 122) ∨ (65 ≤ ch1.toInt ∧ ch1.toInt ≤ 90) ∨ (48 ≤ ch1.toInt ∧ ch1.toInt ≤ 57) ∨ ch1.toInt = 95)) = (0 : Int32)
  · skip
    have ohc6 : (bI ((97 ≤ ch1.toInt ∧ ch1.toInt ≤ 122) ∨ (65 ≤ ch1.toInt ∧ ch1.toInt ≤ 90) ∨ (48 ≤ ch1.toInt ∧ ch1.toInt ≤ 57) ∨ ch1.toInt = 95)).toInt = 0 := own_eq.mp hc6
    obtain ⟨fs, hr, hrun, hended, hW, hsame⟩ := X5.leave (v := some (.int 0)) (fun h => by rw [Bd.returns] at h; cases h)
    refine ⟨_, _, pre0 _ (pre7 _ ?_), hrun, hended, _, _, rfl, ?_, ⟨_, rfl⟩, hW, hsame.mono (by decide) (by decide)⟩
    · skip
      show SF p e below T5 m 18 #[vr r0, vi 1] [(.int (bI ((97 ≤ ch1.toInt ∧ ch1.toInt ≤ 122) ∨ (65 ≤ ch1.toInt ∧ ch1.toInt ≤ 90) ∨ (48 ≤ ch1.toInt ∧ ch1.toInt ≤ 57) ∨ ch1.toInt = 95)))] _
      refine XS.ifNo X5.here hx rfl (hb hby d25_18) rfl ((if0 _ _).trans (teq hc6).2) ?_
      show SF p e below T5 m 21 #[vr r0, vi 1] [] _
      refine XS.iconst X5.here hx rfl (hb hby d25_21) ?_
      show SF p e below T5 m 22 #[vr r0, vi 1] [(.int 0)] _
      exact retN X5 hx (t := .boolean) Bd.returns (by simp) (hb hby d25_22) hr
    · show Qca__3 Z r0 ch0 ch1 ch2 G1 G3 h0 n0 _ T5.heap _
      rw [e5]
      exact ⟨own_b0 (by first | trivial | omega), N5, rfl⟩
  · skip
    have ohc6 : ¬ ((bI ((97 ≤ ch1.toInt ∧ ch1.toInt ≤ 122) ∨ (65 ≤ ch1.toInt ∧ ch1.toInt ≤ 90) ∨ (48 ≤ ch1.toInt ∧ ch1.toInt ≤ 57) ∨ ch1.toInt = 95)).toInt = 0) := own_neq.mp hc6
    obtain ⟨cq8, kq8, q8a, q8b, q8c⟩ := isOf hZ e5 E1
    obtain ⟨_, _, ⟨T8, L8, k8, n8⟩, -, X8, ⟨Lc8, hQ8, l8, y8, z8⟩, st8⟩ := X5.virtualBack hx (y := mN24) (z := mN24) hown (mvT hZ (tw hw 106 rfl)) (mvT hZ (tw hw 107 rfl)) (notFace_of_selects (args := #[]) (mvT hZ (tw hw 109 rfl))) (mvT hZ (tw hw 109 rfl)) (mvT hZ (tw hw 108 rfl)) (by decide) (StrChars.Road.lenW (W := 1) hZ (fun d hd => hw d (own_wL d hd)) (kI := 4) (tw hw 2 rfl) E1 V1 C1 A1 hcd1 hbd1 O2 P5 (Nat.le_of_ble_eq_true rfl) (by decide) (by decide)) q8a q8c (g := (mkF m 4 #[vr r0, vi 2] [(.ref r0), (.int 2)])) rfl (by rw [hml]; rfl) (Steps.refl _) (argsL := []) (rest := [(.int 2)]) (lenOf pd_15 rfl) rfl (by show 2 * 0 + _ ≤ _; exact Nat.le_of_eq rfl) (hb hby d25_4) (fun _ _ => ⟨rfl, e5, (by decide : 0 + 0 ≤ _), (by decide : 0 + 0 ≤ _)⟩)
    dsimp only [Pt.U, Pt.locs, Pt.cells, Pt.slots] at X8 l8 y8 z8 st8 hQ8
    subst l8 y8 z8
    obtain ⟨rfl, rfl, e8⟩ := hQ8
    have Nq8 : Fr n0 ([] : List Loc) := Fr.nil n0
    have N8 := Fr.app N5 Nq8
    have hc9 : (2 : Int32) < (3 : Int32) := by decide
    obtain ⟨cq10, kq10, q10a, q10b, q10c⟩ := isOf hZ e8 E1
    obtain ⟨_, _, ⟨T10, L10, k10, n10⟩, -, X10, ⟨Lc10, hQ10, l10, y10, z10⟩, st10⟩ := X8.virtualBack hx (y := mN23) (z := mN23) hown (mvT hZ (tw hw 46 rfl)) (mvT hZ (tw hw 47 rfl)) (notFace_of_selects (args := #[]) (mvT hZ (tw hw 49 rfl))) (mvT hZ (tw hw 49 rfl)) (mvT hZ (tw hw 48 rfl)) (by decide) (StrChars.Road.chN (W := 0) hZ (fun d hd => hw d (own_wC d hd)) (kI := 4) (tw hw 2 rfl) E1 V1 C1 A1 hcd1 hbd1 O2 P5 O4 rG3 (Nat.le_of_ble_eq_true rfl) (i := 2) (Nat.le_of_ble_eq_true rfl) (j := (2 : Int32)) rfl (by decide) (by decide)) q10a q10c (g := (mkF m 12 #[vr r0, vi 2] [(.int 2), (.ref r0)])) rfl (by rw [hml]; rfl) (Steps.refl _) (argsL := [(.int 2)]) (rest := []) (lenOf pd_16 rfl) rfl (by show 2 * 0 + _ ≤ _; exact Nat.le_of_eq rfl) (hb hby d25_12) (fun _ _ => ⟨rfl, e8, (by decide : 0 + 0 ≤ _), (by decide : 0 + 0 ≤ _)⟩)
    dsimp only [Pt.U, Pt.locs, Pt.cells, Pt.slots] at X10 l10 y10 z10 st10 hQ10
    subst l10 y10 z10
    obtain ⟨rfl, rfl, e10⟩ := hQ10
    have Nq10 : Fr n0 ([] : List Loc) := Fr.nil n0
    have N10 := Fr.app N8 Nq10
    obtain ⟨_, _, ⟨T11, L11, k11, n11⟩, -, X11, ⟨Lc11, hQ11, l11, y11, z11⟩, st11⟩ := Jvm.LawKit.callS X10 hx (y := mN3) hown (mvT hZ (tw hw 119 rfl)) (mvT hZ (tw hw 120 rfl)) (mvT hZ (tw hw 24 rfl)) (mvT hZ (tw hw 121 rfl)) (by decide) (backOf (W := 0) (rm29 l Z a0 hw [] ch2  h0 n0 Z0 ) hZ (tw hw 121 rfl) (tw hw 24 rfl) (by decide) (by decide)) (g := (mkF m 15 #[vr r0, vi 2] [(.int ch2)])) rfl (by rw [hml]; rfl) (argsL := [(.int ch2)]) (rest := []) (lenOf pd_0 rfl) rfl (by show 2 * 0 + _ ≤ _; exact Nat.le_of_eq rfl) (hb hby d25_15) (fun _ _ => ⟨rfl, e10, (by decide : 0 + 0 ≤ _), (by decide : 0 + 0 ≤ _)⟩)
    dsimp only [Pt.U, Pt.locs, Pt.cells, Pt.slots] at X11 l11 y11 z11 st11 hQ11
    subst l11 y11 z11
    obtain ⟨rfl, Nq11, e11⟩ := hQ11
    have N11 := Fr.app N10 Nq11
    have t11 := own_bt (P := (97 ≤ ch2.toInt ∧ ch2.toInt ≤ 122) ∨ (65 ≤ ch2.toInt ∧ ch2.toInt ≤ 90) ∨ (48 ≤ ch2.toInt ∧ ch2.toInt ≤ 57) ∨ ch2.toInt = 95)
    have pre13 : ∀ t, SF p e below T11 m 18 #[vr r0, vi 2] [(.int (bI ((97 ≤ ch2.toInt ∧ ch2.toInt ≤ 122) ∨ (65 ≤ ch2.toInt ∧ ch2.toInt ≤ 90) ∨ (48 ≤ ch2.toInt ∧ ch2.toInt ≤ 57) ∨ ch2.toInt = 95)))] t → SF p e below s₁ m 0 #[vr r0, .unset] [] t := fun t k => pre7 t (by
      show SF p e below T5 m 18 #[vr r0, vi 1] [(.int (bI ((97 ≤ ch1.toInt ∧ ch1.toInt ≤ 122) ∨ (65 ≤ ch1.toInt ∧ ch1.toInt ≤ 90) ∨ (48 ≤ ch1.toInt ∧ ch1.toInt ≤ 57) ∨ ch1.toInt = 95)))] _
      refine XS.ifYes X5.here hx rfl (pc0 := 18) (pc' := 23) rfl (hb hby d25_18) rfl ((if0 _ _).trans (feq hc6).2) (by decide) (by decide) ?_
      show SF p e below T5 m 23 #[vr r0, vi 1] [] _
      refine XS.iinc X5.here hx rfl (hb hby d25_23) rfl (l' := #[vr r0, vi 2]) rfl ?_
      refine XS.goto X5.here hx rfl (pc0 := 26) (pc' := 2) rfl (hb hby d25_26) (by decide) (by decide) ?_
      refine XS.iloadN X5.here hx rfl (hb hby d25_2) rfl ?_
      refine XS.aloadN X5.here hx rfl (hb hby d25_3) rfl rfl ?_
      refine st8.trans ?_
      show SF p e below T8 m 7 #[vr r0, vi 2] [(.int 3), (.int 2)] _
      refine XS.icmpNo X8.here hx rfl (hb hby d25_7) rfl (tlt hc9).2.1 ?_
      refine XS.aloadN X8.here hx rfl (hb hby d25_10) rfl rfl ?_
      refine XS.iloadN X8.here hx rfl (hb hby d25_11) rfl ?_
      refine st10.trans ?_
      refine st11 _ ?_
      exact k)
    by_cases hc12 : (bI ((97 ≤ ch2.toInt ∧ ch2.toInt ≤ 122) ∨ (65 ≤ ch2.toInt ∧ ch2.toInt ≤ 90) ∨ (48 ≤ ch2.toInt ∧ ch2.toInt ≤ 57) ∨ ch2.toInt = 95)) = (0 : Int32)
    · skip
      have ohc12 : (bI ((97 ≤ ch2.toInt ∧ ch2.toInt ≤ 122) ∨ (65 ≤ ch2.toInt ∧ ch2.toInt ≤ 90) ∨ (48 ≤ ch2.toInt ∧ ch2.toInt ≤ 57) ∨ ch2.toInt = 95)).toInt = 0 := own_eq.mp hc12
      obtain ⟨fs, hr, hrun, hended, hW, hsame⟩ := X11.leave (v := some (.int 0)) (fun h => by rw [Bd.returns] at h; cases h)
      refine ⟨_, _, pre0 _ (pre13 _ ?_), hrun, hended, _, _, rfl, ?_, ⟨_, rfl⟩, hW, hsame.mono (by decide) (by decide)⟩
      · skip
        show SF p e below T11 m 18 #[vr r0, vi 2] [(.int (bI ((97 ≤ ch2.toInt ∧ ch2.toInt ≤ 122) ∨ (65 ≤ ch2.toInt ∧ ch2.toInt ≤ 90) ∨ (48 ≤ ch2.toInt ∧ ch2.toInt ≤ 57) ∨ ch2.toInt = 95)))] _
        refine XS.ifNo X11.here hx rfl (hb hby d25_18) rfl ((if0 _ _).trans (teq hc12).2) ?_
        show SF p e below T11 m 21 #[vr r0, vi 2] [] _
        refine XS.iconst X11.here hx rfl (hb hby d25_21) ?_
        show SF p e below T11 m 22 #[vr r0, vi 2] [(.int 0)] _
        exact retN X11 hx (t := .boolean) Bd.returns (by simp) (hb hby d25_22) hr
      · show Qca__3 Z r0 ch0 ch1 ch2 G1 G3 h0 n0 _ T11.heap _
        rw [e11]
        exact ⟨own_b0 (by first | trivial | omega), N11, rfl⟩
    · skip
      have ohc12 : ¬ ((bI ((97 ≤ ch2.toInt ∧ ch2.toInt ≤ 122) ∨ (65 ≤ ch2.toInt ∧ ch2.toInt ≤ 90) ∨ (48 ≤ ch2.toInt ∧ ch2.toInt ≤ 57) ∨ ch2.toInt = 95)).toInt = 0) := own_neq.mp hc12
      obtain ⟨cq14, kq14, q14a, q14b, q14c⟩ := isOf hZ e11 E1
      obtain ⟨_, _, ⟨T14, L14, k14, n14⟩, -, X14, ⟨Lc14, hQ14, l14, y14, z14⟩, st14⟩ := X11.virtualBack hx (y := mN24) (z := mN24) hown (mvT hZ (tw hw 106 rfl)) (mvT hZ (tw hw 107 rfl)) (notFace_of_selects (args := #[]) (mvT hZ (tw hw 109 rfl))) (mvT hZ (tw hw 109 rfl)) (mvT hZ (tw hw 108 rfl)) (by decide) (StrChars.Road.lenW (W := 1) hZ (fun d hd => hw d (own_wL d hd)) (kI := 4) (tw hw 2 rfl) E1 V1 C1 A1 hcd1 hbd1 O2 P5 (Nat.le_of_ble_eq_true rfl) (by decide) (by decide)) q14a q14c (g := (mkF m 4 #[vr r0, vi 3] [(.ref r0), (.int 3)])) rfl (by rw [hml]; rfl) (Steps.refl _) (argsL := []) (rest := [(.int 3)]) (lenOf pd_15 rfl) rfl (by show 2 * 0 + _ ≤ _; exact Nat.le_of_eq rfl) (hb hby d25_4) (fun _ _ => ⟨rfl, e11, (by decide : 0 + 0 ≤ _), (by decide : 0 + 0 ≤ _)⟩)
      dsimp only [Pt.U, Pt.locs, Pt.cells, Pt.slots] at X14 l14 y14 z14 st14 hQ14
      subst l14 y14 z14
      obtain ⟨rfl, rfl, e14⟩ := hQ14
      have Nq14 : Fr n0 ([] : List Loc) := Fr.nil n0
      have N14 := Fr.app N11 Nq14
      have hc15 : ¬ ((3 : Int32) < (3 : Int32)) := by decide
      obtain ⟨fs, hr, hrun, hended, hW, hsame⟩ := X14.leave (v := some (.int 1)) (fun h => by rw [Bd.returns] at h; cases h)
      refine ⟨_, _, pre0 _ (pre13 _ ?_), hrun, hended, _, _, rfl, ?_, ⟨_, rfl⟩, hW, hsame.mono (by decide) (by decide)⟩
      · skip
        show SF p e below T11 m 18 #[vr r0, vi 2] [(.int (bI ((97 ≤ ch2.toInt ∧ ch2.toInt ≤ 122) ∨ (65 ≤ ch2.toInt ∧ ch2.toInt ≤ 90) ∨ (48 ≤ ch2.toInt ∧ ch2.toInt ≤ 57) ∨ ch2.toInt = 95)))] _
        refine XS.ifYes X11.here hx rfl (pc0 := 18) (pc' := 23) rfl (hb hby d25_18) rfl ((if0 _ _).trans (feq hc12).2) (by decide) (by decide) ?_
        show SF p e below T11 m 23 #[vr r0, vi 2] [] _
        refine XS.iinc X11.here hx rfl (hb hby d25_23) rfl (l' := #[vr r0, vi 3]) rfl ?_
        refine XS.goto X11.here hx rfl (pc0 := 26) (pc' := 2) rfl (hb hby d25_26) (by decide) (by decide) ?_
        refine XS.iloadN X11.here hx rfl (hb hby d25_2) rfl ?_
        refine XS.aloadN X11.here hx rfl (hb hby d25_3) rfl rfl ?_
        refine st14.trans ?_
        show SF p e below T14 m 7 #[vr r0, vi 3] [(.int 3), (.int 3)] _
        refine XS.icmpYes X14.here hx rfl (pc0 := 7) (pc' := 29) rfl (hb hby d25_7) rfl (flt hc15).2.1 (by decide) (by decide) ?_
        refine XS.iconst X14.here hx rfl (hb hby d25_29) ?_
        show SF p e below T14 m 30 #[vr r0, vi 3] [(.int 1)] _
        exact retN X14 hx (t := .boolean) Bd.returns (by simp) (hb hby d25_30) hr
      · show Qca__3 Z r0 ch0 ch1 ch2 G1 G3 h0 n0 _ T14.heap _
        rw [e14]
        exact ⟨own_b1 (by first | trivial | omega), N14, rfl⟩
def Qio__3 (Z : State) (r0 : Addr) (ch0 : Int32) (ch1 : Int32) (ch2 : Int32) (G1 : Int32) (G3 : Value) (h0 : Heap) (n0 : Nat) (v : Option Value) (h : Heap) (L : List Loc) : Prop := v = some (.int (bI (((97 ≤ ch0.toInt ∧ ch0.toInt ≤ 122) ∨ (48 ≤ ch0.toInt ∧ ch0.toInt ≤ 57)) ∧ ((97 ≤ ch1.toInt ∧ ch1.toInt ≤ 122) ∨ (65 ≤ ch1.toInt ∧ ch1.toInt ≤ 90) ∨ (48 ≤ ch1.toInt ∧ ch1.toInt ≤ 57) ∨ ch1.toInt = 95) ∧ ((97 ≤ ch2.toInt ∧ ch2.toInt ≤ 122) ∨ (65 ≤ ch2.toInt ∧ ch2.toInt ≤ 90) ∨ (48 ≤ ch2.toInt ∧ ch2.toInt ≤ 57) ∨ ch2.toInt = 95)))) ∧ Fr n0 L ∧ h = h0
set_option maxRecDepth 65536 in
set_option maxHeartbeats 40000000 in
theorem rmio__3 (l : Launch) (Z : State) (a0 : Array Value) (hw : ∀ d ∈ tables_1, d.before a0 Z = true) (ws : List Jvm.Cond) (r0 : Addr) (ch0 : Int32) (ch1 : Int32) (ch2 : Int32) (G1 : Int32) (G3 : Value) (h0 : Heap) (n0 : Nat) (Z0 : n0 ≤ h0.size) (O2 : sC Z h0 G1) (P5 : ¬ (G1 = (0 : Int32))) (O4 : sI Z h0 G3) (rG3 : G3.isRef = true) (S0 : OStr Z h0 r0 [ch0, ch1, ch2]) :
    MF l Z mN26 prog_38_method_5_code 1 (some .boolean) ws (rK 6 0 0 79) #[(.ref r0)] h0 (Qio__3 Z r0 ch0 ch1 ch2 G1 G3 h0 n0) := by
  refine MetFree.of_bodySF (plainFor_of_name pn_com_example_orql_orql_Syntax) hisR ?_
  intro p e s m args below meth c s₁ Bd hml0 hP hK
  obtain ⟨rfl, hZ, hh⟩ := hP
  have hx := Bd.exec
  have hby := Bd.bytes
  have hml : c.maxLocals = 1 := hml0
  have hown : s.vm.findClass "com/example/orql/orql/Syntax" = some m.cls := findClass_of_methodNamed Bd.named
  have hnm := (name_of_methodNamed Bd.named Bd.method).1
  have X0 : Stand p l e (rK 6 0 0 79) s m #[(.ref r0)] below meth c s₁ [] 0 0 := Stand.of_body Bd
  have e0 : s₁.heap = h0 := by rw [← hh, Bd.state]; rfl
  have N0 := Fr.nil n0
  have pre0 : ∀ t, SF p e below s₁ m 0 #[vr r0] [] t → Steps p.tables e below (s₁.setTop (entryFrame m #[(.ref r0)] 1)) t := fun t k => castTop (ef_4 m r0) k
  obtain ⟨t1, k1, E1, V1, C1, A1, hp1⟩ := id S0
  have hcd1 := own_cod hp1
  have hbd1 := own_up _ hp1
  obtain ⟨cq2, kq2, q2a, q2b, q2c⟩ := isOf hZ e0 E1
  obtain ⟨_, _, ⟨T2, L2, k2, n2⟩, -, X2, ⟨Lc2, hQ2, l2, y2, z2⟩, st2⟩ := X0.virtualBack hx (y := mN25) (z := mN25) hown (mvT hZ (tw hw 26 rfl)) (mvT hZ (tw hw 27 rfl)) (notFace_of_selects (args := #[]) (mvT hZ (tw hw 29 rfl))) (mvT hZ (tw hw 29 rfl)) (mvT hZ (tw hw 28 rfl)) (by decide) (StrChars.Road.empW (W := 0) hZ (fun d hd => hw d (own_wE d hd)) (kI := 4) (tw hw 2 rfl) E1 V1 C1 A1 hcd1 hbd1 (Nat.le_of_ble_eq_true rfl) (by decide) (by decide)) q2a q2c (g := (mkF m 1 #[vr r0] [(.ref r0)])) rfl (by rw [hml]; rfl) (Steps.refl _) (argsL := []) (rest := []) (lenOf pd_13 rfl) rfl (by show 2 * 0 + _ ≤ _; exact Nat.le_of_eq rfl) (hb hby d4_1) (fun _ _ => ⟨rfl, e0, (by decide : 0 + 0 ≤ _), (by decide : 0 + 0 ≤ _)⟩)
  dsimp only [Pt.U, Pt.locs, Pt.cells, Pt.slots] at X2 l2 y2 z2 st2 hQ2
  subst l2 y2 z2
  obtain ⟨rfl, rfl, e2⟩ := hQ2
  have Nq2 : Fr n0 ([] : List Loc) := Fr.nil n0
  have N2 := Fr.app N0 Nq2
  have hc3 : (0 : Int32) = (0 : Int32) := by decide
  obtain ⟨cq4, kq4, q4a, q4b, q4c⟩ := isOf hZ e2 E1
  obtain ⟨_, _, ⟨T4, L4, k4, n4⟩, -, X4, ⟨Lc4, hQ4, l4, y4, z4⟩, st4⟩ := X2.virtualBack hx (y := mN23) (z := mN23) hown (mvT hZ (tw hw 46 rfl)) (mvT hZ (tw hw 47 rfl)) (notFace_of_selects (args := #[]) (mvT hZ (tw hw 49 rfl))) (mvT hZ (tw hw 49 rfl)) (mvT hZ (tw hw 48 rfl)) (by decide) (StrChars.Road.chN (W := 0) hZ (fun d hd => hw d (own_wC d hd)) (kI := 4) (tw hw 2 rfl) E1 V1 C1 A1 hcd1 hbd1 O2 P5 O4 rG3 (Nat.le_of_ble_eq_true rfl) (i := 0) (Nat.le_of_ble_eq_true rfl) (j := (0 : Int32)) rfl (by decide) (by decide)) q4a q4c (g := (mkF m 9 #[vr r0] [(.int 0), (.ref r0)])) rfl (by rw [hml]; rfl) (Steps.refl _) (argsL := [(.int 0)]) (rest := []) (lenOf pd_16 rfl) rfl (by show 2 * 0 + _ ≤ _; exact Nat.le_of_eq rfl) (hb hby d4_9) (fun _ _ => ⟨rfl, e2, (by decide : 0 + 0 ≤ _), (by decide : 0 + 0 ≤ _)⟩)
  dsimp only [Pt.U, Pt.locs, Pt.cells, Pt.slots] at X4 l4 y4 z4 st4 hQ4
  subst l4 y4 z4
  obtain ⟨rfl, rfl, e4⟩ := hQ4
  have Nq4 : Fr n0 ([] : List Loc) := Fr.nil n0
  have N4 := Fr.app N2 Nq4
  obtain ⟨_, _, ⟨T5, L5, k5, n5⟩, -, X5, ⟨Lc5, hQ5, l5, y5, z5⟩, st5⟩ := Jvm.LawKit.callS X4 hx (y := mN0) hown (mvT hZ (tw hw 68 rfl)) (mvT hZ (tw hw 69 rfl)) (mvT hZ (tw hw 24 rfl)) (mvT hZ (tw hw 70 rfl)) (by decide) (backOf (W := 0) (rm15 l Z a0 hw [] ch0  h0 n0 Z0 ) hZ (tw hw 70 rfl) (tw hw 24 rfl) (by decide) (by decide)) (g := (mkF m 12 #[vr r0] [(.int ch0)])) rfl (by rw [hml]; rfl) (argsL := [(.int ch0)]) (rest := []) (lenOf pd_0 rfl) rfl (by show 2 * 0 + _ ≤ _; exact Nat.le_of_eq rfl) (hb hby d4_12) (fun _ _ => ⟨rfl, e4, (by decide : 0 + 0 ≤ _), (by decide : 0 + 0 ≤ _)⟩)
  dsimp only [Pt.U, Pt.locs, Pt.cells, Pt.slots] at X5 l5 y5 z5 st5 hQ5
  subst l5 y5 z5
  obtain ⟨rfl, Nq5, e5⟩ := hQ5
  have N5 := Fr.app N4 Nq5
  have t5 := own_bt (P := 97 ≤ ch0.toInt ∧ ch0.toInt ≤ 122)
  have pre7 : ∀ t, SF p e below T5 m 15 #[vr r0] [(.int (bI (97 ≤ ch0.toInt ∧ ch0.toInt ≤ 122)))] t → SF p e below s₁ m 0 #[vr r0] [] t := fun t k => (by
    show SF p e below s₁ m 0 #[vr r0] [] _
    refine XS.aloadN X0.here hx rfl (hb hby d4_0) rfl rfl ?_
    refine st2.trans ?_
    refine XS.ifNo X2.here hx rfl (hb hby d4_4) rfl ((if0 _ _).trans (teq hc3).2) ?_
    refine XS.aloadN X2.here hx rfl (hb hby d4_7) rfl rfl ?_
    refine XS.iconst X2.here hx rfl (hb hby d4_8) ?_
    show SF p e below T2 m 9 #[vr r0] [(.int 0), (.ref r0)] _
    refine st4.trans ?_
    refine st5 _ ?_
    exact k)
  by_cases hc6 : (bI (97 ≤ ch0.toInt ∧ ch0.toInt ≤ 122)) = (0 : Int32)
  · skip
    have ohc6 : (bI (97 ≤ ch0.toInt ∧ ch0.toInt ≤ 122)).toInt = 0 := own_eq.mp hc6
    obtain ⟨cq8, kq8, q8a, q8b, q8c⟩ := isOf hZ e5 E1
    obtain ⟨_, _, ⟨T8, L8, k8, n8⟩, -, X8, ⟨Lc8, hQ8, l8, y8, z8⟩, st8⟩ := X5.virtualBack hx (y := mN23) (z := mN23) hown (mvT hZ (tw hw 46 rfl)) (mvT hZ (tw hw 47 rfl)) (notFace_of_selects (args := #[]) (mvT hZ (tw hw 49 rfl))) (mvT hZ (tw hw 49 rfl)) (mvT hZ (tw hw 48 rfl)) (by decide) (StrChars.Road.chN (W := 0) hZ (fun d hd => hw d (own_wC d hd)) (kI := 4) (tw hw 2 rfl) E1 V1 C1 A1 hcd1 hbd1 O2 P5 O4 rG3 (Nat.le_of_ble_eq_true rfl) (i := 0) (Nat.le_of_ble_eq_true rfl) (j := (0 : Int32)) rfl (by decide) (by decide)) q8a q8c (g := (mkF m 20 #[vr r0] [(.int 0), (.ref r0)])) rfl (by rw [hml]; rfl) (Steps.refl _) (argsL := [(.int 0)]) (rest := []) (lenOf pd_16 rfl) rfl (by show 2 * 0 + _ ≤ _; exact Nat.le_of_eq rfl) (hb hby d4_20) (fun _ _ => ⟨rfl, e5, (by decide : 0 + 0 ≤ _), (by decide : 0 + 0 ≤ _)⟩)
    dsimp only [Pt.U, Pt.locs, Pt.cells, Pt.slots] at X8 l8 y8 z8 st8 hQ8
    subst l8 y8 z8
    obtain ⟨rfl, rfl, e8⟩ := hQ8
    have Nq8 : Fr n0 ([] : List Loc) := Fr.nil n0
    have N8 := Fr.app N5 Nq8
    obtain ⟨_, _, ⟨T9, L9, k9, n9⟩, -, X9, ⟨Lc9, hQ9, l9, y9, z9⟩, st9⟩ := Jvm.LawKit.callS X8 hx (y := mN2) hown (mvT hZ (tw hw 71 rfl)) (mvT hZ (tw hw 72 rfl)) (mvT hZ (tw hw 24 rfl)) (mvT hZ (tw hw 73 rfl)) (by decide) (backOf (W := 0) (rm16 l Z a0 hw [] ch0  h0 n0 Z0 ) hZ (tw hw 73 rfl) (tw hw 24 rfl) (by decide) (by decide)) (g := (mkF m 23 #[vr r0] [(.int ch0)])) rfl (by rw [hml]; rfl) (argsL := [(.int ch0)]) (rest := []) (lenOf pd_0 rfl) rfl (by show 2 * 0 + _ ≤ _; exact Nat.le_of_eq rfl) (hb hby d4_23) (fun _ _ => ⟨rfl, e8, (by decide : 0 + 0 ≤ _), (by decide : 0 + 0 ≤ _)⟩)
    dsimp only [Pt.U, Pt.locs, Pt.cells, Pt.slots] at X9 l9 y9 z9 st9 hQ9
    subst l9 y9 z9
    obtain ⟨rfl, Nq9, e9⟩ := hQ9
    have N9 := Fr.app N8 Nq9
    have t9 := own_bt (P := 48 ≤ ch0.toInt ∧ ch0.toInt ≤ 57)
    have pre11 : ∀ t, SF p e below T9 m 26 #[vr r0] [(.int (bI (48 ≤ ch0.toInt ∧ ch0.toInt ≤ 57)))] t → SF p e below s₁ m 0 #[vr r0] [] t := fun t k => pre7 t (by
      show SF p e below T5 m 15 #[vr r0] [(.int (bI (97 ≤ ch0.toInt ∧ ch0.toInt ≤ 122)))] _
      refine XS.ifNo X5.here hx rfl (hb hby d4_15) rfl ((if0 _ _).trans (teq hc6).2) ?_
      show SF p e below T5 m 18 #[vr r0] [] _
      refine XS.aloadN X5.here hx rfl (hb hby d4_18) rfl rfl ?_
      refine XS.iconst X5.here hx rfl (hb hby d4_19) ?_
      refine st8.trans ?_
      refine st9 _ ?_
      exact k)
    by_cases hc10 : (bI (48 ≤ ch0.toInt ∧ ch0.toInt ≤ 57)) = (0 : Int32)
    · skip
      have ohc10 : (bI (48 ≤ ch0.toInt ∧ ch0.toInt ≤ 57)).toInt = 0 := own_eq.mp hc10
      obtain ⟨fs, hr, hrun, hended, hW, hsame⟩ := X9.leave (v := some (.int 0)) (fun h => by rw [Bd.returns] at h; cases h)
      refine ⟨_, _, pre0 _ (pre11 _ ?_), hrun, hended, _, _, rfl, ?_, ⟨_, rfl⟩, hW, hsame.mono (by decide) (by decide)⟩
      · skip
        show SF p e below T9 m 26 #[vr r0] [(.int (bI (48 ≤ ch0.toInt ∧ ch0.toInt ≤ 57)))] _
        refine XS.ifYes X9.here hx rfl (pc0 := 26) (pc' := 40) rfl (hb hby d4_26) rfl ((if0 _ _).trans (teq hc10).1) (by decide) (by decide) ?_
        show SF p e below T9 m 40 #[vr r0] [] _
        refine XS.iconst X9.here hx rfl (hb hby d4_40) ?_
        show SF p e below T9 m 41 #[vr r0] [(.int 0)] _
        exact retN X9 hx (t := .boolean) Bd.returns (by simp) (hb hby d4_41) hr
      · show Qio__3 Z r0 ch0 ch1 ch2 G1 G3 h0 n0 _ T9.heap _
        rw [e9]
        exact ⟨own_b0 (by first | trivial | omega), N9, rfl⟩
    · skip
      have ohc10 : ¬ ((bI (48 ≤ ch0.toInt ∧ ch0.toInt ≤ 57)).toInt = 0) := own_neq.mp hc10
      obtain ⟨_, _, ⟨T12, L12, k12, n12⟩, -, X12, ⟨Lc12, hQ12, l12, y12, z12⟩, st12⟩ := Jvm.LawKit.callS X9 hx (y := mN27) hown (mvT hZ (tw hw 103 rfl)) (mvT hZ (tw hw 104 rfl)) (mvT hZ (tw hw 24 rfl)) (mvT hZ (tw hw 105 rfl)) (by decide) (backOf (W := 0) (rmca__3 l Z a0 hw [] r0 ch0 ch1 ch2 G1 G3 h0 n0 Z0 O2 P5 O4 rG3 S0) hZ (tw hw 105 rfl) (tw hw 24 rfl) (by decide) (by decide)) (g := (mkF m 30 #[vr r0] [(.ref r0)])) rfl (by rw [hml]; rfl) (argsL := [(.ref r0)]) (rest := []) (lenOf pd_17 rfl) rfl (by show 2 * 0 + _ ≤ _; exact Nat.le_of_eq rfl) (hb hby d4_30) (fun _ _ => ⟨rfl, e9, (by decide : 0 + 0 ≤ _), (by decide : 0 + 0 ≤ _)⟩)
      dsimp only [Pt.U, Pt.locs, Pt.cells, Pt.slots] at X12 l12 y12 z12 st12 hQ12
      subst l12 y12 z12
      obtain ⟨rfl, Nq12, e12⟩ := hQ12
      have N12 := Fr.app N9 Nq12
      have t12 := own_bt (P := ((97 ≤ ch1.toInt ∧ ch1.toInt ≤ 122) ∨ (65 ≤ ch1.toInt ∧ ch1.toInt ≤ 90) ∨ (48 ≤ ch1.toInt ∧ ch1.toInt ≤ 57) ∨ ch1.toInt = 95) ∧ ((97 ≤ ch2.toInt ∧ ch2.toInt ≤ 122) ∨ (65 ≤ ch2.toInt ∧ ch2.toInt ≤ 90) ∨ (48 ≤ ch2.toInt ∧ ch2.toInt ≤ 57) ∨ ch2.toInt = 95))
      have pre14 : ∀ t, SF p e below T12 m 33 #[vr r0] [(.int (bI (((97 ≤ ch1.toInt ∧ ch1.toInt ≤ 122) ∨ (65 ≤ ch1.toInt ∧ ch1.toInt ≤ 90) ∨ (48 ≤ ch1.toInt ∧ ch1.toInt ≤ 57) ∨ ch1.toInt = 95) ∧ ((97 ≤ ch2.toInt ∧ ch2.toInt ≤ 122) ∨ (65 ≤ ch2.toInt ∧ ch2.toInt ≤ 90) ∨ (48 ≤ ch2.toInt ∧ ch2.toInt ≤ 57) ∨ ch2.toInt = 95))))] t → SF p e below s₁ m 0 #[vr r0] [] t := fun t k => pre11 t (by
        show SF p e below T9 m 26 #[vr r0] [(.int (bI (48 ≤ ch0.toInt ∧ ch0.toInt ≤ 57)))] _
        refine XS.ifNo X9.here hx rfl (hb hby d4_26) rfl ((if0 _ _).trans (feq hc10).1) ?_
        show SF p e below T9 m 29 #[vr r0] [] _
        refine XS.aloadN X9.here hx rfl (hb hby d4_29) rfl rfl ?_
        refine st12 _ ?_
        exact k)
      by_cases hc13 : (bI (((97 ≤ ch1.toInt ∧ ch1.toInt ≤ 122) ∨ (65 ≤ ch1.toInt ∧ ch1.toInt ≤ 90) ∨ (48 ≤ ch1.toInt ∧ ch1.toInt ≤ 57) ∨ ch1.toInt = 95) ∧ ((97 ≤ ch2.toInt ∧ ch2.toInt ≤ 122) ∨ (65 ≤ ch2.toInt ∧ ch2.toInt ≤ 90) ∨ (48 ≤ ch2.toInt ∧ ch2.toInt ≤ 57) ∨ ch2.toInt = 95))) = (0 : Int32)
      · skip
        have ohc13 : (bI (((97 ≤ ch1.toInt ∧ ch1.toInt ≤ 122) ∨ (65 ≤ ch1.toInt ∧ ch1.toInt ≤ 90) ∨ (48 ≤ ch1.toInt ∧ ch1.toInt ≤ 57) ∨ ch1.toInt = 95) ∧ ((97 ≤ ch2.toInt ∧ ch2.toInt ≤ 122) ∨ (65 ≤ ch2.toInt ∧ ch2.toInt ≤ 90) ∨ (48 ≤ ch2.toInt ∧ ch2.toInt ≤ 57) ∨ ch2.toInt = 95))).toInt = 0 := own_eq.mp hc13
        obtain ⟨fs, hr, hrun, hended, hW, hsame⟩ := X12.leave (v := some (.int 0)) (fun h => by rw [Bd.returns] at h; cases h)
        refine ⟨_, _, pre0 _ (pre14 _ ?_), hrun, hended, _, _, rfl, ?_, ⟨_, rfl⟩, hW, hsame.mono (by decide) (by decide)⟩
        · skip
          show SF p e below T12 m 33 #[vr r0] [(.int (bI (((97 ≤ ch1.toInt ∧ ch1.toInt ≤ 122) ∨ (65 ≤ ch1.toInt ∧ ch1.toInt ≤ 90) ∨ (48 ≤ ch1.toInt ∧ ch1.toInt ≤ 57) ∨ ch1.toInt = 95) ∧ ((97 ≤ ch2.toInt ∧ ch2.toInt ≤ 122) ∨ (65 ≤ ch2.toInt ∧ ch2.toInt ≤ 90) ∨ (48 ≤ ch2.toInt ∧ ch2.toInt ≤ 57) ∨ ch2.toInt = 95))))] _
          refine XS.ifYes X12.here hx rfl (pc0 := 33) (pc' := 40) rfl (hb hby d4_33) rfl ((if0 _ _).trans (teq hc13).1) (by decide) (by decide) ?_
          show SF p e below T12 m 40 #[vr r0] [] _
          refine XS.iconst X12.here hx rfl (hb hby d4_40) ?_
          show SF p e below T12 m 41 #[vr r0] [(.int 0)] _
          exact retN X12 hx (t := .boolean) Bd.returns (by simp) (hb hby d4_41) hr
        · show Qio__3 Z r0 ch0 ch1 ch2 G1 G3 h0 n0 _ T12.heap _
          rw [e12]
          exact ⟨own_b0 (by first | trivial | omega), N12, rfl⟩
      · skip
        have ohc13 : ¬ ((bI (((97 ≤ ch1.toInt ∧ ch1.toInt ≤ 122) ∨ (65 ≤ ch1.toInt ∧ ch1.toInt ≤ 90) ∨ (48 ≤ ch1.toInt ∧ ch1.toInt ≤ 57) ∨ ch1.toInt = 95) ∧ ((97 ≤ ch2.toInt ∧ ch2.toInt ≤ 122) ∨ (65 ≤ ch2.toInt ∧ ch2.toInt ≤ 90) ∨ (48 ≤ ch2.toInt ∧ ch2.toInt ≤ 57) ∨ ch2.toInt = 95))).toInt = 0) := own_neq.mp hc13
        obtain ⟨fs, hr, hrun, hended, hW, hsame⟩ := X12.leave (v := some (.int 1)) (fun h => by rw [Bd.returns] at h; cases h)
        refine ⟨_, _, pre0 _ (pre14 _ ?_), hrun, hended, _, _, rfl, ?_, ⟨_, rfl⟩, hW, hsame.mono (by decide) (by decide)⟩
        · skip
          show SF p e below T12 m 33 #[vr r0] [(.int (bI (((97 ≤ ch1.toInt ∧ ch1.toInt ≤ 122) ∨ (65 ≤ ch1.toInt ∧ ch1.toInt ≤ 90) ∨ (48 ≤ ch1.toInt ∧ ch1.toInt ≤ 57) ∨ ch1.toInt = 95) ∧ ((97 ≤ ch2.toInt ∧ ch2.toInt ≤ 122) ∨ (65 ≤ ch2.toInt ∧ ch2.toInt ≤ 90) ∨ (48 ≤ ch2.toInt ∧ ch2.toInt ≤ 57) ∨ ch2.toInt = 95))))] _
          refine XS.ifNo X12.here hx rfl (hb hby d4_33) rfl ((if0 _ _).trans (feq hc13).1) ?_
          show SF p e below T12 m 36 #[vr r0] [] _
          refine XS.iconst X12.here hx rfl (hb hby d4_36) ?_
          refine XS.goto X12.here hx rfl (pc0 := 37) (pc' := 41) rfl (hb hby d4_37) (by decide) (by decide) ?_
          show SF p e below T12 m 41 #[vr r0] [(.int 1)] _
          exact retN X12 hx (t := .boolean) Bd.returns (by simp) (hb hby d4_41) hr
        · show Qio__3 Z r0 ch0 ch1 ch2 G1 G3 h0 n0 _ T12.heap _
          rw [e12]
          exact ⟨own_b1 (by first | trivial | omega), N12, rfl⟩
  · skip
    have ohc6 : ¬ ((bI (97 ≤ ch0.toInt ∧ ch0.toInt ≤ 122)).toInt = 0) := own_neq.mp hc6
    obtain ⟨_, _, ⟨T15, L15, k15, n15⟩, -, X15, ⟨Lc15, hQ15, l15, y15, z15⟩, st15⟩ := Jvm.LawKit.callS X5 hx (y := mN27) hown (mvT hZ (tw hw 103 rfl)) (mvT hZ (tw hw 104 rfl)) (mvT hZ (tw hw 24 rfl)) (mvT hZ (tw hw 105 rfl)) (by decide) (backOf (W := 0) (rmca__3 l Z a0 hw [] r0 ch0 ch1 ch2 G1 G3 h0 n0 Z0 O2 P5 O4 rG3 S0) hZ (tw hw 105 rfl) (tw hw 24 rfl) (by decide) (by decide)) (g := (mkF m 30 #[vr r0] [(.ref r0)])) rfl (by rw [hml]; rfl) (argsL := [(.ref r0)]) (rest := []) (lenOf pd_17 rfl) rfl (by show 2 * 0 + _ ≤ _; exact Nat.le_of_eq rfl) (hb hby d4_30) (fun _ _ => ⟨rfl, e5, (by decide : 0 + 0 ≤ _), (by decide : 0 + 0 ≤ _)⟩)
    dsimp only [Pt.U, Pt.locs, Pt.cells, Pt.slots] at X15 l15 y15 z15 st15 hQ15
    subst l15 y15 z15
    obtain ⟨rfl, Nq15, e15⟩ := hQ15
    have N15 := Fr.app N5 Nq15
    have t15 := own_bt (P := ((97 ≤ ch1.toInt ∧ ch1.toInt ≤ 122) ∨ (65 ≤ ch1.toInt ∧ ch1.toInt ≤ 90) ∨ (48 ≤ ch1.toInt ∧ ch1.toInt ≤ 57) ∨ ch1.toInt = 95) ∧ ((97 ≤ ch2.toInt ∧ ch2.toInt ≤ 122) ∨ (65 ≤ ch2.toInt ∧ ch2.toInt ≤ 90) ∨ (48 ≤ ch2.toInt ∧ ch2.toInt ≤ 57) ∨ ch2.toInt = 95))
    have pre17 : ∀ t, SF p e below T15 m 33 #[vr r0] [(.int (bI (((97 ≤ ch1.toInt ∧ ch1.toInt ≤ 122) ∨ (65 ≤ ch1.toInt ∧ ch1.toInt ≤ 90) ∨ (48 ≤ ch1.toInt ∧ ch1.toInt ≤ 57) ∨ ch1.toInt = 95) ∧ ((97 ≤ ch2.toInt ∧ ch2.toInt ≤ 122) ∨ (65 ≤ ch2.toInt ∧ ch2.toInt ≤ 90) ∨ (48 ≤ ch2.toInt ∧ ch2.toInt ≤ 57) ∨ ch2.toInt = 95))))] t → SF p e below s₁ m 0 #[vr r0] [] t := fun t k => pre7 t (by
      show SF p e below T5 m 15 #[vr r0] [(.int (bI (97 ≤ ch0.toInt ∧ ch0.toInt ≤ 122)))] _
      refine XS.ifYes X5.here hx rfl (pc0 := 15) (pc' := 29) rfl (hb hby d4_15) rfl ((if0 _ _).trans (feq hc6).2) (by decide) (by decide) ?_
      show SF p e below T5 m 29 #[vr r0] [] _
      refine XS.aloadN X5.here hx rfl (hb hby d4_29) rfl rfl ?_
      refine st15 _ ?_
      exact k)
    by_cases hc16 : (bI (((97 ≤ ch1.toInt ∧ ch1.toInt ≤ 122) ∨ (65 ≤ ch1.toInt ∧ ch1.toInt ≤ 90) ∨ (48 ≤ ch1.toInt ∧ ch1.toInt ≤ 57) ∨ ch1.toInt = 95) ∧ ((97 ≤ ch2.toInt ∧ ch2.toInt ≤ 122) ∨ (65 ≤ ch2.toInt ∧ ch2.toInt ≤ 90) ∨ (48 ≤ ch2.toInt ∧ ch2.toInt ≤ 57) ∨ ch2.toInt = 95))) = (0 : Int32)
    · skip
      have ohc16 : (bI (((97 ≤ ch1.toInt ∧ ch1.toInt ≤ 122) ∨ (65 ≤ ch1.toInt ∧ ch1.toInt ≤ 90) ∨ (48 ≤ ch1.toInt ∧ ch1.toInt ≤ 57) ∨ ch1.toInt = 95) ∧ ((97 ≤ ch2.toInt ∧ ch2.toInt ≤ 122) ∨ (65 ≤ ch2.toInt ∧ ch2.toInt ≤ 90) ∨ (48 ≤ ch2.toInt ∧ ch2.toInt ≤ 57) ∨ ch2.toInt = 95))).toInt = 0 := own_eq.mp hc16
      obtain ⟨fs, hr, hrun, hended, hW, hsame⟩ := X15.leave (v := some (.int 0)) (fun h => by rw [Bd.returns] at h; cases h)
      refine ⟨_, _, pre0 _ (pre17 _ ?_), hrun, hended, _, _, rfl, ?_, ⟨_, rfl⟩, hW, hsame.mono (by decide) (by decide)⟩
      · skip
        show SF p e below T15 m 33 #[vr r0] [(.int (bI (((97 ≤ ch1.toInt ∧ ch1.toInt ≤ 122) ∨ (65 ≤ ch1.toInt ∧ ch1.toInt ≤ 90) ∨ (48 ≤ ch1.toInt ∧ ch1.toInt ≤ 57) ∨ ch1.toInt = 95) ∧ ((97 ≤ ch2.toInt ∧ ch2.toInt ≤ 122) ∨ (65 ≤ ch2.toInt ∧ ch2.toInt ≤ 90) ∨ (48 ≤ ch2.toInt ∧ ch2.toInt ≤ 57) ∨ ch2.toInt = 95))))] _
        refine XS.ifYes X15.here hx rfl (pc0 := 33) (pc' := 40) rfl (hb hby d4_33) rfl ((if0 _ _).trans (teq hc16).1) (by decide) (by decide) ?_
        show SF p e below T15 m 40 #[vr r0] [] _
        refine XS.iconst X15.here hx rfl (hb hby d4_40) ?_
        show SF p e below T15 m 41 #[vr r0] [(.int 0)] _
        exact retN X15 hx (t := .boolean) Bd.returns (by simp) (hb hby d4_41) hr
      · show Qio__3 Z r0 ch0 ch1 ch2 G1 G3 h0 n0 _ T15.heap _
        rw [e15]
        exact ⟨own_b0 (by first | trivial | omega), N15, rfl⟩
    · skip
      have ohc16 : ¬ ((bI (((97 ≤ ch1.toInt ∧ ch1.toInt ≤ 122) ∨ (65 ≤ ch1.toInt ∧ ch1.toInt ≤ 90) ∨ (48 ≤ ch1.toInt ∧ ch1.toInt ≤ 57) ∨ ch1.toInt = 95) ∧ ((97 ≤ ch2.toInt ∧ ch2.toInt ≤ 122) ∨ (65 ≤ ch2.toInt ∧ ch2.toInt ≤ 90) ∨ (48 ≤ ch2.toInt ∧ ch2.toInt ≤ 57) ∨ ch2.toInt = 95))).toInt = 0) := own_neq.mp hc16
      obtain ⟨fs, hr, hrun, hended, hW, hsame⟩ := X15.leave (v := some (.int 1)) (fun h => by rw [Bd.returns] at h; cases h)
      refine ⟨_, _, pre0 _ (pre17 _ ?_), hrun, hended, _, _, rfl, ?_, ⟨_, rfl⟩, hW, hsame.mono (by decide) (by decide)⟩
      · skip
        show SF p e below T15 m 33 #[vr r0] [(.int (bI (((97 ≤ ch1.toInt ∧ ch1.toInt ≤ 122) ∨ (65 ≤ ch1.toInt ∧ ch1.toInt ≤ 90) ∨ (48 ≤ ch1.toInt ∧ ch1.toInt ≤ 57) ∨ ch1.toInt = 95) ∧ ((97 ≤ ch2.toInt ∧ ch2.toInt ≤ 122) ∨ (65 ≤ ch2.toInt ∧ ch2.toInt ≤ 90) ∨ (48 ≤ ch2.toInt ∧ ch2.toInt ≤ 57) ∨ ch2.toInt = 95))))] _
        refine XS.ifNo X15.here hx rfl (hb hby d4_33) rfl ((if0 _ _).trans (feq hc16).1) ?_
        show SF p e below T15 m 36 #[vr r0] [] _
        refine XS.iconst X15.here hx rfl (hb hby d4_36) ?_
        refine XS.goto X15.here hx rfl (pc0 := 37) (pc' := 41) rfl (hb hby d4_37) (by decide) (by decide) ?_
        show SF p e below T15 m 41 #[vr r0] [(.int 1)] _
        exact retN X15 hx (t := .boolean) Bd.returns (by simp) (hb hby d4_41) hr
      · show Qio__3 Z r0 ch0 ch1 ch2 G1 G3 h0 n0 _ T15.heap _
        rw [e15]
        exact ⟨own_b1 (by first | trivial | omega), N15, rfl⟩
def Qca__1w (Z : State) (r0 : Addr) (ch0 : Int32) (G1 : Int32) (G3 : Value) (h0 : Heap) (n0 : Nat) (v : Option Value) (h : Heap) (L : List Loc) : Prop := v = some (.int (bI (True))) ∧ Fr n0 L ∧ h = h0
set_option maxRecDepth 65536 in
set_option maxHeartbeats 40000000 in
theorem rmca__1w (l : Launch) (Z : State) (a0 : Array Value) (hw : ∀ d ∈ tables_1, d.before a0 Z = true) (ws : List Jvm.Cond) (r0 : Addr) (ch0 : Int32) (G1 : Int32) (G3 : Value) (h0 : Heap) (n0 : Nat) (Z0 : n0 ≤ h0.size) (O2 : sC Z h0 G1) (P5 : ¬ (G1 = (0 : Int32))) (O4 : sI Z h0 G3) (rG3 : G3.isRef = true) (OA : sA Z h0) (OH : sH Z h0) (OL : sL Z h0) (S0 : OW Z h0 r0 (2 : Int32) [(.int (loB ch0)), (.int (hiB ch0))]) (hb_ch0 : 0 ≤ ch0.toInt ∧ ch0.toInt ≤ 65535) :
    MF l Z mN27 prog_38_method_6_code 2 (some .boolean) ws (rK 5 0 0 66) #[(.ref r0)] h0 (Qca__1w Z r0 ch0 G1 G3 h0 n0) := by
  refine MetFree.of_bodySF (plainFor_of_name pn_com_example_orql_orql_Syntax) hisR ?_
  intro p e s m args below meth c s₁ Bd hml0 hP hK
  obtain ⟨rfl, hZ, hh⟩ := hP
  have hx := Bd.exec
  have hby := Bd.bytes
  have hml : c.maxLocals = 2 := hml0
  have hown : s.vm.findClass "com/example/orql/orql/Syntax" = some m.cls := findClass_of_methodNamed Bd.named
  have hnm := (name_of_methodNamed Bd.named Bd.method).1
  have X0 : Stand p l e (rK 5 0 0 66) s m #[(.ref r0)] below meth c s₁ [] 0 0 := Stand.of_body Bd
  have e0 : s₁.heap = h0 := by rw [← hh, Bd.state]; rfl
  have N0 := Fr.nil n0
  have pre0 : ∀ t, SF p e below s₁ m 0 #[vr r0, .unset] [] t → Steps p.tables e below (s₁.setTop (entryFrame m #[(.ref r0)] 2)) t := fun t k => castTop (ef_25 m r0) k
  have Ex1 : Exa Z h0 r0 "java/lang/String" := by obtain ⟨_, _, q, -⟩ := id S0; exact q
  obtain ⟨cq1, kq1, q1a, q1b, q1c⟩ := isOf hZ e0 Ex1
  obtain ⟨_, _, ⟨T1, L1, k1, n1⟩, -, X1, ⟨Lc1, hQ1, l1, y1, z1⟩, st1⟩ := X0.virtualBack hx (y := mN24) (z := mN24) hown (mvT hZ (tw hw 106 rfl)) (mvT hZ (tw hw 107 rfl)) (notFace_of_selects (args := #[]) (mvT hZ (tw hw 109 rfl))) (mvT hZ (tw hw 109 rfl)) (mvT hZ (tw hw 108 rfl)) (by decide) (backOf (W := 1) (rmln_1 l Z a0 hw [] r0 ch0 G1 G3 h0 n0 Z0 S0 O2 P5 O4 rG3 OA OH OL) hZ (tw hw 110 rfl) (tw hw 3 rfl) (by decide) (by decide)) q1a q1c (g := (mkF m 4 #[vr r0, vi 1] [(.ref r0), (.int 1)])) rfl (by rw [hml]; rfl) (Steps.refl _) (argsL := []) (rest := [(.int 1)]) (lenOf pd_15 rfl) rfl (by show 2 * 0 + _ ≤ _; exact Nat.le_of_eq rfl) (hb hby d25_4) (fun _ _ => ⟨rfl, e0, (by decide : 0 + 0 ≤ _), (by decide : 0 + 0 ≤ _)⟩)
  dsimp only [Pt.U, Pt.locs, Pt.cells, Pt.slots] at X1 l1 y1 z1 st1 hQ1
  subst l1 y1 z1
  obtain ⟨rfl, Nq1, e1⟩ := hQ1
  have N1 := Fr.app N0 Nq1
  have hc2 : ¬ ((1 : Int32) < (1 : Int32)) := by decide
  obtain ⟨fs, hr, hrun, hended, hW, hsame⟩ := X1.leave (v := some (.int 1)) (fun h => by rw [Bd.returns] at h; cases h)
  refine ⟨_, _, pre0 _ ?_, hrun, hended, _, _, rfl, ?_, ⟨_, rfl⟩, hW, hsame.mono (by decide) (by decide)⟩
  · skip
    show SF p e below s₁ m 0 #[vr r0, .unset] [] _
    refine XS.iconst X0.here hx rfl (hb hby d25_0) ?_
    refine XS.istoreN X0.here hx rfl (hb hby d25_1) rfl (l' := #[vr r0, vi 1]) rfl ?_
    refine XS.iloadN X0.here hx rfl (hb hby d25_2) rfl ?_
    refine XS.aloadN X0.here hx rfl (hb hby d25_3) rfl rfl ?_
    refine st1.trans ?_
    show SF p e below T1 m 7 #[vr r0, vi 1] [(.int 1), (.int 1)] _
    refine XS.icmpYes X1.here hx rfl (pc0 := 7) (pc' := 29) rfl (hb hby d25_7) rfl (flt hc2).2.1 (by decide) (by decide) ?_
    refine XS.iconst X1.here hx rfl (hb hby d25_29) ?_
    show SF p e below T1 m 30 #[vr r0, vi 1] [(.int 1)] _
    exact retN X1 hx (t := .boolean) Bd.returns (by simp) (hb hby d25_30) hr
  · show Qca__1w Z r0 ch0 G1 G3 h0 n0 _ T1.heap _
    rw [e1]
    exact ⟨own_b1 (by first | trivial | omega), N1, rfl⟩
def Qio__1w (Z : State) (r0 : Addr) (ch0 : Int32) (G1 : Int32) (G3 : Value) (h0 : Heap) (n0 : Nat) (v : Option Value) (h : Heap) (L : List Loc) : Prop := v = some (.int (bI (((97 ≤ ch0.toInt ∧ ch0.toInt ≤ 122) ∨ (48 ≤ ch0.toInt ∧ ch0.toInt ≤ 57))))) ∧ Fr n0 L ∧ h = h0
set_option maxRecDepth 65536 in
set_option maxHeartbeats 40000000 in
theorem rmio__1w (l : Launch) (Z : State) (a0 : Array Value) (hw : ∀ d ∈ tables_1, d.before a0 Z = true) (ws : List Jvm.Cond) (r0 : Addr) (ch0 : Int32) (G1 : Int32) (G3 : Value) (h0 : Heap) (n0 : Nat) (Z0 : n0 ≤ h0.size) (O2 : sC Z h0 G1) (P5 : ¬ (G1 = (0 : Int32))) (O4 : sI Z h0 G3) (rG3 : G3.isRef = true) (OA : sA Z h0) (OH : sH Z h0) (OL : sL Z h0) (S0 : OW Z h0 r0 (2 : Int32) [(.int (loB ch0)), (.int (hiB ch0))]) (hb_ch0 : 0 ≤ ch0.toInt ∧ ch0.toInt ≤ 65535) :
    MF l Z mN26 prog_38_method_5_code 1 (some .boolean) ws (rK 6 0 0 79) #[(.ref r0)] h0 (Qio__1w Z r0 ch0 G1 G3 h0 n0) := by
  refine MetFree.of_bodySF (plainFor_of_name pn_com_example_orql_orql_Syntax) hisR ?_
  intro p e s m args below meth c s₁ Bd hml0 hP hK
  obtain ⟨rfl, hZ, hh⟩ := hP
  have hx := Bd.exec
  have hby := Bd.bytes
  have hml : c.maxLocals = 1 := hml0
  have hown : s.vm.findClass "com/example/orql/orql/Syntax" = some m.cls := findClass_of_methodNamed Bd.named
  have hnm := (name_of_methodNamed Bd.named Bd.method).1
  have X0 : Stand p l e (rK 6 0 0 79) s m #[(.ref r0)] below meth c s₁ [] 0 0 := Stand.of_body Bd
  have e0 : s₁.heap = h0 := by rw [← hh, Bd.state]; rfl
  have N0 := Fr.nil n0
  have pre0 : ∀ t, SF p e below s₁ m 0 #[vr r0] [] t → Steps p.tables e below (s₁.setTop (entryFrame m #[(.ref r0)] 1)) t := fun t k => castTop (ef_4 m r0) k
  have Ex1 : Exa Z h0 r0 "java/lang/String" := by obtain ⟨_, _, q, -⟩ := id S0; exact q
  obtain ⟨cq1, kq1, q1a, q1b, q1c⟩ := isOf hZ e0 Ex1
  obtain ⟨_, _, ⟨T1, L1, k1, n1⟩, -, X1, ⟨Lc1, hQ1, l1, y1, z1⟩, st1⟩ := X0.virtualBack hx (y := mN25) (z := mN25) hown (mvT hZ (tw hw 26 rfl)) (mvT hZ (tw hw 27 rfl)) (notFace_of_selects (args := #[]) (mvT hZ (tw hw 29 rfl))) (mvT hZ (tw hw 29 rfl)) (mvT hZ (tw hw 28 rfl)) (by decide) (backOf (W := 0) (rmem_1 l Z a0 hw [] r0 ch0 G1 G3 h0 n0 Z0 S0 O2 P5 O4 rG3 OA OH OL) hZ (tw hw 30 rfl) (tw hw 3 rfl) (by decide) (by decide)) q1a q1c (g := (mkF m 1 #[vr r0] [(.ref r0)])) rfl (by rw [hml]; rfl) (Steps.refl _) (argsL := []) (rest := []) (lenOf pd_13 rfl) rfl (by show 2 * 0 + _ ≤ _; exact Nat.le_of_eq rfl) (hb hby d4_1) (fun _ _ => ⟨rfl, e0, (by decide : 0 + 0 ≤ _), (by decide : 0 + 0 ≤ _)⟩)
  dsimp only [Pt.U, Pt.locs, Pt.cells, Pt.slots] at X1 l1 y1 z1 st1 hQ1
  subst l1 y1 z1
  obtain ⟨rfl, Nq1, e1⟩ := hQ1
  have N1 := Fr.app N0 Nq1
  have hc2 : (0 : Int32) = (0 : Int32) := by decide
  obtain ⟨cq3, kq3, q3a, q3b, q3c⟩ := isOf hZ e1 Ex1
  obtain ⟨_, _, ⟨T3, L3, k3, n3⟩, -, X3, ⟨Lc3, hQ3, l3, y3, z3⟩, st3⟩ := X1.virtualBack hx (y := mN23) (z := mN23) hown (mvT hZ (tw hw 46 rfl)) (mvT hZ (tw hw 47 rfl)) (notFace_of_selects (args := #[]) (mvT hZ (tw hw 49 rfl))) (mvT hZ (tw hw 49 rfl)) (mvT hZ (tw hw 48 rfl)) (by decide) (backOf (W := 0) (rmca_1_0 l Z a0 hw [] r0 ch0 G1 G3 h0 n0 Z0 S0 hb_ch0 O2 P5 O4 rG3 OA OH OL) hZ (tw hw 50 rfl) (tw hw 3 rfl) (by decide) (by decide)) q3a q3c (g := (mkF m 9 #[vr r0] [(.int 0), (.ref r0)])) rfl (by rw [hml]; rfl) (Steps.refl _) (argsL := [(.int 0)]) (rest := []) (lenOf pd_16 rfl) rfl (by show 2 * 0 + _ ≤ _; exact Nat.le_of_eq rfl) (hb hby d4_9) (fun _ _ => ⟨rfl, e1, (by decide : 0 + 0 ≤ _), (by decide : 0 + 0 ≤ _)⟩)
  dsimp only [Pt.U, Pt.locs, Pt.cells, Pt.slots] at X3 l3 y3 z3 st3 hQ3
  subst l3 y3 z3
  obtain ⟨rfl, Nq3, e3⟩ := hQ3
  have N3 := Fr.app N1 Nq3
  obtain ⟨_, _, ⟨T4, L4, k4, n4⟩, -, X4, ⟨Lc4, hQ4, l4, y4, z4⟩, st4⟩ := Jvm.LawKit.callS X3 hx (y := mN0) hown (mvT hZ (tw hw 68 rfl)) (mvT hZ (tw hw 69 rfl)) (mvT hZ (tw hw 24 rfl)) (mvT hZ (tw hw 70 rfl)) (by decide) (backOf (W := 0) (rm15 l Z a0 hw [] ch0  h0 n0 Z0 ) hZ (tw hw 70 rfl) (tw hw 24 rfl) (by decide) (by decide)) (g := (mkF m 12 #[vr r0] [(.int ch0)])) rfl (by rw [hml]; rfl) (argsL := [(.int ch0)]) (rest := []) (lenOf pd_0 rfl) rfl (by show 2 * 0 + _ ≤ _; exact Nat.le_of_eq rfl) (hb hby d4_12) (fun _ _ => ⟨rfl, e3, (by decide : 0 + 0 ≤ _), (by decide : 0 + 0 ≤ _)⟩)
  dsimp only [Pt.U, Pt.locs, Pt.cells, Pt.slots] at X4 l4 y4 z4 st4 hQ4
  subst l4 y4 z4
  obtain ⟨rfl, Nq4, e4⟩ := hQ4
  have N4 := Fr.app N3 Nq4
  have t4 := own_bt (P := 97 ≤ ch0.toInt ∧ ch0.toInt ≤ 122)
  have pre6 : ∀ t, SF p e below T4 m 15 #[vr r0] [(.int (bI (97 ≤ ch0.toInt ∧ ch0.toInt ≤ 122)))] t → SF p e below s₁ m 0 #[vr r0] [] t := fun t k => (by
    show SF p e below s₁ m 0 #[vr r0] [] _
    refine XS.aloadN X0.here hx rfl (hb hby d4_0) rfl rfl ?_
    refine st1.trans ?_
    refine XS.ifNo X1.here hx rfl (hb hby d4_4) rfl ((if0 _ _).trans (teq hc2).2) ?_
    refine XS.aloadN X1.here hx rfl (hb hby d4_7) rfl rfl ?_
    refine XS.iconst X1.here hx rfl (hb hby d4_8) ?_
    show SF p e below T1 m 9 #[vr r0] [(.int 0), (.ref r0)] _
    refine st3.trans ?_
    refine st4 _ ?_
    exact k)
  by_cases hc5 : (bI (97 ≤ ch0.toInt ∧ ch0.toInt ≤ 122)) = (0 : Int32)
  · skip
    have ohc5 : (bI (97 ≤ ch0.toInt ∧ ch0.toInt ≤ 122)).toInt = 0 := own_eq.mp hc5
    obtain ⟨cq7, kq7, q7a, q7b, q7c⟩ := isOf hZ e4 Ex1
    obtain ⟨_, _, ⟨T7, L7, k7, n7⟩, -, X7, ⟨Lc7, hQ7, l7, y7, z7⟩, st7⟩ := X4.virtualBack hx (y := mN23) (z := mN23) hown (mvT hZ (tw hw 46 rfl)) (mvT hZ (tw hw 47 rfl)) (notFace_of_selects (args := #[]) (mvT hZ (tw hw 49 rfl))) (mvT hZ (tw hw 49 rfl)) (mvT hZ (tw hw 48 rfl)) (by decide) (backOf (W := 0) (rmca_1_0 l Z a0 hw [] r0 ch0 G1 G3 h0 n0 Z0 S0 hb_ch0 O2 P5 O4 rG3 OA OH OL) hZ (tw hw 50 rfl) (tw hw 3 rfl) (by decide) (by decide)) q7a q7c (g := (mkF m 20 #[vr r0] [(.int 0), (.ref r0)])) rfl (by rw [hml]; rfl) (Steps.refl _) (argsL := [(.int 0)]) (rest := []) (lenOf pd_16 rfl) rfl (by show 2 * 0 + _ ≤ _; exact Nat.le_of_eq rfl) (hb hby d4_20) (fun _ _ => ⟨rfl, e4, (by decide : 0 + 0 ≤ _), (by decide : 0 + 0 ≤ _)⟩)
    dsimp only [Pt.U, Pt.locs, Pt.cells, Pt.slots] at X7 l7 y7 z7 st7 hQ7
    subst l7 y7 z7
    obtain ⟨rfl, Nq7, e7⟩ := hQ7
    have N7 := Fr.app N4 Nq7
    obtain ⟨_, _, ⟨T8, L8, k8, n8⟩, -, X8, ⟨Lc8, hQ8, l8, y8, z8⟩, st8⟩ := Jvm.LawKit.callS X7 hx (y := mN2) hown (mvT hZ (tw hw 71 rfl)) (mvT hZ (tw hw 72 rfl)) (mvT hZ (tw hw 24 rfl)) (mvT hZ (tw hw 73 rfl)) (by decide) (backOf (W := 0) (rm16 l Z a0 hw [] ch0  h0 n0 Z0 ) hZ (tw hw 73 rfl) (tw hw 24 rfl) (by decide) (by decide)) (g := (mkF m 23 #[vr r0] [(.int ch0)])) rfl (by rw [hml]; rfl) (argsL := [(.int ch0)]) (rest := []) (lenOf pd_0 rfl) rfl (by show 2 * 0 + _ ≤ _; exact Nat.le_of_eq rfl) (hb hby d4_23) (fun _ _ => ⟨rfl, e7, (by decide : 0 + 0 ≤ _), (by decide : 0 + 0 ≤ _)⟩)
    dsimp only [Pt.U, Pt.locs, Pt.cells, Pt.slots] at X8 l8 y8 z8 st8 hQ8
    subst l8 y8 z8
    obtain ⟨rfl, Nq8, e8⟩ := hQ8
    have N8 := Fr.app N7 Nq8
    have t8 := own_bt (P := 48 ≤ ch0.toInt ∧ ch0.toInt ≤ 57)
    have pre10 : ∀ t, SF p e below T8 m 26 #[vr r0] [(.int (bI (48 ≤ ch0.toInt ∧ ch0.toInt ≤ 57)))] t → SF p e below s₁ m 0 #[vr r0] [] t := fun t k => pre6 t (by
      show SF p e below T4 m 15 #[vr r0] [(.int (bI (97 ≤ ch0.toInt ∧ ch0.toInt ≤ 122)))] _
      refine XS.ifNo X4.here hx rfl (hb hby d4_15) rfl ((if0 _ _).trans (teq hc5).2) ?_
      show SF p e below T4 m 18 #[vr r0] [] _
      refine XS.aloadN X4.here hx rfl (hb hby d4_18) rfl rfl ?_
      refine XS.iconst X4.here hx rfl (hb hby d4_19) ?_
      refine st7.trans ?_
      refine st8 _ ?_
      exact k)
    by_cases hc9 : (bI (48 ≤ ch0.toInt ∧ ch0.toInt ≤ 57)) = (0 : Int32)
    · skip
      have ohc9 : (bI (48 ≤ ch0.toInt ∧ ch0.toInt ≤ 57)).toInt = 0 := own_eq.mp hc9
      obtain ⟨fs, hr, hrun, hended, hW, hsame⟩ := X8.leave (v := some (.int 0)) (fun h => by rw [Bd.returns] at h; cases h)
      refine ⟨_, _, pre0 _ (pre10 _ ?_), hrun, hended, _, _, rfl, ?_, ⟨_, rfl⟩, hW, hsame.mono (by decide) (by decide)⟩
      · skip
        show SF p e below T8 m 26 #[vr r0] [(.int (bI (48 ≤ ch0.toInt ∧ ch0.toInt ≤ 57)))] _
        refine XS.ifYes X8.here hx rfl (pc0 := 26) (pc' := 40) rfl (hb hby d4_26) rfl ((if0 _ _).trans (teq hc9).1) (by decide) (by decide) ?_
        show SF p e below T8 m 40 #[vr r0] [] _
        refine XS.iconst X8.here hx rfl (hb hby d4_40) ?_
        show SF p e below T8 m 41 #[vr r0] [(.int 0)] _
        exact retN X8 hx (t := .boolean) Bd.returns (by simp) (hb hby d4_41) hr
      · show Qio__1w Z r0 ch0 G1 G3 h0 n0 _ T8.heap _
        rw [e8]
        exact ⟨own_b0 (by first | trivial | omega), N8, rfl⟩
    · skip
      have ohc9 : ¬ ((bI (48 ≤ ch0.toInt ∧ ch0.toInt ≤ 57)).toInt = 0) := own_neq.mp hc9
      obtain ⟨_, _, ⟨T11, L11, k11, n11⟩, -, X11, ⟨Lc11, hQ11, l11, y11, z11⟩, st11⟩ := Jvm.LawKit.callS X8 hx (y := mN27) hown (mvT hZ (tw hw 103 rfl)) (mvT hZ (tw hw 104 rfl)) (mvT hZ (tw hw 24 rfl)) (mvT hZ (tw hw 105 rfl)) (by decide) (backOf (W := 0) (rmca__1w l Z a0 hw [] r0 ch0 G1 G3 h0 n0 Z0 O2 P5 O4 rG3 OA OH OL S0 hb_ch0) hZ (tw hw 105 rfl) (tw hw 24 rfl) (by decide) (by decide)) (g := (mkF m 30 #[vr r0] [(.ref r0)])) rfl (by rw [hml]; rfl) (argsL := [(.ref r0)]) (rest := []) (lenOf pd_17 rfl) rfl (by show 2 * 0 + _ ≤ _; exact Nat.le_of_eq rfl) (hb hby d4_30) (fun _ _ => ⟨rfl, e8, (by decide : 0 + 0 ≤ _), (by decide : 0 + 0 ≤ _)⟩)
      dsimp only [Pt.U, Pt.locs, Pt.cells, Pt.slots] at X11 l11 y11 z11 st11 hQ11
      subst l11 y11 z11
      obtain ⟨rfl, Nq11, e11⟩ := hQ11
      have N11 := Fr.app N8 Nq11
      have t11 := own_bt (P := True)
      have pre13 : ∀ t, SF p e below T11 m 33 #[vr r0] [(.int (bI (True)))] t → SF p e below s₁ m 0 #[vr r0] [] t := fun t k => pre10 t (by
        show SF p e below T8 m 26 #[vr r0] [(.int (bI (48 ≤ ch0.toInt ∧ ch0.toInt ≤ 57)))] _
        refine XS.ifNo X8.here hx rfl (hb hby d4_26) rfl ((if0 _ _).trans (feq hc9).1) ?_
        show SF p e below T8 m 29 #[vr r0] [] _
        refine XS.aloadN X8.here hx rfl (hb hby d4_29) rfl rfl ?_
        refine st11 _ ?_
        exact k)
      by_cases hc12 : (bI (True)) = (0 : Int32)
      · skip
        have ohc12 : (bI (True)).toInt = 0 := own_eq.mp hc12
        obtain ⟨fs, hr, hrun, hended, hW, hsame⟩ := X11.leave (v := some (.int 0)) (fun h => by rw [Bd.returns] at h; cases h)
        refine ⟨_, _, pre0 _ (pre13 _ ?_), hrun, hended, _, _, rfl, ?_, ⟨_, rfl⟩, hW, hsame.mono (by decide) (by decide)⟩
        · skip
          show SF p e below T11 m 33 #[vr r0] [(.int (bI (True)))] _
          refine XS.ifYes X11.here hx rfl (pc0 := 33) (pc' := 40) rfl (hb hby d4_33) rfl ((if0 _ _).trans (teq hc12).1) (by decide) (by decide) ?_
          show SF p e below T11 m 40 #[vr r0] [] _
          refine XS.iconst X11.here hx rfl (hb hby d4_40) ?_
          show SF p e below T11 m 41 #[vr r0] [(.int 0)] _
          exact retN X11 hx (t := .boolean) Bd.returns (by simp) (hb hby d4_41) hr
        · show Qio__1w Z r0 ch0 G1 G3 h0 n0 _ T11.heap _
          rw [e11]
          exact ⟨own_b0 (by first | trivial | omega), N11, rfl⟩
      · skip
        have ohc12 : ¬ ((bI (True)).toInt = 0) := own_neq.mp hc12
        obtain ⟨fs, hr, hrun, hended, hW, hsame⟩ := X11.leave (v := some (.int 1)) (fun h => by rw [Bd.returns] at h; cases h)
        refine ⟨_, _, pre0 _ (pre13 _ ?_), hrun, hended, _, _, rfl, ?_, ⟨_, rfl⟩, hW, hsame.mono (by decide) (by decide)⟩
        · skip
          show SF p e below T11 m 33 #[vr r0] [(.int (bI (True)))] _
          refine XS.ifNo X11.here hx rfl (hb hby d4_33) rfl ((if0 _ _).trans (feq hc12).1) ?_
          show SF p e below T11 m 36 #[vr r0] [] _
          refine XS.iconst X11.here hx rfl (hb hby d4_36) ?_
          refine XS.goto X11.here hx rfl (pc0 := 37) (pc' := 41) rfl (hb hby d4_37) (by decide) (by decide) ?_
          show SF p e below T11 m 41 #[vr r0] [(.int 1)] _
          exact retN X11 hx (t := .boolean) Bd.returns (by simp) (hb hby d4_41) hr
        · show Qio__1w Z r0 ch0 G1 G3 h0 n0 _ T11.heap _
          rw [e11]
          exact ⟨own_b1 (by first | trivial | omega), N11, rfl⟩
  · skip
    have ohc5 : ¬ ((bI (97 ≤ ch0.toInt ∧ ch0.toInt ≤ 122)).toInt = 0) := own_neq.mp hc5
    obtain ⟨_, _, ⟨T14, L14, k14, n14⟩, -, X14, ⟨Lc14, hQ14, l14, y14, z14⟩, st14⟩ := Jvm.LawKit.callS X4 hx (y := mN27) hown (mvT hZ (tw hw 103 rfl)) (mvT hZ (tw hw 104 rfl)) (mvT hZ (tw hw 24 rfl)) (mvT hZ (tw hw 105 rfl)) (by decide) (backOf (W := 0) (rmca__1w l Z a0 hw [] r0 ch0 G1 G3 h0 n0 Z0 O2 P5 O4 rG3 OA OH OL S0 hb_ch0) hZ (tw hw 105 rfl) (tw hw 24 rfl) (by decide) (by decide)) (g := (mkF m 30 #[vr r0] [(.ref r0)])) rfl (by rw [hml]; rfl) (argsL := [(.ref r0)]) (rest := []) (lenOf pd_17 rfl) rfl (by show 2 * 0 + _ ≤ _; exact Nat.le_of_eq rfl) (hb hby d4_30) (fun _ _ => ⟨rfl, e4, (by decide : 0 + 0 ≤ _), (by decide : 0 + 0 ≤ _)⟩)
    dsimp only [Pt.U, Pt.locs, Pt.cells, Pt.slots] at X14 l14 y14 z14 st14 hQ14
    subst l14 y14 z14
    obtain ⟨rfl, Nq14, e14⟩ := hQ14
    have N14 := Fr.app N4 Nq14
    have t14 := own_bt (P := True)
    have pre16 : ∀ t, SF p e below T14 m 33 #[vr r0] [(.int (bI (True)))] t → SF p e below s₁ m 0 #[vr r0] [] t := fun t k => pre6 t (by
      show SF p e below T4 m 15 #[vr r0] [(.int (bI (97 ≤ ch0.toInt ∧ ch0.toInt ≤ 122)))] _
      refine XS.ifYes X4.here hx rfl (pc0 := 15) (pc' := 29) rfl (hb hby d4_15) rfl ((if0 _ _).trans (feq hc5).2) (by decide) (by decide) ?_
      show SF p e below T4 m 29 #[vr r0] [] _
      refine XS.aloadN X4.here hx rfl (hb hby d4_29) rfl rfl ?_
      refine st14 _ ?_
      exact k)
    by_cases hc15 : (bI (True)) = (0 : Int32)
    · skip
      have ohc15 : (bI (True)).toInt = 0 := own_eq.mp hc15
      obtain ⟨fs, hr, hrun, hended, hW, hsame⟩ := X14.leave (v := some (.int 0)) (fun h => by rw [Bd.returns] at h; cases h)
      refine ⟨_, _, pre0 _ (pre16 _ ?_), hrun, hended, _, _, rfl, ?_, ⟨_, rfl⟩, hW, hsame.mono (by decide) (by decide)⟩
      · skip
        show SF p e below T14 m 33 #[vr r0] [(.int (bI (True)))] _
        refine XS.ifYes X14.here hx rfl (pc0 := 33) (pc' := 40) rfl (hb hby d4_33) rfl ((if0 _ _).trans (teq hc15).1) (by decide) (by decide) ?_
        show SF p e below T14 m 40 #[vr r0] [] _
        refine XS.iconst X14.here hx rfl (hb hby d4_40) ?_
        show SF p e below T14 m 41 #[vr r0] [(.int 0)] _
        exact retN X14 hx (t := .boolean) Bd.returns (by simp) (hb hby d4_41) hr
      · show Qio__1w Z r0 ch0 G1 G3 h0 n0 _ T14.heap _
        rw [e14]
        exact ⟨own_b0 (by first | trivial | omega), N14, rfl⟩
    · skip
      have ohc15 : ¬ ((bI (True)).toInt = 0) := own_neq.mp hc15
      obtain ⟨fs, hr, hrun, hended, hW, hsame⟩ := X14.leave (v := some (.int 1)) (fun h => by rw [Bd.returns] at h; cases h)
      refine ⟨_, _, pre0 _ (pre16 _ ?_), hrun, hended, _, _, rfl, ?_, ⟨_, rfl⟩, hW, hsame.mono (by decide) (by decide)⟩
      · skip
        show SF p e below T14 m 33 #[vr r0] [(.int (bI (True)))] _
        refine XS.ifNo X14.here hx rfl (hb hby d4_33) rfl ((if0 _ _).trans (feq hc15).1) ?_
        show SF p e below T14 m 36 #[vr r0] [] _
        refine XS.iconst X14.here hx rfl (hb hby d4_36) ?_
        refine XS.goto X14.here hx rfl (pc0 := 37) (pc' := 41) rfl (hb hby d4_37) (by decide) (by decide) ?_
        show SF p e below T14 m 41 #[vr r0] [(.int 1)] _
        exact retN X14 hx (t := .boolean) Bd.returns (by simp) (hb hby d4_41) hr
      · show Qio__1w Z r0 ch0 G1 G3 h0 n0 _ T14.heap _
        rw [e14]
        exact ⟨own_b1 (by first | trivial | omega), N14, rfl⟩
def Qio_c_1 (Z : State) (r0 : Addr) (ch0 : Int32) (G1 : Int32) (G3 : Value) (h0 : Heap) (n0 : Nat) (v : Option Value) (h : Heap) (L : List Loc) : Prop := v = some (.int (bI (((97 ≤ ch0.toInt ∧ ch0.toInt ≤ 122) ∨ (48 ≤ ch0.toInt ∧ ch0.toInt ≤ 57))))) ∧ Fr n0 L ∧ h = h0
theorem rmio_c_1 (l : Launch) (Z : State) (a0 : Array Value) (hw : ∀ d ∈ tables_1, d.before a0 Z = true) (ws : List Jvm.Cond) (r0 : Addr) (ch0 : Int32) (G1 : Int32) (G3 : Value) (h0 : Heap) (n0 : Nat) (Z0 : n0 ≤ h0.size) (O2 : sC Z h0 G1) (P5 : ¬ (G1 = (0 : Int32))) (O4 : sI Z h0 G3) (rG3 : G3.isRef = true) (OA : sA Z h0) (OH : sH Z h0) (OL : sL Z h0) (S0 : (OStr Z h0 r0 [ch0] ∨ OW Z h0 r0 (2 : Int32) [(.int (loB ch0)), (.int (hiB ch0))])) (hb_ch0 : 0 ≤ ch0.toInt ∧ ch0.toInt ≤ 65535) :
    MF l Z mN26 prog_38_method_5_code 1 (some .boolean) ws (rK 6 0 0 79) #[(.ref r0)] h0 (Qio_c_1 Z r0 ch0 G1 G3 h0 n0) := by
  rcases S0 with S0 | S0
  · exact rmio__1 l Z a0 hw ws r0 ch0 G1 G3 h0 n0 Z0 O2 P5 O4 rG3 S0
  · exact rmio__1w l Z a0 hw ws r0 ch0 G1 G3 h0 n0 Z0 O2 P5 O4 rG3 OA OH OL S0 hb_ch0
def Qca__2w (Z : State) (r0 : Addr) (ch0 : Int32) (ch1 : Int32) (G1 : Int32) (G3 : Value) (h0 : Heap) (n0 : Nat) (v : Option Value) (h : Heap) (L : List Loc) : Prop := v = some (.int (bI (((97 ≤ ch1.toInt ∧ ch1.toInt ≤ 122) ∨ (65 ≤ ch1.toInt ∧ ch1.toInt ≤ 90) ∨ (48 ≤ ch1.toInt ∧ ch1.toInt ≤ 57) ∨ ch1.toInt = 95)))) ∧ Fr n0 L ∧ h = h0
set_option maxRecDepth 65536 in
set_option maxHeartbeats 40000000 in
theorem rmca__2w (l : Launch) (Z : State) (a0 : Array Value) (hw : ∀ d ∈ tables_1, d.before a0 Z = true) (ws : List Jvm.Cond) (r0 : Addr) (ch0 : Int32) (ch1 : Int32) (G1 : Int32) (G3 : Value) (h0 : Heap) (n0 : Nat) (Z0 : n0 ≤ h0.size) (O2 : sC Z h0 G1) (P5 : ¬ (G1 = (0 : Int32))) (O4 : sI Z h0 G3) (rG3 : G3.isRef = true) (OA : sA Z h0) (OH : sH Z h0) (OL : sL Z h0) (S0 : OW Z h0 r0 (4 : Int32) [(.int (loB ch0)), (.int (hiB ch0)), (.int (loB ch1)), (.int (hiB ch1))]) (hb_ch0 : 0 ≤ ch0.toInt ∧ ch0.toInt ≤ 65535) (hb_ch1 : 0 ≤ ch1.toInt ∧ ch1.toInt ≤ 65535) :
    MF l Z mN27 prog_38_method_6_code 2 (some .boolean) ws (rK 5 0 0 66) #[(.ref r0)] h0 (Qca__2w Z r0 ch0 ch1 G1 G3 h0 n0) := by
  refine MetFree.of_bodySF (plainFor_of_name pn_com_example_orql_orql_Syntax) hisR ?_
  intro p e s m args below meth c s₁ Bd hml0 hP hK
  obtain ⟨rfl, hZ, hh⟩ := hP
  have hx := Bd.exec
  have hby := Bd.bytes
  have hml : c.maxLocals = 2 := hml0
  have hown : s.vm.findClass "com/example/orql/orql/Syntax" = some m.cls := findClass_of_methodNamed Bd.named
  have hnm := (name_of_methodNamed Bd.named Bd.method).1
  have X0 : Stand p l e (rK 5 0 0 66) s m #[(.ref r0)] below meth c s₁ [] 0 0 := Stand.of_body Bd
  have e0 : s₁.heap = h0 := by rw [← hh, Bd.state]; rfl
  have N0 := Fr.nil n0
  have pre0 : ∀ t, SF p e below s₁ m 0 #[vr r0, .unset] [] t → Steps p.tables e below (s₁.setTop (entryFrame m #[(.ref r0)] 2)) t := fun t k => castTop (ef_25 m r0) k
  have Ex1 : Exa Z h0 r0 "java/lang/String" := by obtain ⟨_, _, q, -⟩ := id S0; exact q
  obtain ⟨cq1, kq1, q1a, q1b, q1c⟩ := isOf hZ e0 Ex1
  obtain ⟨_, _, ⟨T1, L1, k1, n1⟩, -, X1, ⟨Lc1, hQ1, l1, y1, z1⟩, st1⟩ := X0.virtualBack hx (y := mN24) (z := mN24) hown (mvT hZ (tw hw 106 rfl)) (mvT hZ (tw hw 107 rfl)) (notFace_of_selects (args := #[]) (mvT hZ (tw hw 109 rfl))) (mvT hZ (tw hw 109 rfl)) (mvT hZ (tw hw 108 rfl)) (by decide) (backOf (W := 1) (rmln_2 l Z a0 hw [] r0 ch0 ch1 G1 G3 h0 n0 Z0 S0 O2 P5 O4 rG3 OA OH OL) hZ (tw hw 110 rfl) (tw hw 3 rfl) (by decide) (by decide)) q1a q1c (g := (mkF m 4 #[vr r0, vi 1] [(.ref r0), (.int 1)])) rfl (by rw [hml]; rfl) (Steps.refl _) (argsL := []) (rest := [(.int 1)]) (lenOf pd_15 rfl) rfl (by show 2 * 0 + _ ≤ _; exact Nat.le_of_eq rfl) (hb hby d25_4) (fun _ _ => ⟨rfl, e0, (by decide : 0 + 0 ≤ _), (by decide : 0 + 0 ≤ _)⟩)
  dsimp only [Pt.U, Pt.locs, Pt.cells, Pt.slots] at X1 l1 y1 z1 st1 hQ1
  subst l1 y1 z1
  obtain ⟨rfl, Nq1, e1⟩ := hQ1
  have N1 := Fr.app N0 Nq1
  have hc2 : (1 : Int32) < (2 : Int32) := by decide
  obtain ⟨cq3, kq3, q3a, q3b, q3c⟩ := isOf hZ e1 Ex1
  obtain ⟨_, _, ⟨T3, L3, k3, n3⟩, -, X3, ⟨Lc3, hQ3, l3, y3, z3⟩, st3⟩ := X1.virtualBack hx (y := mN23) (z := mN23) hown (mvT hZ (tw hw 46 rfl)) (mvT hZ (tw hw 47 rfl)) (notFace_of_selects (args := #[]) (mvT hZ (tw hw 49 rfl))) (mvT hZ (tw hw 49 rfl)) (mvT hZ (tw hw 48 rfl)) (by decide) (backOf (W := 0) (rmca_2_1 l Z a0 hw [] r0 ch0 ch1 G1 G3 h0 n0 Z0 S0 hb_ch1 O2 P5 O4 rG3 OA OH OL) hZ (tw hw 50 rfl) (tw hw 3 rfl) (by decide) (by decide)) q3a q3c (g := (mkF m 12 #[vr r0, vi 1] [(.int 1), (.ref r0)])) rfl (by rw [hml]; rfl) (Steps.refl _) (argsL := [(.int 1)]) (rest := []) (lenOf pd_16 rfl) rfl (by show 2 * 0 + _ ≤ _; exact Nat.le_of_eq rfl) (hb hby d25_12) (fun _ _ => ⟨rfl, e1, (by decide : 0 + 0 ≤ _), (by decide : 0 + 0 ≤ _)⟩)
  dsimp only [Pt.U, Pt.locs, Pt.cells, Pt.slots] at X3 l3 y3 z3 st3 hQ3
  subst l3 y3 z3
  obtain ⟨rfl, Nq3, e3⟩ := hQ3
  have N3 := Fr.app N1 Nq3
  obtain ⟨_, _, ⟨T4, L4, k4, n4⟩, -, X4, ⟨Lc4, hQ4, l4, y4, z4⟩, st4⟩ := Jvm.LawKit.callS X3 hx (y := mN3) hown (mvT hZ (tw hw 119 rfl)) (mvT hZ (tw hw 120 rfl)) (mvT hZ (tw hw 24 rfl)) (mvT hZ (tw hw 121 rfl)) (by decide) (backOf (W := 0) (rm29 l Z a0 hw [] ch1  h0 n0 Z0 ) hZ (tw hw 121 rfl) (tw hw 24 rfl) (by decide) (by decide)) (g := (mkF m 15 #[vr r0, vi 1] [(.int ch1)])) rfl (by rw [hml]; rfl) (argsL := [(.int ch1)]) (rest := []) (lenOf pd_0 rfl) rfl (by show 2 * 0 + _ ≤ _; exact Nat.le_of_eq rfl) (hb hby d25_15) (fun _ _ => ⟨rfl, e3, (by decide : 0 + 0 ≤ _), (by decide : 0 + 0 ≤ _)⟩)
  dsimp only [Pt.U, Pt.locs, Pt.cells, Pt.slots] at X4 l4 y4 z4 st4 hQ4
  subst l4 y4 z4
  obtain ⟨rfl, Nq4, e4⟩ := hQ4
  have N4 := Fr.app N3 Nq4
  have t4 := own_bt (P := (97 ≤ ch1.toInt ∧ ch1.toInt ≤ 122) ∨ (65 ≤ ch1.toInt ∧ ch1.toInt ≤ 90) ∨ (48 ≤ ch1.toInt ∧ ch1.toInt ≤ 57) ∨ ch1.toInt = 95)
  have pre6 : ∀ t, SF p e below T4 m 18 #[vr r0, vi 1] [(.int (bI ((97 ≤ ch1.toInt ∧ ch1.toInt ≤ 122) ∨ (65 ≤ ch1.toInt ∧ ch1.toInt ≤ 90) ∨ (48 ≤ ch1.toInt ∧ ch1.toInt ≤ 57) ∨ ch1.toInt = 95)))] t → SF p e below s₁ m 0 #[vr r0, .unset] [] t := fun t k => (by
    show SF p e below s₁ m 0 #[vr r0, .unset] [] _
    refine XS.iconst X0.here hx rfl (hb hby d25_0) ?_
    refine XS.istoreN X0.here hx rfl (hb hby d25_1) rfl (l' := #[vr r0, vi 1]) rfl ?_
    refine XS.iloadN X0.here hx rfl (hb hby d25_2) rfl ?_
    refine XS.aloadN X0.here hx rfl (hb hby d25_3) rfl rfl ?_
    refine st1.trans ?_
    show SF p e below T1 m 7 #[vr r0, vi 1] [(.int 2), (.int 1)] _
    refine XS.icmpNo X1.here hx rfl (hb hby d25_7) rfl (tlt hc2).2.1 ?_
    refine XS.aloadN X1.here hx rfl (hb hby d25_10) rfl rfl ?_
    refine XS.iloadN X1.here hx rfl (hb hby d25_11) rfl ?_
    refine st3.trans ?_
    refine st4 _ ?_
    exact k)
  by_cases hc5 : (bI ((97 ≤ ch1.toInt ∧ ch1.toInt ≤ 122) ∨ (65 ≤ ch1.toInt ∧ ch1.toInt ≤ 90) ∨ (48 ≤ ch1.toInt ∧ ch1.toInt ≤ 57) ∨ ch1.toInt = 95)) = (0 : Int32)
  · skip
    have ohc5 : (bI ((97 ≤ ch1.toInt ∧ ch1.toInt ≤ 122) ∨ (65 ≤ ch1.toInt ∧ ch1.toInt ≤ 90) ∨ (48 ≤ ch1.toInt ∧ ch1.toInt ≤ 57) ∨ ch1.toInt = 95)).toInt = 0 := own_eq.mp hc5
    obtain ⟨fs, hr, hrun, hended, hW, hsame⟩ := X4.leave (v := some (.int 0)) (fun h => by rw [Bd.returns] at h; cases h)
    refine ⟨_, _, pre0 _ (pre6 _ ?_), hrun, hended, _, _, rfl, ?_, ⟨_, rfl⟩, hW, hsame.mono (by decide) (by decide)⟩
    · skip
      show SF p e below T4 m 18 #[vr r0, vi 1] [(.int (bI ((97 ≤ ch1.toInt ∧ ch1.toInt ≤ 122) ∨ (65 ≤ ch1.toInt ∧ ch1.toInt ≤ 90) ∨ (48 ≤ ch1.toInt ∧ ch1.toInt ≤ 57) ∨ ch1.toInt = 95)))] _
      refine XS.ifNo X4.here hx rfl (hb hby d25_18) rfl ((if0 _ _).trans (teq hc5).2) ?_
      show SF p e below T4 m 21 #[vr r0, vi 1] [] _
      refine XS.iconst X4.here hx rfl (hb hby d25_21) ?_
      show SF p e below T4 m 22 #[vr r0, vi 1] [(.int 0)] _
      exact retN X4 hx (t := .boolean) Bd.returns (by simp) (hb hby d25_22) hr
    · show Qca__2w Z r0 ch0 ch1 G1 G3 h0 n0 _ T4.heap _
      rw [e4]
      exact ⟨own_b0 (by first | trivial | omega), N4, rfl⟩
  · skip
    have ohc5 : ¬ ((bI ((97 ≤ ch1.toInt ∧ ch1.toInt ≤ 122) ∨ (65 ≤ ch1.toInt ∧ ch1.toInt ≤ 90) ∨ (48 ≤ ch1.toInt ∧ ch1.toInt ≤ 57) ∨ ch1.toInt = 95)).toInt = 0) := own_neq.mp hc5
    obtain ⟨cq7, kq7, q7a, q7b, q7c⟩ := isOf hZ e4 Ex1
    obtain ⟨_, _, ⟨T7, L7, k7, n7⟩, -, X7, ⟨Lc7, hQ7, l7, y7, z7⟩, st7⟩ := X4.virtualBack hx (y := mN24) (z := mN24) hown (mvT hZ (tw hw 106 rfl)) (mvT hZ (tw hw 107 rfl)) (notFace_of_selects (args := #[]) (mvT hZ (tw hw 109 rfl))) (mvT hZ (tw hw 109 rfl)) (mvT hZ (tw hw 108 rfl)) (by decide) (backOf (W := 1) (rmln_2 l Z a0 hw [] r0 ch0 ch1 G1 G3 h0 n0 Z0 S0 O2 P5 O4 rG3 OA OH OL) hZ (tw hw 110 rfl) (tw hw 3 rfl) (by decide) (by decide)) q7a q7c (g := (mkF m 4 #[vr r0, vi 2] [(.ref r0), (.int 2)])) rfl (by rw [hml]; rfl) (Steps.refl _) (argsL := []) (rest := [(.int 2)]) (lenOf pd_15 rfl) rfl (by show 2 * 0 + _ ≤ _; exact Nat.le_of_eq rfl) (hb hby d25_4) (fun _ _ => ⟨rfl, e4, (by decide : 0 + 0 ≤ _), (by decide : 0 + 0 ≤ _)⟩)
    dsimp only [Pt.U, Pt.locs, Pt.cells, Pt.slots] at X7 l7 y7 z7 st7 hQ7
    subst l7 y7 z7
    obtain ⟨rfl, Nq7, e7⟩ := hQ7
    have N7 := Fr.app N4 Nq7
    have hc8 : ¬ ((2 : Int32) < (2 : Int32)) := by decide
    obtain ⟨fs, hr, hrun, hended, hW, hsame⟩ := X7.leave (v := some (.int 1)) (fun h => by rw [Bd.returns] at h; cases h)
    refine ⟨_, _, pre0 _ (pre6 _ ?_), hrun, hended, _, _, rfl, ?_, ⟨_, rfl⟩, hW, hsame.mono (by decide) (by decide)⟩
    · skip
      show SF p e below T4 m 18 #[vr r0, vi 1] [(.int (bI ((97 ≤ ch1.toInt ∧ ch1.toInt ≤ 122) ∨ (65 ≤ ch1.toInt ∧ ch1.toInt ≤ 90) ∨ (48 ≤ ch1.toInt ∧ ch1.toInt ≤ 57) ∨ ch1.toInt = 95)))] _
      refine XS.ifYes X4.here hx rfl (pc0 := 18) (pc' := 23) rfl (hb hby d25_18) rfl ((if0 _ _).trans (feq hc5).2) (by decide) (by decide) ?_
      show SF p e below T4 m 23 #[vr r0, vi 1] [] _
      refine XS.iinc X4.here hx rfl (hb hby d25_23) rfl (l' := #[vr r0, vi 2]) rfl ?_
      refine XS.goto X4.here hx rfl (pc0 := 26) (pc' := 2) rfl (hb hby d25_26) (by decide) (by decide) ?_
      refine XS.iloadN X4.here hx rfl (hb hby d25_2) rfl ?_
      refine XS.aloadN X4.here hx rfl (hb hby d25_3) rfl rfl ?_
      refine st7.trans ?_
      show SF p e below T7 m 7 #[vr r0, vi 2] [(.int 2), (.int 2)] _
      refine XS.icmpYes X7.here hx rfl (pc0 := 7) (pc' := 29) rfl (hb hby d25_7) rfl (flt hc8).2.1 (by decide) (by decide) ?_
      refine XS.iconst X7.here hx rfl (hb hby d25_29) ?_
      show SF p e below T7 m 30 #[vr r0, vi 2] [(.int 1)] _
      exact retN X7 hx (t := .boolean) Bd.returns (by simp) (hb hby d25_30) hr
    · show Qca__2w Z r0 ch0 ch1 G1 G3 h0 n0 _ T7.heap _
      rw [e7]
      exact ⟨own_b1 (by first | trivial | omega), N7, rfl⟩
def Qio__2w (Z : State) (r0 : Addr) (ch0 : Int32) (ch1 : Int32) (G1 : Int32) (G3 : Value) (h0 : Heap) (n0 : Nat) (v : Option Value) (h : Heap) (L : List Loc) : Prop := v = some (.int (bI (((97 ≤ ch0.toInt ∧ ch0.toInt ≤ 122) ∨ (48 ≤ ch0.toInt ∧ ch0.toInt ≤ 57)) ∧ ((97 ≤ ch1.toInt ∧ ch1.toInt ≤ 122) ∨ (65 ≤ ch1.toInt ∧ ch1.toInt ≤ 90) ∨ (48 ≤ ch1.toInt ∧ ch1.toInt ≤ 57) ∨ ch1.toInt = 95)))) ∧ Fr n0 L ∧ h = h0
set_option maxRecDepth 65536 in
set_option maxHeartbeats 40000000 in
theorem rmio__2w (l : Launch) (Z : State) (a0 : Array Value) (hw : ∀ d ∈ tables_1, d.before a0 Z = true) (ws : List Jvm.Cond) (r0 : Addr) (ch0 : Int32) (ch1 : Int32) (G1 : Int32) (G3 : Value) (h0 : Heap) (n0 : Nat) (Z0 : n0 ≤ h0.size) (O2 : sC Z h0 G1) (P5 : ¬ (G1 = (0 : Int32))) (O4 : sI Z h0 G3) (rG3 : G3.isRef = true) (OA : sA Z h0) (OH : sH Z h0) (OL : sL Z h0) (S0 : OW Z h0 r0 (4 : Int32) [(.int (loB ch0)), (.int (hiB ch0)), (.int (loB ch1)), (.int (hiB ch1))]) (hb_ch0 : 0 ≤ ch0.toInt ∧ ch0.toInt ≤ 65535) (hb_ch1 : 0 ≤ ch1.toInt ∧ ch1.toInt ≤ 65535) :
    MF l Z mN26 prog_38_method_5_code 1 (some .boolean) ws (rK 6 0 0 79) #[(.ref r0)] h0 (Qio__2w Z r0 ch0 ch1 G1 G3 h0 n0) := by
  refine MetFree.of_bodySF (plainFor_of_name pn_com_example_orql_orql_Syntax) hisR ?_
  intro p e s m args below meth c s₁ Bd hml0 hP hK
  obtain ⟨rfl, hZ, hh⟩ := hP
  have hx := Bd.exec
  have hby := Bd.bytes
  have hml : c.maxLocals = 1 := hml0
  have hown : s.vm.findClass "com/example/orql/orql/Syntax" = some m.cls := findClass_of_methodNamed Bd.named
  have hnm := (name_of_methodNamed Bd.named Bd.method).1
  have X0 : Stand p l e (rK 6 0 0 79) s m #[(.ref r0)] below meth c s₁ [] 0 0 := Stand.of_body Bd
  have e0 : s₁.heap = h0 := by rw [← hh, Bd.state]; rfl
  have N0 := Fr.nil n0
  have pre0 : ∀ t, SF p e below s₁ m 0 #[vr r0] [] t → Steps p.tables e below (s₁.setTop (entryFrame m #[(.ref r0)] 1)) t := fun t k => castTop (ef_4 m r0) k
  have Ex1 : Exa Z h0 r0 "java/lang/String" := by obtain ⟨_, _, q, -⟩ := id S0; exact q
  obtain ⟨cq1, kq1, q1a, q1b, q1c⟩ := isOf hZ e0 Ex1
  obtain ⟨_, _, ⟨T1, L1, k1, n1⟩, -, X1, ⟨Lc1, hQ1, l1, y1, z1⟩, st1⟩ := X0.virtualBack hx (y := mN25) (z := mN25) hown (mvT hZ (tw hw 26 rfl)) (mvT hZ (tw hw 27 rfl)) (notFace_of_selects (args := #[]) (mvT hZ (tw hw 29 rfl))) (mvT hZ (tw hw 29 rfl)) (mvT hZ (tw hw 28 rfl)) (by decide) (backOf (W := 0) (rmem_2 l Z a0 hw [] r0 ch0 ch1 G1 G3 h0 n0 Z0 S0 O2 P5 O4 rG3 OA OH OL) hZ (tw hw 30 rfl) (tw hw 3 rfl) (by decide) (by decide)) q1a q1c (g := (mkF m 1 #[vr r0] [(.ref r0)])) rfl (by rw [hml]; rfl) (Steps.refl _) (argsL := []) (rest := []) (lenOf pd_13 rfl) rfl (by show 2 * 0 + _ ≤ _; exact Nat.le_of_eq rfl) (hb hby d4_1) (fun _ _ => ⟨rfl, e0, (by decide : 0 + 0 ≤ _), (by decide : 0 + 0 ≤ _)⟩)
  dsimp only [Pt.U, Pt.locs, Pt.cells, Pt.slots] at X1 l1 y1 z1 st1 hQ1
  subst l1 y1 z1
  obtain ⟨rfl, Nq1, e1⟩ := hQ1
  have N1 := Fr.app N0 Nq1
  have hc2 : (0 : Int32) = (0 : Int32) := by decide
  obtain ⟨cq3, kq3, q3a, q3b, q3c⟩ := isOf hZ e1 Ex1
  obtain ⟨_, _, ⟨T3, L3, k3, n3⟩, -, X3, ⟨Lc3, hQ3, l3, y3, z3⟩, st3⟩ := X1.virtualBack hx (y := mN23) (z := mN23) hown (mvT hZ (tw hw 46 rfl)) (mvT hZ (tw hw 47 rfl)) (notFace_of_selects (args := #[]) (mvT hZ (tw hw 49 rfl))) (mvT hZ (tw hw 49 rfl)) (mvT hZ (tw hw 48 rfl)) (by decide) (backOf (W := 0) (rmca_2_0 l Z a0 hw [] r0 ch0 ch1 G1 G3 h0 n0 Z0 S0 hb_ch0 O2 P5 O4 rG3 OA OH OL) hZ (tw hw 50 rfl) (tw hw 3 rfl) (by decide) (by decide)) q3a q3c (g := (mkF m 9 #[vr r0] [(.int 0), (.ref r0)])) rfl (by rw [hml]; rfl) (Steps.refl _) (argsL := [(.int 0)]) (rest := []) (lenOf pd_16 rfl) rfl (by show 2 * 0 + _ ≤ _; exact Nat.le_of_eq rfl) (hb hby d4_9) (fun _ _ => ⟨rfl, e1, (by decide : 0 + 0 ≤ _), (by decide : 0 + 0 ≤ _)⟩)
  dsimp only [Pt.U, Pt.locs, Pt.cells, Pt.slots] at X3 l3 y3 z3 st3 hQ3
  subst l3 y3 z3
  obtain ⟨rfl, Nq3, e3⟩ := hQ3
  have N3 := Fr.app N1 Nq3
  obtain ⟨_, _, ⟨T4, L4, k4, n4⟩, -, X4, ⟨Lc4, hQ4, l4, y4, z4⟩, st4⟩ := Jvm.LawKit.callS X3 hx (y := mN0) hown (mvT hZ (tw hw 68 rfl)) (mvT hZ (tw hw 69 rfl)) (mvT hZ (tw hw 24 rfl)) (mvT hZ (tw hw 70 rfl)) (by decide) (backOf (W := 0) (rm15 l Z a0 hw [] ch0  h0 n0 Z0 ) hZ (tw hw 70 rfl) (tw hw 24 rfl) (by decide) (by decide)) (g := (mkF m 12 #[vr r0] [(.int ch0)])) rfl (by rw [hml]; rfl) (argsL := [(.int ch0)]) (rest := []) (lenOf pd_0 rfl) rfl (by show 2 * 0 + _ ≤ _; exact Nat.le_of_eq rfl) (hb hby d4_12) (fun _ _ => ⟨rfl, e3, (by decide : 0 + 0 ≤ _), (by decide : 0 + 0 ≤ _)⟩)
  dsimp only [Pt.U, Pt.locs, Pt.cells, Pt.slots] at X4 l4 y4 z4 st4 hQ4
  subst l4 y4 z4
  obtain ⟨rfl, Nq4, e4⟩ := hQ4
  have N4 := Fr.app N3 Nq4
  have t4 := own_bt (P := 97 ≤ ch0.toInt ∧ ch0.toInt ≤ 122)
  have pre6 : ∀ t, SF p e below T4 m 15 #[vr r0] [(.int (bI (97 ≤ ch0.toInt ∧ ch0.toInt ≤ 122)))] t → SF p e below s₁ m 0 #[vr r0] [] t := fun t k => (by
    show SF p e below s₁ m 0 #[vr r0] [] _
    refine XS.aloadN X0.here hx rfl (hb hby d4_0) rfl rfl ?_
    refine st1.trans ?_
    refine XS.ifNo X1.here hx rfl (hb hby d4_4) rfl ((if0 _ _).trans (teq hc2).2) ?_
    refine XS.aloadN X1.here hx rfl (hb hby d4_7) rfl rfl ?_
    refine XS.iconst X1.here hx rfl (hb hby d4_8) ?_
    show SF p e below T1 m 9 #[vr r0] [(.int 0), (.ref r0)] _
    refine st3.trans ?_
    refine st4 _ ?_
    exact k)
  by_cases hc5 : (bI (97 ≤ ch0.toInt ∧ ch0.toInt ≤ 122)) = (0 : Int32)
  · skip
    have ohc5 : (bI (97 ≤ ch0.toInt ∧ ch0.toInt ≤ 122)).toInt = 0 := own_eq.mp hc5
    obtain ⟨cq7, kq7, q7a, q7b, q7c⟩ := isOf hZ e4 Ex1
    obtain ⟨_, _, ⟨T7, L7, k7, n7⟩, -, X7, ⟨Lc7, hQ7, l7, y7, z7⟩, st7⟩ := X4.virtualBack hx (y := mN23) (z := mN23) hown (mvT hZ (tw hw 46 rfl)) (mvT hZ (tw hw 47 rfl)) (notFace_of_selects (args := #[]) (mvT hZ (tw hw 49 rfl))) (mvT hZ (tw hw 49 rfl)) (mvT hZ (tw hw 48 rfl)) (by decide) (backOf (W := 0) (rmca_2_0 l Z a0 hw [] r0 ch0 ch1 G1 G3 h0 n0 Z0 S0 hb_ch0 O2 P5 O4 rG3 OA OH OL) hZ (tw hw 50 rfl) (tw hw 3 rfl) (by decide) (by decide)) q7a q7c (g := (mkF m 20 #[vr r0] [(.int 0), (.ref r0)])) rfl (by rw [hml]; rfl) (Steps.refl _) (argsL := [(.int 0)]) (rest := []) (lenOf pd_16 rfl) rfl (by show 2 * 0 + _ ≤ _; exact Nat.le_of_eq rfl) (hb hby d4_20) (fun _ _ => ⟨rfl, e4, (by decide : 0 + 0 ≤ _), (by decide : 0 + 0 ≤ _)⟩)
    dsimp only [Pt.U, Pt.locs, Pt.cells, Pt.slots] at X7 l7 y7 z7 st7 hQ7
    subst l7 y7 z7
    obtain ⟨rfl, Nq7, e7⟩ := hQ7
    have N7 := Fr.app N4 Nq7
    obtain ⟨_, _, ⟨T8, L8, k8, n8⟩, -, X8, ⟨Lc8, hQ8, l8, y8, z8⟩, st8⟩ := Jvm.LawKit.callS X7 hx (y := mN2) hown (mvT hZ (tw hw 71 rfl)) (mvT hZ (tw hw 72 rfl)) (mvT hZ (tw hw 24 rfl)) (mvT hZ (tw hw 73 rfl)) (by decide) (backOf (W := 0) (rm16 l Z a0 hw [] ch0  h0 n0 Z0 ) hZ (tw hw 73 rfl) (tw hw 24 rfl) (by decide) (by decide)) (g := (mkF m 23 #[vr r0] [(.int ch0)])) rfl (by rw [hml]; rfl) (argsL := [(.int ch0)]) (rest := []) (lenOf pd_0 rfl) rfl (by show 2 * 0 + _ ≤ _; exact Nat.le_of_eq rfl) (hb hby d4_23) (fun _ _ => ⟨rfl, e7, (by decide : 0 + 0 ≤ _), (by decide : 0 + 0 ≤ _)⟩)
    dsimp only [Pt.U, Pt.locs, Pt.cells, Pt.slots] at X8 l8 y8 z8 st8 hQ8
    subst l8 y8 z8
    obtain ⟨rfl, Nq8, e8⟩ := hQ8
    have N8 := Fr.app N7 Nq8
    have t8 := own_bt (P := 48 ≤ ch0.toInt ∧ ch0.toInt ≤ 57)
    have pre10 : ∀ t, SF p e below T8 m 26 #[vr r0] [(.int (bI (48 ≤ ch0.toInt ∧ ch0.toInt ≤ 57)))] t → SF p e below s₁ m 0 #[vr r0] [] t := fun t k => pre6 t (by
      show SF p e below T4 m 15 #[vr r0] [(.int (bI (97 ≤ ch0.toInt ∧ ch0.toInt ≤ 122)))] _
      refine XS.ifNo X4.here hx rfl (hb hby d4_15) rfl ((if0 _ _).trans (teq hc5).2) ?_
      show SF p e below T4 m 18 #[vr r0] [] _
      refine XS.aloadN X4.here hx rfl (hb hby d4_18) rfl rfl ?_
      refine XS.iconst X4.here hx rfl (hb hby d4_19) ?_
      refine st7.trans ?_
      refine st8 _ ?_
      exact k)
    by_cases hc9 : (bI (48 ≤ ch0.toInt ∧ ch0.toInt ≤ 57)) = (0 : Int32)
    · skip
      have ohc9 : (bI (48 ≤ ch0.toInt ∧ ch0.toInt ≤ 57)).toInt = 0 := own_eq.mp hc9
      obtain ⟨fs, hr, hrun, hended, hW, hsame⟩ := X8.leave (v := some (.int 0)) (fun h => by rw [Bd.returns] at h; cases h)
      refine ⟨_, _, pre0 _ (pre10 _ ?_), hrun, hended, _, _, rfl, ?_, ⟨_, rfl⟩, hW, hsame.mono (by decide) (by decide)⟩
      · skip
        show SF p e below T8 m 26 #[vr r0] [(.int (bI (48 ≤ ch0.toInt ∧ ch0.toInt ≤ 57)))] _
        refine XS.ifYes X8.here hx rfl (pc0 := 26) (pc' := 40) rfl (hb hby d4_26) rfl ((if0 _ _).trans (teq hc9).1) (by decide) (by decide) ?_
        show SF p e below T8 m 40 #[vr r0] [] _
        refine XS.iconst X8.here hx rfl (hb hby d4_40) ?_
        show SF p e below T8 m 41 #[vr r0] [(.int 0)] _
        exact retN X8 hx (t := .boolean) Bd.returns (by simp) (hb hby d4_41) hr
      · show Qio__2w Z r0 ch0 ch1 G1 G3 h0 n0 _ T8.heap _
        rw [e8]
        exact ⟨own_b0 (by first | trivial | omega), N8, rfl⟩
    · skip
      have ohc9 : ¬ ((bI (48 ≤ ch0.toInt ∧ ch0.toInt ≤ 57)).toInt = 0) := own_neq.mp hc9
      obtain ⟨_, _, ⟨T11, L11, k11, n11⟩, -, X11, ⟨Lc11, hQ11, l11, y11, z11⟩, st11⟩ := Jvm.LawKit.callS X8 hx (y := mN27) hown (mvT hZ (tw hw 103 rfl)) (mvT hZ (tw hw 104 rfl)) (mvT hZ (tw hw 24 rfl)) (mvT hZ (tw hw 105 rfl)) (by decide) (backOf (W := 0) (rmca__2w l Z a0 hw [] r0 ch0 ch1 G1 G3 h0 n0 Z0 O2 P5 O4 rG3 OA OH OL S0 hb_ch0 hb_ch1) hZ (tw hw 105 rfl) (tw hw 24 rfl) (by decide) (by decide)) (g := (mkF m 30 #[vr r0] [(.ref r0)])) rfl (by rw [hml]; rfl) (argsL := [(.ref r0)]) (rest := []) (lenOf pd_17 rfl) rfl (by show 2 * 0 + _ ≤ _; exact Nat.le_of_eq rfl) (hb hby d4_30) (fun _ _ => ⟨rfl, e8, (by decide : 0 + 0 ≤ _), (by decide : 0 + 0 ≤ _)⟩)
      dsimp only [Pt.U, Pt.locs, Pt.cells, Pt.slots] at X11 l11 y11 z11 st11 hQ11
      subst l11 y11 z11
      obtain ⟨rfl, Nq11, e11⟩ := hQ11
      have N11 := Fr.app N8 Nq11
      have t11 := own_bt (P := ((97 ≤ ch1.toInt ∧ ch1.toInt ≤ 122) ∨ (65 ≤ ch1.toInt ∧ ch1.toInt ≤ 90) ∨ (48 ≤ ch1.toInt ∧ ch1.toInt ≤ 57) ∨ ch1.toInt = 95))
      have pre13 : ∀ t, SF p e below T11 m 33 #[vr r0] [(.int (bI (((97 ≤ ch1.toInt ∧ ch1.toInt ≤ 122) ∨ (65 ≤ ch1.toInt ∧ ch1.toInt ≤ 90) ∨ (48 ≤ ch1.toInt ∧ ch1.toInt ≤ 57) ∨ ch1.toInt = 95))))] t → SF p e below s₁ m 0 #[vr r0] [] t := fun t k => pre10 t (by
        show SF p e below T8 m 26 #[vr r0] [(.int (bI (48 ≤ ch0.toInt ∧ ch0.toInt ≤ 57)))] _
        refine XS.ifNo X8.here hx rfl (hb hby d4_26) rfl ((if0 _ _).trans (feq hc9).1) ?_
        show SF p e below T8 m 29 #[vr r0] [] _
        refine XS.aloadN X8.here hx rfl (hb hby d4_29) rfl rfl ?_
        refine st11 _ ?_
        exact k)
      by_cases hc12 : (bI (((97 ≤ ch1.toInt ∧ ch1.toInt ≤ 122) ∨ (65 ≤ ch1.toInt ∧ ch1.toInt ≤ 90) ∨ (48 ≤ ch1.toInt ∧ ch1.toInt ≤ 57) ∨ ch1.toInt = 95))) = (0 : Int32)
      · skip
        have ohc12 : (bI (((97 ≤ ch1.toInt ∧ ch1.toInt ≤ 122) ∨ (65 ≤ ch1.toInt ∧ ch1.toInt ≤ 90) ∨ (48 ≤ ch1.toInt ∧ ch1.toInt ≤ 57) ∨ ch1.toInt = 95))).toInt = 0 := own_eq.mp hc12
        obtain ⟨fs, hr, hrun, hended, hW, hsame⟩ := X11.leave (v := some (.int 0)) (fun h => by rw [Bd.returns] at h; cases h)
        refine ⟨_, _, pre0 _ (pre13 _ ?_), hrun, hended, _, _, rfl, ?_, ⟨_, rfl⟩, hW, hsame.mono (by decide) (by decide)⟩
        · skip
          show SF p e below T11 m 33 #[vr r0] [(.int (bI (((97 ≤ ch1.toInt ∧ ch1.toInt ≤ 122) ∨ (65 ≤ ch1.toInt ∧ ch1.toInt ≤ 90) ∨ (48 ≤ ch1.toInt ∧ ch1.toInt ≤ 57) ∨ ch1.toInt = 95))))] _
          refine XS.ifYes X11.here hx rfl (pc0 := 33) (pc' := 40) rfl (hb hby d4_33) rfl ((if0 _ _).trans (teq hc12).1) (by decide) (by decide) ?_
          show SF p e below T11 m 40 #[vr r0] [] _
          refine XS.iconst X11.here hx rfl (hb hby d4_40) ?_
          show SF p e below T11 m 41 #[vr r0] [(.int 0)] _
          exact retN X11 hx (t := .boolean) Bd.returns (by simp) (hb hby d4_41) hr
        · show Qio__2w Z r0 ch0 ch1 G1 G3 h0 n0 _ T11.heap _
          rw [e11]
          exact ⟨own_b0 (by first | trivial | omega), N11, rfl⟩
      · skip
        have ohc12 : ¬ ((bI (((97 ≤ ch1.toInt ∧ ch1.toInt ≤ 122) ∨ (65 ≤ ch1.toInt ∧ ch1.toInt ≤ 90) ∨ (48 ≤ ch1.toInt ∧ ch1.toInt ≤ 57) ∨ ch1.toInt = 95))).toInt = 0) := own_neq.mp hc12
        obtain ⟨fs, hr, hrun, hended, hW, hsame⟩ := X11.leave (v := some (.int 1)) (fun h => by rw [Bd.returns] at h; cases h)
        refine ⟨_, _, pre0 _ (pre13 _ ?_), hrun, hended, _, _, rfl, ?_, ⟨_, rfl⟩, hW, hsame.mono (by decide) (by decide)⟩
        · skip
          show SF p e below T11 m 33 #[vr r0] [(.int (bI (((97 ≤ ch1.toInt ∧ ch1.toInt ≤ 122) ∨ (65 ≤ ch1.toInt ∧ ch1.toInt ≤ 90) ∨ (48 ≤ ch1.toInt ∧ ch1.toInt ≤ 57) ∨ ch1.toInt = 95))))] _
          refine XS.ifNo X11.here hx rfl (hb hby d4_33) rfl ((if0 _ _).trans (feq hc12).1) ?_
          show SF p e below T11 m 36 #[vr r0] [] _
          refine XS.iconst X11.here hx rfl (hb hby d4_36) ?_
          refine XS.goto X11.here hx rfl (pc0 := 37) (pc' := 41) rfl (hb hby d4_37) (by decide) (by decide) ?_
          show SF p e below T11 m 41 #[vr r0] [(.int 1)] _
          exact retN X11 hx (t := .boolean) Bd.returns (by simp) (hb hby d4_41) hr
        · show Qio__2w Z r0 ch0 ch1 G1 G3 h0 n0 _ T11.heap _
          rw [e11]
          exact ⟨own_b1 (by first | trivial | omega), N11, rfl⟩
  · skip
    have ohc5 : ¬ ((bI (97 ≤ ch0.toInt ∧ ch0.toInt ≤ 122)).toInt = 0) := own_neq.mp hc5
    obtain ⟨_, _, ⟨T14, L14, k14, n14⟩, -, X14, ⟨Lc14, hQ14, l14, y14, z14⟩, st14⟩ := Jvm.LawKit.callS X4 hx (y := mN27) hown (mvT hZ (tw hw 103 rfl)) (mvT hZ (tw hw 104 rfl)) (mvT hZ (tw hw 24 rfl)) (mvT hZ (tw hw 105 rfl)) (by decide) (backOf (W := 0) (rmca__2w l Z a0 hw [] r0 ch0 ch1 G1 G3 h0 n0 Z0 O2 P5 O4 rG3 OA OH OL S0 hb_ch0 hb_ch1) hZ (tw hw 105 rfl) (tw hw 24 rfl) (by decide) (by decide)) (g := (mkF m 30 #[vr r0] [(.ref r0)])) rfl (by rw [hml]; rfl) (argsL := [(.ref r0)]) (rest := []) (lenOf pd_17 rfl) rfl (by show 2 * 0 + _ ≤ _; exact Nat.le_of_eq rfl) (hb hby d4_30) (fun _ _ => ⟨rfl, e4, (by decide : 0 + 0 ≤ _), (by decide : 0 + 0 ≤ _)⟩)
    dsimp only [Pt.U, Pt.locs, Pt.cells, Pt.slots] at X14 l14 y14 z14 st14 hQ14
    subst l14 y14 z14
    obtain ⟨rfl, Nq14, e14⟩ := hQ14
    have N14 := Fr.app N4 Nq14
    have t14 := own_bt (P := ((97 ≤ ch1.toInt ∧ ch1.toInt ≤ 122) ∨ (65 ≤ ch1.toInt ∧ ch1.toInt ≤ 90) ∨ (48 ≤ ch1.toInt ∧ ch1.toInt ≤ 57) ∨ ch1.toInt = 95))
    have pre16 : ∀ t, SF p e below T14 m 33 #[vr r0] [(.int (bI (((97 ≤ ch1.toInt ∧ ch1.toInt ≤ 122) ∨ (65 ≤ ch1.toInt ∧ ch1.toInt ≤ 90) ∨ (48 ≤ ch1.toInt ∧ ch1.toInt ≤ 57) ∨ ch1.toInt = 95))))] t → SF p e below s₁ m 0 #[vr r0] [] t := fun t k => pre6 t (by
      show SF p e below T4 m 15 #[vr r0] [(.int (bI (97 ≤ ch0.toInt ∧ ch0.toInt ≤ 122)))] _
      refine XS.ifYes X4.here hx rfl (pc0 := 15) (pc' := 29) rfl (hb hby d4_15) rfl ((if0 _ _).trans (feq hc5).2) (by decide) (by decide) ?_
      show SF p e below T4 m 29 #[vr r0] [] _
      refine XS.aloadN X4.here hx rfl (hb hby d4_29) rfl rfl ?_
      refine st14 _ ?_
      exact k)
    by_cases hc15 : (bI (((97 ≤ ch1.toInt ∧ ch1.toInt ≤ 122) ∨ (65 ≤ ch1.toInt ∧ ch1.toInt ≤ 90) ∨ (48 ≤ ch1.toInt ∧ ch1.toInt ≤ 57) ∨ ch1.toInt = 95))) = (0 : Int32)
    · skip
      have ohc15 : (bI (((97 ≤ ch1.toInt ∧ ch1.toInt ≤ 122) ∨ (65 ≤ ch1.toInt ∧ ch1.toInt ≤ 90) ∨ (48 ≤ ch1.toInt ∧ ch1.toInt ≤ 57) ∨ ch1.toInt = 95))).toInt = 0 := own_eq.mp hc15
      obtain ⟨fs, hr, hrun, hended, hW, hsame⟩ := X14.leave (v := some (.int 0)) (fun h => by rw [Bd.returns] at h; cases h)
      refine ⟨_, _, pre0 _ (pre16 _ ?_), hrun, hended, _, _, rfl, ?_, ⟨_, rfl⟩, hW, hsame.mono (by decide) (by decide)⟩
      · skip
        show SF p e below T14 m 33 #[vr r0] [(.int (bI (((97 ≤ ch1.toInt ∧ ch1.toInt ≤ 122) ∨ (65 ≤ ch1.toInt ∧ ch1.toInt ≤ 90) ∨ (48 ≤ ch1.toInt ∧ ch1.toInt ≤ 57) ∨ ch1.toInt = 95))))] _
        refine XS.ifYes X14.here hx rfl (pc0 := 33) (pc' := 40) rfl (hb hby d4_33) rfl ((if0 _ _).trans (teq hc15).1) (by decide) (by decide) ?_
        show SF p e below T14 m 40 #[vr r0] [] _
        refine XS.iconst X14.here hx rfl (hb hby d4_40) ?_
        show SF p e below T14 m 41 #[vr r0] [(.int 0)] _
        exact retN X14 hx (t := .boolean) Bd.returns (by simp) (hb hby d4_41) hr
      · show Qio__2w Z r0 ch0 ch1 G1 G3 h0 n0 _ T14.heap _
        rw [e14]
        exact ⟨own_b0 (by first | trivial | omega), N14, rfl⟩
    · skip
      have ohc15 : ¬ ((bI (((97 ≤ ch1.toInt ∧ ch1.toInt ≤ 122) ∨ (65 ≤ ch1.toInt ∧ ch1.toInt ≤ 90) ∨ (48 ≤ ch1.toInt ∧ ch1.toInt ≤ 57) ∨ ch1.toInt = 95))).toInt = 0) := own_neq.mp hc15
      obtain ⟨fs, hr, hrun, hended, hW, hsame⟩ := X14.leave (v := some (.int 1)) (fun h => by rw [Bd.returns] at h; cases h)
      refine ⟨_, _, pre0 _ (pre16 _ ?_), hrun, hended, _, _, rfl, ?_, ⟨_, rfl⟩, hW, hsame.mono (by decide) (by decide)⟩
      · skip
        show SF p e below T14 m 33 #[vr r0] [(.int (bI (((97 ≤ ch1.toInt ∧ ch1.toInt ≤ 122) ∨ (65 ≤ ch1.toInt ∧ ch1.toInt ≤ 90) ∨ (48 ≤ ch1.toInt ∧ ch1.toInt ≤ 57) ∨ ch1.toInt = 95))))] _
        refine XS.ifNo X14.here hx rfl (hb hby d4_33) rfl ((if0 _ _).trans (feq hc15).1) ?_
        show SF p e below T14 m 36 #[vr r0] [] _
        refine XS.iconst X14.here hx rfl (hb hby d4_36) ?_
        refine XS.goto X14.here hx rfl (pc0 := 37) (pc' := 41) rfl (hb hby d4_37) (by decide) (by decide) ?_
        show SF p e below T14 m 41 #[vr r0] [(.int 1)] _
        exact retN X14 hx (t := .boolean) Bd.returns (by simp) (hb hby d4_41) hr
      · show Qio__2w Z r0 ch0 ch1 G1 G3 h0 n0 _ T14.heap _
        rw [e14]
        exact ⟨own_b1 (by first | trivial | omega), N14, rfl⟩
def Qio_c_2 (Z : State) (r0 : Addr) (ch0 : Int32) (ch1 : Int32) (G1 : Int32) (G3 : Value) (h0 : Heap) (n0 : Nat) (v : Option Value) (h : Heap) (L : List Loc) : Prop := v = some (.int (bI (((97 ≤ ch0.toInt ∧ ch0.toInt ≤ 122) ∨ (48 ≤ ch0.toInt ∧ ch0.toInt ≤ 57)) ∧ ((97 ≤ ch1.toInt ∧ ch1.toInt ≤ 122) ∨ (65 ≤ ch1.toInt ∧ ch1.toInt ≤ 90) ∨ (48 ≤ ch1.toInt ∧ ch1.toInt ≤ 57) ∨ ch1.toInt = 95)))) ∧ Fr n0 L ∧ h = h0
theorem rmio_c_2 (l : Launch) (Z : State) (a0 : Array Value) (hw : ∀ d ∈ tables_1, d.before a0 Z = true) (ws : List Jvm.Cond) (r0 : Addr) (ch0 : Int32) (ch1 : Int32) (G1 : Int32) (G3 : Value) (h0 : Heap) (n0 : Nat) (Z0 : n0 ≤ h0.size) (O2 : sC Z h0 G1) (P5 : ¬ (G1 = (0 : Int32))) (O4 : sI Z h0 G3) (rG3 : G3.isRef = true) (OA : sA Z h0) (OH : sH Z h0) (OL : sL Z h0) (S0 : (OStr Z h0 r0 [ch0, ch1] ∨ OW Z h0 r0 (4 : Int32) [(.int (loB ch0)), (.int (hiB ch0)), (.int (loB ch1)), (.int (hiB ch1))])) (hb_ch0 : 0 ≤ ch0.toInt ∧ ch0.toInt ≤ 65535) (hb_ch1 : 0 ≤ ch1.toInt ∧ ch1.toInt ≤ 65535) :
    MF l Z mN26 prog_38_method_5_code 1 (some .boolean) ws (rK 6 0 0 79) #[(.ref r0)] h0 (Qio_c_2 Z r0 ch0 ch1 G1 G3 h0 n0) := by
  rcases S0 with S0 | S0
  · exact rmio__2 l Z a0 hw ws r0 ch0 ch1 G1 G3 h0 n0 Z0 O2 P5 O4 rG3 S0
  · exact rmio__2w l Z a0 hw ws r0 ch0 ch1 G1 G3 h0 n0 Z0 O2 P5 O4 rG3 OA OH OL S0 hb_ch0 hb_ch1
def Qca__3w (Z : State) (r0 : Addr) (ch0 : Int32) (ch1 : Int32) (ch2 : Int32) (G1 : Int32) (G3 : Value) (h0 : Heap) (n0 : Nat) (v : Option Value) (h : Heap) (L : List Loc) : Prop := v = some (.int (bI (((97 ≤ ch1.toInt ∧ ch1.toInt ≤ 122) ∨ (65 ≤ ch1.toInt ∧ ch1.toInt ≤ 90) ∨ (48 ≤ ch1.toInt ∧ ch1.toInt ≤ 57) ∨ ch1.toInt = 95) ∧ ((97 ≤ ch2.toInt ∧ ch2.toInt ≤ 122) ∨ (65 ≤ ch2.toInt ∧ ch2.toInt ≤ 90) ∨ (48 ≤ ch2.toInt ∧ ch2.toInt ≤ 57) ∨ ch2.toInt = 95)))) ∧ Fr n0 L ∧ h = h0
set_option maxRecDepth 65536 in
set_option maxHeartbeats 40000000 in
theorem rmca__3w (l : Launch) (Z : State) (a0 : Array Value) (hw : ∀ d ∈ tables_1, d.before a0 Z = true) (ws : List Jvm.Cond) (r0 : Addr) (ch0 : Int32) (ch1 : Int32) (ch2 : Int32) (G1 : Int32) (G3 : Value) (h0 : Heap) (n0 : Nat) (Z0 : n0 ≤ h0.size) (O2 : sC Z h0 G1) (P5 : ¬ (G1 = (0 : Int32))) (O4 : sI Z h0 G3) (rG3 : G3.isRef = true) (OA : sA Z h0) (OH : sH Z h0) (OL : sL Z h0) (S0 : OW Z h0 r0 (6 : Int32) [(.int (loB ch0)), (.int (hiB ch0)), (.int (loB ch1)), (.int (hiB ch1)), (.int (loB ch2)), (.int (hiB ch2))]) (hb_ch0 : 0 ≤ ch0.toInt ∧ ch0.toInt ≤ 65535) (hb_ch1 : 0 ≤ ch1.toInt ∧ ch1.toInt ≤ 65535) (hb_ch2 : 0 ≤ ch2.toInt ∧ ch2.toInt ≤ 65535) :
    MF l Z mN27 prog_38_method_6_code 2 (some .boolean) ws (rK 5 0 0 66) #[(.ref r0)] h0 (Qca__3w Z r0 ch0 ch1 ch2 G1 G3 h0 n0) := by
  refine MetFree.of_bodySF (plainFor_of_name pn_com_example_orql_orql_Syntax) hisR ?_
  intro p e s m args below meth c s₁ Bd hml0 hP hK
  obtain ⟨rfl, hZ, hh⟩ := hP
  have hx := Bd.exec
  have hby := Bd.bytes
  have hml : c.maxLocals = 2 := hml0
  have hown : s.vm.findClass "com/example/orql/orql/Syntax" = some m.cls := findClass_of_methodNamed Bd.named
  have hnm := (name_of_methodNamed Bd.named Bd.method).1
  have X0 : Stand p l e (rK 5 0 0 66) s m #[(.ref r0)] below meth c s₁ [] 0 0 := Stand.of_body Bd
  have e0 : s₁.heap = h0 := by rw [← hh, Bd.state]; rfl
  have N0 := Fr.nil n0
  have pre0 : ∀ t, SF p e below s₁ m 0 #[vr r0, .unset] [] t → Steps p.tables e below (s₁.setTop (entryFrame m #[(.ref r0)] 2)) t := fun t k => castTop (ef_25 m r0) k
  have Ex1 : Exa Z h0 r0 "java/lang/String" := by obtain ⟨_, _, q, -⟩ := id S0; exact q
  obtain ⟨cq1, kq1, q1a, q1b, q1c⟩ := isOf hZ e0 Ex1
  obtain ⟨_, _, ⟨T1, L1, k1, n1⟩, -, X1, ⟨Lc1, hQ1, l1, y1, z1⟩, st1⟩ := X0.virtualBack hx (y := mN24) (z := mN24) hown (mvT hZ (tw hw 106 rfl)) (mvT hZ (tw hw 107 rfl)) (notFace_of_selects (args := #[]) (mvT hZ (tw hw 109 rfl))) (mvT hZ (tw hw 109 rfl)) (mvT hZ (tw hw 108 rfl)) (by decide) (backOf (W := 1) (rmln_3 l Z a0 hw [] r0 ch0 ch1 ch2 G1 G3 h0 n0 Z0 S0 O2 P5 O4 rG3 OA OH OL) hZ (tw hw 110 rfl) (tw hw 3 rfl) (by decide) (by decide)) q1a q1c (g := (mkF m 4 #[vr r0, vi 1] [(.ref r0), (.int 1)])) rfl (by rw [hml]; rfl) (Steps.refl _) (argsL := []) (rest := [(.int 1)]) (lenOf pd_15 rfl) rfl (by show 2 * 0 + _ ≤ _; exact Nat.le_of_eq rfl) (hb hby d25_4) (fun _ _ => ⟨rfl, e0, (by decide : 0 + 0 ≤ _), (by decide : 0 + 0 ≤ _)⟩)
  dsimp only [Pt.U, Pt.locs, Pt.cells, Pt.slots] at X1 l1 y1 z1 st1 hQ1
  subst l1 y1 z1
  obtain ⟨rfl, Nq1, e1⟩ := hQ1
  have N1 := Fr.app N0 Nq1
  have hc2 : (1 : Int32) < (3 : Int32) := by decide
  obtain ⟨cq3, kq3, q3a, q3b, q3c⟩ := isOf hZ e1 Ex1
  obtain ⟨_, _, ⟨T3, L3, k3, n3⟩, -, X3, ⟨Lc3, hQ3, l3, y3, z3⟩, st3⟩ := X1.virtualBack hx (y := mN23) (z := mN23) hown (mvT hZ (tw hw 46 rfl)) (mvT hZ (tw hw 47 rfl)) (notFace_of_selects (args := #[]) (mvT hZ (tw hw 49 rfl))) (mvT hZ (tw hw 49 rfl)) (mvT hZ (tw hw 48 rfl)) (by decide) (backOf (W := 0) (rmca_3_1 l Z a0 hw [] r0 ch0 ch1 ch2 G1 G3 h0 n0 Z0 S0 hb_ch1 O2 P5 O4 rG3 OA OH OL) hZ (tw hw 50 rfl) (tw hw 3 rfl) (by decide) (by decide)) q3a q3c (g := (mkF m 12 #[vr r0, vi 1] [(.int 1), (.ref r0)])) rfl (by rw [hml]; rfl) (Steps.refl _) (argsL := [(.int 1)]) (rest := []) (lenOf pd_16 rfl) rfl (by show 2 * 0 + _ ≤ _; exact Nat.le_of_eq rfl) (hb hby d25_12) (fun _ _ => ⟨rfl, e1, (by decide : 0 + 0 ≤ _), (by decide : 0 + 0 ≤ _)⟩)
  dsimp only [Pt.U, Pt.locs, Pt.cells, Pt.slots] at X3 l3 y3 z3 st3 hQ3
  subst l3 y3 z3
  obtain ⟨rfl, Nq3, e3⟩ := hQ3
  have N3 := Fr.app N1 Nq3
  obtain ⟨_, _, ⟨T4, L4, k4, n4⟩, -, X4, ⟨Lc4, hQ4, l4, y4, z4⟩, st4⟩ := Jvm.LawKit.callS X3 hx (y := mN3) hown (mvT hZ (tw hw 119 rfl)) (mvT hZ (tw hw 120 rfl)) (mvT hZ (tw hw 24 rfl)) (mvT hZ (tw hw 121 rfl)) (by decide) (backOf (W := 0) (rm29 l Z a0 hw [] ch1  h0 n0 Z0 ) hZ (tw hw 121 rfl) (tw hw 24 rfl) (by decide) (by decide)) (g := (mkF m 15 #[vr r0, vi 1] [(.int ch1)])) rfl (by rw [hml]; rfl) (argsL := [(.int ch1)]) (rest := []) (lenOf pd_0 rfl) rfl (by show 2 * 0 + _ ≤ _; exact Nat.le_of_eq rfl) (hb hby d25_15) (fun _ _ => ⟨rfl, e3, (by decide : 0 + 0 ≤ _), (by decide : 0 + 0 ≤ _)⟩)
  dsimp only [Pt.U, Pt.locs, Pt.cells, Pt.slots] at X4 l4 y4 z4 st4 hQ4
  subst l4 y4 z4
  obtain ⟨rfl, Nq4, e4⟩ := hQ4
  have N4 := Fr.app N3 Nq4
  have t4 := own_bt (P := (97 ≤ ch1.toInt ∧ ch1.toInt ≤ 122) ∨ (65 ≤ ch1.toInt ∧ ch1.toInt ≤ 90) ∨ (48 ≤ ch1.toInt ∧ ch1.toInt ≤ 57) ∨ ch1.toInt = 95)
  have pre6 : ∀ t, SF p e below T4 m 18 #[vr r0, vi 1] [(.int (bI ((97 ≤ ch1.toInt ∧ ch1.toInt ≤ 122) ∨ (65 ≤ ch1.toInt ∧ ch1.toInt ≤ 90) ∨ (48 ≤ ch1.toInt ∧ ch1.toInt ≤ 57) ∨ ch1.toInt = 95)))] t → SF p e below s₁ m 0 #[vr r0, .unset] [] t := fun t k => (by
    show SF p e below s₁ m 0 #[vr r0, .unset] [] _
    refine XS.iconst X0.here hx rfl (hb hby d25_0) ?_
    refine XS.istoreN X0.here hx rfl (hb hby d25_1) rfl (l' := #[vr r0, vi 1]) rfl ?_
    refine XS.iloadN X0.here hx rfl (hb hby d25_2) rfl ?_
    refine XS.aloadN X0.here hx rfl (hb hby d25_3) rfl rfl ?_
    refine st1.trans ?_
    show SF p e below T1 m 7 #[vr r0, vi 1] [(.int 3), (.int 1)] _
    refine XS.icmpNo X1.here hx rfl (hb hby d25_7) rfl (tlt hc2).2.1 ?_
    refine XS.aloadN X1.here hx rfl (hb hby d25_10) rfl rfl ?_
    refine XS.iloadN X1.here hx rfl (hb hby d25_11) rfl ?_
    refine st3.trans ?_
    refine st4 _ ?_
    exact k)
  by_cases hc5 : (bI ((97 ≤ ch1.toInt ∧ ch1.toInt ≤ 122) ∨ (65 ≤ ch1.toInt ∧ ch1.toInt ≤ 90) ∨ (48 ≤ ch1.toInt ∧ ch1.toInt ≤ 57) ∨ ch1.toInt = 95)) = (0 : Int32)
  · skip
    have ohc5 : (bI ((97 ≤ ch1.toInt ∧ ch1.toInt ≤ 122) ∨ (65 ≤ ch1.toInt ∧ ch1.toInt ≤ 90) ∨ (48 ≤ ch1.toInt ∧ ch1.toInt ≤ 57) ∨ ch1.toInt = 95)).toInt = 0 := own_eq.mp hc5
    obtain ⟨fs, hr, hrun, hended, hW, hsame⟩ := X4.leave (v := some (.int 0)) (fun h => by rw [Bd.returns] at h; cases h)
    refine ⟨_, _, pre0 _ (pre6 _ ?_), hrun, hended, _, _, rfl, ?_, ⟨_, rfl⟩, hW, hsame.mono (by decide) (by decide)⟩
    · skip
      show SF p e below T4 m 18 #[vr r0, vi 1] [(.int (bI ((97 ≤ ch1.toInt ∧ ch1.toInt ≤ 122) ∨ (65 ≤ ch1.toInt ∧ ch1.toInt ≤ 90) ∨ (48 ≤ ch1.toInt ∧ ch1.toInt ≤ 57) ∨ ch1.toInt = 95)))] _
      refine XS.ifNo X4.here hx rfl (hb hby d25_18) rfl ((if0 _ _).trans (teq hc5).2) ?_
      show SF p e below T4 m 21 #[vr r0, vi 1] [] _
      refine XS.iconst X4.here hx rfl (hb hby d25_21) ?_
      show SF p e below T4 m 22 #[vr r0, vi 1] [(.int 0)] _
      exact retN X4 hx (t := .boolean) Bd.returns (by simp) (hb hby d25_22) hr
    · show Qca__3w Z r0 ch0 ch1 ch2 G1 G3 h0 n0 _ T4.heap _
      rw [e4]
      exact ⟨own_b0 (by first | trivial | omega), N4, rfl⟩
  · skip
    have ohc5 : ¬ ((bI ((97 ≤ ch1.toInt ∧ ch1.toInt ≤ 122) ∨ (65 ≤ ch1.toInt ∧ ch1.toInt ≤ 90) ∨ (48 ≤ ch1.toInt ∧ ch1.toInt ≤ 57) ∨ ch1.toInt = 95)).toInt = 0) := own_neq.mp hc5
    obtain ⟨cq7, kq7, q7a, q7b, q7c⟩ := isOf hZ e4 Ex1
    obtain ⟨_, _, ⟨T7, L7, k7, n7⟩, -, X7, ⟨Lc7, hQ7, l7, y7, z7⟩, st7⟩ := X4.virtualBack hx (y := mN24) (z := mN24) hown (mvT hZ (tw hw 106 rfl)) (mvT hZ (tw hw 107 rfl)) (notFace_of_selects (args := #[]) (mvT hZ (tw hw 109 rfl))) (mvT hZ (tw hw 109 rfl)) (mvT hZ (tw hw 108 rfl)) (by decide) (backOf (W := 1) (rmln_3 l Z a0 hw [] r0 ch0 ch1 ch2 G1 G3 h0 n0 Z0 S0 O2 P5 O4 rG3 OA OH OL) hZ (tw hw 110 rfl) (tw hw 3 rfl) (by decide) (by decide)) q7a q7c (g := (mkF m 4 #[vr r0, vi 2] [(.ref r0), (.int 2)])) rfl (by rw [hml]; rfl) (Steps.refl _) (argsL := []) (rest := [(.int 2)]) (lenOf pd_15 rfl) rfl (by show 2 * 0 + _ ≤ _; exact Nat.le_of_eq rfl) (hb hby d25_4) (fun _ _ => ⟨rfl, e4, (by decide : 0 + 0 ≤ _), (by decide : 0 + 0 ≤ _)⟩)
    dsimp only [Pt.U, Pt.locs, Pt.cells, Pt.slots] at X7 l7 y7 z7 st7 hQ7
    subst l7 y7 z7
    obtain ⟨rfl, Nq7, e7⟩ := hQ7
    have N7 := Fr.app N4 Nq7
    have hc8 : (2 : Int32) < (3 : Int32) := by decide
    obtain ⟨cq9, kq9, q9a, q9b, q9c⟩ := isOf hZ e7 Ex1
    obtain ⟨_, _, ⟨T9, L9, k9, n9⟩, -, X9, ⟨Lc9, hQ9, l9, y9, z9⟩, st9⟩ := X7.virtualBack hx (y := mN23) (z := mN23) hown (mvT hZ (tw hw 46 rfl)) (mvT hZ (tw hw 47 rfl)) (notFace_of_selects (args := #[]) (mvT hZ (tw hw 49 rfl))) (mvT hZ (tw hw 49 rfl)) (mvT hZ (tw hw 48 rfl)) (by decide) (backOf (W := 0) (rmca_3_2 l Z a0 hw [] r0 ch0 ch1 ch2 G1 G3 h0 n0 Z0 S0 hb_ch2 O2 P5 O4 rG3 OA OH OL) hZ (tw hw 50 rfl) (tw hw 3 rfl) (by decide) (by decide)) q9a q9c (g := (mkF m 12 #[vr r0, vi 2] [(.int 2), (.ref r0)])) rfl (by rw [hml]; rfl) (Steps.refl _) (argsL := [(.int 2)]) (rest := []) (lenOf pd_16 rfl) rfl (by show 2 * 0 + _ ≤ _; exact Nat.le_of_eq rfl) (hb hby d25_12) (fun _ _ => ⟨rfl, e7, (by decide : 0 + 0 ≤ _), (by decide : 0 + 0 ≤ _)⟩)
    dsimp only [Pt.U, Pt.locs, Pt.cells, Pt.slots] at X9 l9 y9 z9 st9 hQ9
    subst l9 y9 z9
    obtain ⟨rfl, Nq9, e9⟩ := hQ9
    have N9 := Fr.app N7 Nq9
    obtain ⟨_, _, ⟨T10, L10, k10, n10⟩, -, X10, ⟨Lc10, hQ10, l10, y10, z10⟩, st10⟩ := Jvm.LawKit.callS X9 hx (y := mN3) hown (mvT hZ (tw hw 119 rfl)) (mvT hZ (tw hw 120 rfl)) (mvT hZ (tw hw 24 rfl)) (mvT hZ (tw hw 121 rfl)) (by decide) (backOf (W := 0) (rm29 l Z a0 hw [] ch2  h0 n0 Z0 ) hZ (tw hw 121 rfl) (tw hw 24 rfl) (by decide) (by decide)) (g := (mkF m 15 #[vr r0, vi 2] [(.int ch2)])) rfl (by rw [hml]; rfl) (argsL := [(.int ch2)]) (rest := []) (lenOf pd_0 rfl) rfl (by show 2 * 0 + _ ≤ _; exact Nat.le_of_eq rfl) (hb hby d25_15) (fun _ _ => ⟨rfl, e9, (by decide : 0 + 0 ≤ _), (by decide : 0 + 0 ≤ _)⟩)
    dsimp only [Pt.U, Pt.locs, Pt.cells, Pt.slots] at X10 l10 y10 z10 st10 hQ10
    subst l10 y10 z10
    obtain ⟨rfl, Nq10, e10⟩ := hQ10
    have N10 := Fr.app N9 Nq10
    have t10 := own_bt (P := (97 ≤ ch2.toInt ∧ ch2.toInt ≤ 122) ∨ (65 ≤ ch2.toInt ∧ ch2.toInt ≤ 90) ∨ (48 ≤ ch2.toInt ∧ ch2.toInt ≤ 57) ∨ ch2.toInt = 95)
    have pre12 : ∀ t, SF p e below T10 m 18 #[vr r0, vi 2] [(.int (bI ((97 ≤ ch2.toInt ∧ ch2.toInt ≤ 122) ∨ (65 ≤ ch2.toInt ∧ ch2.toInt ≤ 90) ∨ (48 ≤ ch2.toInt ∧ ch2.toInt ≤ 57) ∨ ch2.toInt = 95)))] t → SF p e below s₁ m 0 #[vr r0, .unset] [] t := fun t k => pre6 t (by
      show SF p e below T4 m 18 #[vr r0, vi 1] [(.int (bI ((97 ≤ ch1.toInt ∧ ch1.toInt ≤ 122) ∨ (65 ≤ ch1.toInt ∧ ch1.toInt ≤ 90) ∨ (48 ≤ ch1.toInt ∧ ch1.toInt ≤ 57) ∨ ch1.toInt = 95)))] _
      refine XS.ifYes X4.here hx rfl (pc0 := 18) (pc' := 23) rfl (hb hby d25_18) rfl ((if0 _ _).trans (feq hc5).2) (by decide) (by decide) ?_
      show SF p e below T4 m 23 #[vr r0, vi 1] [] _
      refine XS.iinc X4.here hx rfl (hb hby d25_23) rfl (l' := #[vr r0, vi 2]) rfl ?_
      refine XS.goto X4.here hx rfl (pc0 := 26) (pc' := 2) rfl (hb hby d25_26) (by decide) (by decide) ?_
      refine XS.iloadN X4.here hx rfl (hb hby d25_2) rfl ?_
      refine XS.aloadN X4.here hx rfl (hb hby d25_3) rfl rfl ?_
      refine st7.trans ?_
      show SF p e below T7 m 7 #[vr r0, vi 2] [(.int 3), (.int 2)] _
      refine XS.icmpNo X7.here hx rfl (hb hby d25_7) rfl (tlt hc8).2.1 ?_
      refine XS.aloadN X7.here hx rfl (hb hby d25_10) rfl rfl ?_
      refine XS.iloadN X7.here hx rfl (hb hby d25_11) rfl ?_
      refine st9.trans ?_
      refine st10 _ ?_
      exact k)
    by_cases hc11 : (bI ((97 ≤ ch2.toInt ∧ ch2.toInt ≤ 122) ∨ (65 ≤ ch2.toInt ∧ ch2.toInt ≤ 90) ∨ (48 ≤ ch2.toInt ∧ ch2.toInt ≤ 57) ∨ ch2.toInt = 95)) = (0 : Int32)
    · skip
      have ohc11 : (bI ((97 ≤ ch2.toInt ∧ ch2.toInt ≤ 122) ∨ (65 ≤ ch2.toInt ∧ ch2.toInt ≤ 90) ∨ (48 ≤ ch2.toInt ∧ ch2.toInt ≤ 57) ∨ ch2.toInt = 95)).toInt = 0 := own_eq.mp hc11
      obtain ⟨fs, hr, hrun, hended, hW, hsame⟩ := X10.leave (v := some (.int 0)) (fun h => by rw [Bd.returns] at h; cases h)
      refine ⟨_, _, pre0 _ (pre12 _ ?_), hrun, hended, _, _, rfl, ?_, ⟨_, rfl⟩, hW, hsame.mono (by decide) (by decide)⟩
      · skip
        show SF p e below T10 m 18 #[vr r0, vi 2] [(.int (bI ((97 ≤ ch2.toInt ∧ ch2.toInt ≤ 122) ∨ (65 ≤ ch2.toInt ∧ ch2.toInt ≤ 90) ∨ (48 ≤ ch2.toInt ∧ ch2.toInt ≤ 57) ∨ ch2.toInt = 95)))] _
        refine XS.ifNo X10.here hx rfl (hb hby d25_18) rfl ((if0 _ _).trans (teq hc11).2) ?_
        show SF p e below T10 m 21 #[vr r0, vi 2] [] _
        refine XS.iconst X10.here hx rfl (hb hby d25_21) ?_
        show SF p e below T10 m 22 #[vr r0, vi 2] [(.int 0)] _
        exact retN X10 hx (t := .boolean) Bd.returns (by simp) (hb hby d25_22) hr
      · show Qca__3w Z r0 ch0 ch1 ch2 G1 G3 h0 n0 _ T10.heap _
        rw [e10]
        exact ⟨own_b0 (by first | trivial | omega), N10, rfl⟩
    · skip
      have ohc11 : ¬ ((bI ((97 ≤ ch2.toInt ∧ ch2.toInt ≤ 122) ∨ (65 ≤ ch2.toInt ∧ ch2.toInt ≤ 90) ∨ (48 ≤ ch2.toInt ∧ ch2.toInt ≤ 57) ∨ ch2.toInt = 95)).toInt = 0) := own_neq.mp hc11
      obtain ⟨cq13, kq13, q13a, q13b, q13c⟩ := isOf hZ e10 Ex1
      obtain ⟨_, _, ⟨T13, L13, k13, n13⟩, -, X13, ⟨Lc13, hQ13, l13, y13, z13⟩, st13⟩ := X10.virtualBack hx (y := mN24) (z := mN24) hown (mvT hZ (tw hw 106 rfl)) (mvT hZ (tw hw 107 rfl)) (notFace_of_selects (args := #[]) (mvT hZ (tw hw 109 rfl))) (mvT hZ (tw hw 109 rfl)) (mvT hZ (tw hw 108 rfl)) (by decide) (backOf (W := 1) (rmln_3 l Z a0 hw [] r0 ch0 ch1 ch2 G1 G3 h0 n0 Z0 S0 O2 P5 O4 rG3 OA OH OL) hZ (tw hw 110 rfl) (tw hw 3 rfl) (by decide) (by decide)) q13a q13c (g := (mkF m 4 #[vr r0, vi 3] [(.ref r0), (.int 3)])) rfl (by rw [hml]; rfl) (Steps.refl _) (argsL := []) (rest := [(.int 3)]) (lenOf pd_15 rfl) rfl (by show 2 * 0 + _ ≤ _; exact Nat.le_of_eq rfl) (hb hby d25_4) (fun _ _ => ⟨rfl, e10, (by decide : 0 + 0 ≤ _), (by decide : 0 + 0 ≤ _)⟩)
      dsimp only [Pt.U, Pt.locs, Pt.cells, Pt.slots] at X13 l13 y13 z13 st13 hQ13
      subst l13 y13 z13
      obtain ⟨rfl, Nq13, e13⟩ := hQ13
      have N13 := Fr.app N10 Nq13
      have hc14 : ¬ ((3 : Int32) < (3 : Int32)) := by decide
      obtain ⟨fs, hr, hrun, hended, hW, hsame⟩ := X13.leave (v := some (.int 1)) (fun h => by rw [Bd.returns] at h; cases h)
      refine ⟨_, _, pre0 _ (pre12 _ ?_), hrun, hended, _, _, rfl, ?_, ⟨_, rfl⟩, hW, hsame.mono (by decide) (by decide)⟩
      · skip
        show SF p e below T10 m 18 #[vr r0, vi 2] [(.int (bI ((97 ≤ ch2.toInt ∧ ch2.toInt ≤ 122) ∨ (65 ≤ ch2.toInt ∧ ch2.toInt ≤ 90) ∨ (48 ≤ ch2.toInt ∧ ch2.toInt ≤ 57) ∨ ch2.toInt = 95)))] _
        refine XS.ifYes X10.here hx rfl (pc0 := 18) (pc' := 23) rfl (hb hby d25_18) rfl ((if0 _ _).trans (feq hc11).2) (by decide) (by decide) ?_
        show SF p e below T10 m 23 #[vr r0, vi 2] [] _
        refine XS.iinc X10.here hx rfl (hb hby d25_23) rfl (l' := #[vr r0, vi 3]) rfl ?_
        refine XS.goto X10.here hx rfl (pc0 := 26) (pc' := 2) rfl (hb hby d25_26) (by decide) (by decide) ?_
        refine XS.iloadN X10.here hx rfl (hb hby d25_2) rfl ?_
        refine XS.aloadN X10.here hx rfl (hb hby d25_3) rfl rfl ?_
        refine st13.trans ?_
        show SF p e below T13 m 7 #[vr r0, vi 3] [(.int 3), (.int 3)] _
        refine XS.icmpYes X13.here hx rfl (pc0 := 7) (pc' := 29) rfl (hb hby d25_7) rfl (flt hc14).2.1 (by decide) (by decide) ?_
        refine XS.iconst X13.here hx rfl (hb hby d25_29) ?_
        show SF p e below T13 m 30 #[vr r0, vi 3] [(.int 1)] _
        exact retN X13 hx (t := .boolean) Bd.returns (by simp) (hb hby d25_30) hr
      · show Qca__3w Z r0 ch0 ch1 ch2 G1 G3 h0 n0 _ T13.heap _
        rw [e13]
        exact ⟨own_b1 (by first | trivial | omega), N13, rfl⟩
def Qio__3w (Z : State) (r0 : Addr) (ch0 : Int32) (ch1 : Int32) (ch2 : Int32) (G1 : Int32) (G3 : Value) (h0 : Heap) (n0 : Nat) (v : Option Value) (h : Heap) (L : List Loc) : Prop := v = some (.int (bI (((97 ≤ ch0.toInt ∧ ch0.toInt ≤ 122) ∨ (48 ≤ ch0.toInt ∧ ch0.toInt ≤ 57)) ∧ ((97 ≤ ch1.toInt ∧ ch1.toInt ≤ 122) ∨ (65 ≤ ch1.toInt ∧ ch1.toInt ≤ 90) ∨ (48 ≤ ch1.toInt ∧ ch1.toInt ≤ 57) ∨ ch1.toInt = 95) ∧ ((97 ≤ ch2.toInt ∧ ch2.toInt ≤ 122) ∨ (65 ≤ ch2.toInt ∧ ch2.toInt ≤ 90) ∨ (48 ≤ ch2.toInt ∧ ch2.toInt ≤ 57) ∨ ch2.toInt = 95)))) ∧ Fr n0 L ∧ h = h0
set_option maxRecDepth 65536 in
set_option maxHeartbeats 40000000 in
theorem rmio__3w (l : Launch) (Z : State) (a0 : Array Value) (hw : ∀ d ∈ tables_1, d.before a0 Z = true) (ws : List Jvm.Cond) (r0 : Addr) (ch0 : Int32) (ch1 : Int32) (ch2 : Int32) (G1 : Int32) (G3 : Value) (h0 : Heap) (n0 : Nat) (Z0 : n0 ≤ h0.size) (O2 : sC Z h0 G1) (P5 : ¬ (G1 = (0 : Int32))) (O4 : sI Z h0 G3) (rG3 : G3.isRef = true) (OA : sA Z h0) (OH : sH Z h0) (OL : sL Z h0) (S0 : OW Z h0 r0 (6 : Int32) [(.int (loB ch0)), (.int (hiB ch0)), (.int (loB ch1)), (.int (hiB ch1)), (.int (loB ch2)), (.int (hiB ch2))]) (hb_ch0 : 0 ≤ ch0.toInt ∧ ch0.toInt ≤ 65535) (hb_ch1 : 0 ≤ ch1.toInt ∧ ch1.toInt ≤ 65535) (hb_ch2 : 0 ≤ ch2.toInt ∧ ch2.toInt ≤ 65535) :
    MF l Z mN26 prog_38_method_5_code 1 (some .boolean) ws (rK 6 0 0 79) #[(.ref r0)] h0 (Qio__3w Z r0 ch0 ch1 ch2 G1 G3 h0 n0) := by
  refine MetFree.of_bodySF (plainFor_of_name pn_com_example_orql_orql_Syntax) hisR ?_
  intro p e s m args below meth c s₁ Bd hml0 hP hK
  obtain ⟨rfl, hZ, hh⟩ := hP
  have hx := Bd.exec
  have hby := Bd.bytes
  have hml : c.maxLocals = 1 := hml0
  have hown : s.vm.findClass "com/example/orql/orql/Syntax" = some m.cls := findClass_of_methodNamed Bd.named
  have hnm := (name_of_methodNamed Bd.named Bd.method).1
  have X0 : Stand p l e (rK 6 0 0 79) s m #[(.ref r0)] below meth c s₁ [] 0 0 := Stand.of_body Bd
  have e0 : s₁.heap = h0 := by rw [← hh, Bd.state]; rfl
  have N0 := Fr.nil n0
  have pre0 : ∀ t, SF p e below s₁ m 0 #[vr r0] [] t → Steps p.tables e below (s₁.setTop (entryFrame m #[(.ref r0)] 1)) t := fun t k => castTop (ef_4 m r0) k
  have Ex1 : Exa Z h0 r0 "java/lang/String" := by obtain ⟨_, _, q, -⟩ := id S0; exact q
  obtain ⟨cq1, kq1, q1a, q1b, q1c⟩ := isOf hZ e0 Ex1
  obtain ⟨_, _, ⟨T1, L1, k1, n1⟩, -, X1, ⟨Lc1, hQ1, l1, y1, z1⟩, st1⟩ := X0.virtualBack hx (y := mN25) (z := mN25) hown (mvT hZ (tw hw 26 rfl)) (mvT hZ (tw hw 27 rfl)) (notFace_of_selects (args := #[]) (mvT hZ (tw hw 29 rfl))) (mvT hZ (tw hw 29 rfl)) (mvT hZ (tw hw 28 rfl)) (by decide) (backOf (W := 0) (rmem_3 l Z a0 hw [] r0 ch0 ch1 ch2 G1 G3 h0 n0 Z0 S0 O2 P5 O4 rG3 OA OH OL) hZ (tw hw 30 rfl) (tw hw 3 rfl) (by decide) (by decide)) q1a q1c (g := (mkF m 1 #[vr r0] [(.ref r0)])) rfl (by rw [hml]; rfl) (Steps.refl _) (argsL := []) (rest := []) (lenOf pd_13 rfl) rfl (by show 2 * 0 + _ ≤ _; exact Nat.le_of_eq rfl) (hb hby d4_1) (fun _ _ => ⟨rfl, e0, (by decide : 0 + 0 ≤ _), (by decide : 0 + 0 ≤ _)⟩)
  dsimp only [Pt.U, Pt.locs, Pt.cells, Pt.slots] at X1 l1 y1 z1 st1 hQ1
  subst l1 y1 z1
  obtain ⟨rfl, Nq1, e1⟩ := hQ1
  have N1 := Fr.app N0 Nq1
  have hc2 : (0 : Int32) = (0 : Int32) := by decide
  obtain ⟨cq3, kq3, q3a, q3b, q3c⟩ := isOf hZ e1 Ex1
  obtain ⟨_, _, ⟨T3, L3, k3, n3⟩, -, X3, ⟨Lc3, hQ3, l3, y3, z3⟩, st3⟩ := X1.virtualBack hx (y := mN23) (z := mN23) hown (mvT hZ (tw hw 46 rfl)) (mvT hZ (tw hw 47 rfl)) (notFace_of_selects (args := #[]) (mvT hZ (tw hw 49 rfl))) (mvT hZ (tw hw 49 rfl)) (mvT hZ (tw hw 48 rfl)) (by decide) (backOf (W := 0) (rmca_3_0 l Z a0 hw [] r0 ch0 ch1 ch2 G1 G3 h0 n0 Z0 S0 hb_ch0 O2 P5 O4 rG3 OA OH OL) hZ (tw hw 50 rfl) (tw hw 3 rfl) (by decide) (by decide)) q3a q3c (g := (mkF m 9 #[vr r0] [(.int 0), (.ref r0)])) rfl (by rw [hml]; rfl) (Steps.refl _) (argsL := [(.int 0)]) (rest := []) (lenOf pd_16 rfl) rfl (by show 2 * 0 + _ ≤ _; exact Nat.le_of_eq rfl) (hb hby d4_9) (fun _ _ => ⟨rfl, e1, (by decide : 0 + 0 ≤ _), (by decide : 0 + 0 ≤ _)⟩)
  dsimp only [Pt.U, Pt.locs, Pt.cells, Pt.slots] at X3 l3 y3 z3 st3 hQ3
  subst l3 y3 z3
  obtain ⟨rfl, Nq3, e3⟩ := hQ3
  have N3 := Fr.app N1 Nq3
  obtain ⟨_, _, ⟨T4, L4, k4, n4⟩, -, X4, ⟨Lc4, hQ4, l4, y4, z4⟩, st4⟩ := Jvm.LawKit.callS X3 hx (y := mN0) hown (mvT hZ (tw hw 68 rfl)) (mvT hZ (tw hw 69 rfl)) (mvT hZ (tw hw 24 rfl)) (mvT hZ (tw hw 70 rfl)) (by decide) (backOf (W := 0) (rm15 l Z a0 hw [] ch0  h0 n0 Z0 ) hZ (tw hw 70 rfl) (tw hw 24 rfl) (by decide) (by decide)) (g := (mkF m 12 #[vr r0] [(.int ch0)])) rfl (by rw [hml]; rfl) (argsL := [(.int ch0)]) (rest := []) (lenOf pd_0 rfl) rfl (by show 2 * 0 + _ ≤ _; exact Nat.le_of_eq rfl) (hb hby d4_12) (fun _ _ => ⟨rfl, e3, (by decide : 0 + 0 ≤ _), (by decide : 0 + 0 ≤ _)⟩)
  dsimp only [Pt.U, Pt.locs, Pt.cells, Pt.slots] at X4 l4 y4 z4 st4 hQ4
  subst l4 y4 z4
  obtain ⟨rfl, Nq4, e4⟩ := hQ4
  have N4 := Fr.app N3 Nq4
  have t4 := own_bt (P := 97 ≤ ch0.toInt ∧ ch0.toInt ≤ 122)
  have pre6 : ∀ t, SF p e below T4 m 15 #[vr r0] [(.int (bI (97 ≤ ch0.toInt ∧ ch0.toInt ≤ 122)))] t → SF p e below s₁ m 0 #[vr r0] [] t := fun t k => (by
    show SF p e below s₁ m 0 #[vr r0] [] _
    refine XS.aloadN X0.here hx rfl (hb hby d4_0) rfl rfl ?_
    refine st1.trans ?_
    refine XS.ifNo X1.here hx rfl (hb hby d4_4) rfl ((if0 _ _).trans (teq hc2).2) ?_
    refine XS.aloadN X1.here hx rfl (hb hby d4_7) rfl rfl ?_
    refine XS.iconst X1.here hx rfl (hb hby d4_8) ?_
    show SF p e below T1 m 9 #[vr r0] [(.int 0), (.ref r0)] _
    refine st3.trans ?_
    refine st4 _ ?_
    exact k)
  by_cases hc5 : (bI (97 ≤ ch0.toInt ∧ ch0.toInt ≤ 122)) = (0 : Int32)
  · skip
    have ohc5 : (bI (97 ≤ ch0.toInt ∧ ch0.toInt ≤ 122)).toInt = 0 := own_eq.mp hc5
    obtain ⟨cq7, kq7, q7a, q7b, q7c⟩ := isOf hZ e4 Ex1
    obtain ⟨_, _, ⟨T7, L7, k7, n7⟩, -, X7, ⟨Lc7, hQ7, l7, y7, z7⟩, st7⟩ := X4.virtualBack hx (y := mN23) (z := mN23) hown (mvT hZ (tw hw 46 rfl)) (mvT hZ (tw hw 47 rfl)) (notFace_of_selects (args := #[]) (mvT hZ (tw hw 49 rfl))) (mvT hZ (tw hw 49 rfl)) (mvT hZ (tw hw 48 rfl)) (by decide) (backOf (W := 0) (rmca_3_0 l Z a0 hw [] r0 ch0 ch1 ch2 G1 G3 h0 n0 Z0 S0 hb_ch0 O2 P5 O4 rG3 OA OH OL) hZ (tw hw 50 rfl) (tw hw 3 rfl) (by decide) (by decide)) q7a q7c (g := (mkF m 20 #[vr r0] [(.int 0), (.ref r0)])) rfl (by rw [hml]; rfl) (Steps.refl _) (argsL := [(.int 0)]) (rest := []) (lenOf pd_16 rfl) rfl (by show 2 * 0 + _ ≤ _; exact Nat.le_of_eq rfl) (hb hby d4_20) (fun _ _ => ⟨rfl, e4, (by decide : 0 + 0 ≤ _), (by decide : 0 + 0 ≤ _)⟩)
    dsimp only [Pt.U, Pt.locs, Pt.cells, Pt.slots] at X7 l7 y7 z7 st7 hQ7
    subst l7 y7 z7
    obtain ⟨rfl, Nq7, e7⟩ := hQ7
    have N7 := Fr.app N4 Nq7
    obtain ⟨_, _, ⟨T8, L8, k8, n8⟩, -, X8, ⟨Lc8, hQ8, l8, y8, z8⟩, st8⟩ := Jvm.LawKit.callS X7 hx (y := mN2) hown (mvT hZ (tw hw 71 rfl)) (mvT hZ (tw hw 72 rfl)) (mvT hZ (tw hw 24 rfl)) (mvT hZ (tw hw 73 rfl)) (by decide) (backOf (W := 0) (rm16 l Z a0 hw [] ch0  h0 n0 Z0 ) hZ (tw hw 73 rfl) (tw hw 24 rfl) (by decide) (by decide)) (g := (mkF m 23 #[vr r0] [(.int ch0)])) rfl (by rw [hml]; rfl) (argsL := [(.int ch0)]) (rest := []) (lenOf pd_0 rfl) rfl (by show 2 * 0 + _ ≤ _; exact Nat.le_of_eq rfl) (hb hby d4_23) (fun _ _ => ⟨rfl, e7, (by decide : 0 + 0 ≤ _), (by decide : 0 + 0 ≤ _)⟩)
    dsimp only [Pt.U, Pt.locs, Pt.cells, Pt.slots] at X8 l8 y8 z8 st8 hQ8
    subst l8 y8 z8
    obtain ⟨rfl, Nq8, e8⟩ := hQ8
    have N8 := Fr.app N7 Nq8
    have t8 := own_bt (P := 48 ≤ ch0.toInt ∧ ch0.toInt ≤ 57)
    have pre10 : ∀ t, SF p e below T8 m 26 #[vr r0] [(.int (bI (48 ≤ ch0.toInt ∧ ch0.toInt ≤ 57)))] t → SF p e below s₁ m 0 #[vr r0] [] t := fun t k => pre6 t (by
      show SF p e below T4 m 15 #[vr r0] [(.int (bI (97 ≤ ch0.toInt ∧ ch0.toInt ≤ 122)))] _
      refine XS.ifNo X4.here hx rfl (hb hby d4_15) rfl ((if0 _ _).trans (teq hc5).2) ?_
      show SF p e below T4 m 18 #[vr r0] [] _
      refine XS.aloadN X4.here hx rfl (hb hby d4_18) rfl rfl ?_
      refine XS.iconst X4.here hx rfl (hb hby d4_19) ?_
      refine st7.trans ?_
      refine st8 _ ?_
      exact k)
    by_cases hc9 : (bI (48 ≤ ch0.toInt ∧ ch0.toInt ≤ 57)) = (0 : Int32)
    · skip
      have ohc9 : (bI (48 ≤ ch0.toInt ∧ ch0.toInt ≤ 57)).toInt = 0 := own_eq.mp hc9
      obtain ⟨fs, hr, hrun, hended, hW, hsame⟩ := X8.leave (v := some (.int 0)) (fun h => by rw [Bd.returns] at h; cases h)
      refine ⟨_, _, pre0 _ (pre10 _ ?_), hrun, hended, _, _, rfl, ?_, ⟨_, rfl⟩, hW, hsame.mono (by decide) (by decide)⟩
      · skip
        show SF p e below T8 m 26 #[vr r0] [(.int (bI (48 ≤ ch0.toInt ∧ ch0.toInt ≤ 57)))] _
        refine XS.ifYes X8.here hx rfl (pc0 := 26) (pc' := 40) rfl (hb hby d4_26) rfl ((if0 _ _).trans (teq hc9).1) (by decide) (by decide) ?_
        show SF p e below T8 m 40 #[vr r0] [] _
        refine XS.iconst X8.here hx rfl (hb hby d4_40) ?_
        show SF p e below T8 m 41 #[vr r0] [(.int 0)] _
        exact retN X8 hx (t := .boolean) Bd.returns (by simp) (hb hby d4_41) hr
      · show Qio__3w Z r0 ch0 ch1 ch2 G1 G3 h0 n0 _ T8.heap _
        rw [e8]
        exact ⟨own_b0 (by first | trivial | omega), N8, rfl⟩
    · skip
      have ohc9 : ¬ ((bI (48 ≤ ch0.toInt ∧ ch0.toInt ≤ 57)).toInt = 0) := own_neq.mp hc9
      obtain ⟨_, _, ⟨T11, L11, k11, n11⟩, -, X11, ⟨Lc11, hQ11, l11, y11, z11⟩, st11⟩ := Jvm.LawKit.callS X8 hx (y := mN27) hown (mvT hZ (tw hw 103 rfl)) (mvT hZ (tw hw 104 rfl)) (mvT hZ (tw hw 24 rfl)) (mvT hZ (tw hw 105 rfl)) (by decide) (backOf (W := 0) (rmca__3w l Z a0 hw [] r0 ch0 ch1 ch2 G1 G3 h0 n0 Z0 O2 P5 O4 rG3 OA OH OL S0 hb_ch0 hb_ch1 hb_ch2) hZ (tw hw 105 rfl) (tw hw 24 rfl) (by decide) (by decide)) (g := (mkF m 30 #[vr r0] [(.ref r0)])) rfl (by rw [hml]; rfl) (argsL := [(.ref r0)]) (rest := []) (lenOf pd_17 rfl) rfl (by show 2 * 0 + _ ≤ _; exact Nat.le_of_eq rfl) (hb hby d4_30) (fun _ _ => ⟨rfl, e8, (by decide : 0 + 0 ≤ _), (by decide : 0 + 0 ≤ _)⟩)
      dsimp only [Pt.U, Pt.locs, Pt.cells, Pt.slots] at X11 l11 y11 z11 st11 hQ11
      subst l11 y11 z11
      obtain ⟨rfl, Nq11, e11⟩ := hQ11
      have N11 := Fr.app N8 Nq11
      have t11 := own_bt (P := ((97 ≤ ch1.toInt ∧ ch1.toInt ≤ 122) ∨ (65 ≤ ch1.toInt ∧ ch1.toInt ≤ 90) ∨ (48 ≤ ch1.toInt ∧ ch1.toInt ≤ 57) ∨ ch1.toInt = 95) ∧ ((97 ≤ ch2.toInt ∧ ch2.toInt ≤ 122) ∨ (65 ≤ ch2.toInt ∧ ch2.toInt ≤ 90) ∨ (48 ≤ ch2.toInt ∧ ch2.toInt ≤ 57) ∨ ch2.toInt = 95))
      have pre13 : ∀ t, SF p e below T11 m 33 #[vr r0] [(.int (bI (((97 ≤ ch1.toInt ∧ ch1.toInt ≤ 122) ∨ (65 ≤ ch1.toInt ∧ ch1.toInt ≤ 90) ∨ (48 ≤ ch1.toInt ∧ ch1.toInt ≤ 57) ∨ ch1.toInt = 95) ∧ ((97 ≤ ch2.toInt ∧ ch2.toInt ≤ 122) ∨ (65 ≤ ch2.toInt ∧ ch2.toInt ≤ 90) ∨ (48 ≤ ch2.toInt ∧ ch2.toInt ≤ 57) ∨ ch2.toInt = 95))))] t → SF p e below s₁ m 0 #[vr r0] [] t := fun t k => pre10 t (by
        show SF p e below T8 m 26 #[vr r0] [(.int (bI (48 ≤ ch0.toInt ∧ ch0.toInt ≤ 57)))] _
        refine XS.ifNo X8.here hx rfl (hb hby d4_26) rfl ((if0 _ _).trans (feq hc9).1) ?_
        show SF p e below T8 m 29 #[vr r0] [] _
        refine XS.aloadN X8.here hx rfl (hb hby d4_29) rfl rfl ?_
        refine st11 _ ?_
        exact k)
      by_cases hc12 : (bI (((97 ≤ ch1.toInt ∧ ch1.toInt ≤ 122) ∨ (65 ≤ ch1.toInt ∧ ch1.toInt ≤ 90) ∨ (48 ≤ ch1.toInt ∧ ch1.toInt ≤ 57) ∨ ch1.toInt = 95) ∧ ((97 ≤ ch2.toInt ∧ ch2.toInt ≤ 122) ∨ (65 ≤ ch2.toInt ∧ ch2.toInt ≤ 90) ∨ (48 ≤ ch2.toInt ∧ ch2.toInt ≤ 57) ∨ ch2.toInt = 95))) = (0 : Int32)
      · skip
        have ohc12 : (bI (((97 ≤ ch1.toInt ∧ ch1.toInt ≤ 122) ∨ (65 ≤ ch1.toInt ∧ ch1.toInt ≤ 90) ∨ (48 ≤ ch1.toInt ∧ ch1.toInt ≤ 57) ∨ ch1.toInt = 95) ∧ ((97 ≤ ch2.toInt ∧ ch2.toInt ≤ 122) ∨ (65 ≤ ch2.toInt ∧ ch2.toInt ≤ 90) ∨ (48 ≤ ch2.toInt ∧ ch2.toInt ≤ 57) ∨ ch2.toInt = 95))).toInt = 0 := own_eq.mp hc12
        obtain ⟨fs, hr, hrun, hended, hW, hsame⟩ := X11.leave (v := some (.int 0)) (fun h => by rw [Bd.returns] at h; cases h)
        refine ⟨_, _, pre0 _ (pre13 _ ?_), hrun, hended, _, _, rfl, ?_, ⟨_, rfl⟩, hW, hsame.mono (by decide) (by decide)⟩
        · skip
          show SF p e below T11 m 33 #[vr r0] [(.int (bI (((97 ≤ ch1.toInt ∧ ch1.toInt ≤ 122) ∨ (65 ≤ ch1.toInt ∧ ch1.toInt ≤ 90) ∨ (48 ≤ ch1.toInt ∧ ch1.toInt ≤ 57) ∨ ch1.toInt = 95) ∧ ((97 ≤ ch2.toInt ∧ ch2.toInt ≤ 122) ∨ (65 ≤ ch2.toInt ∧ ch2.toInt ≤ 90) ∨ (48 ≤ ch2.toInt ∧ ch2.toInt ≤ 57) ∨ ch2.toInt = 95))))] _
          refine XS.ifYes X11.here hx rfl (pc0 := 33) (pc' := 40) rfl (hb hby d4_33) rfl ((if0 _ _).trans (teq hc12).1) (by decide) (by decide) ?_
          show SF p e below T11 m 40 #[vr r0] [] _
          refine XS.iconst X11.here hx rfl (hb hby d4_40) ?_
          show SF p e below T11 m 41 #[vr r0] [(.int 0)] _
          exact retN X11 hx (t := .boolean) Bd.returns (by simp) (hb hby d4_41) hr
        · show Qio__3w Z r0 ch0 ch1 ch2 G1 G3 h0 n0 _ T11.heap _
          rw [e11]
          exact ⟨own_b0 (by first | trivial | omega), N11, rfl⟩
      · skip
        have ohc12 : ¬ ((bI (((97 ≤ ch1.toInt ∧ ch1.toInt ≤ 122) ∨ (65 ≤ ch1.toInt ∧ ch1.toInt ≤ 90) ∨ (48 ≤ ch1.toInt ∧ ch1.toInt ≤ 57) ∨ ch1.toInt = 95) ∧ ((97 ≤ ch2.toInt ∧ ch2.toInt ≤ 122) ∨ (65 ≤ ch2.toInt ∧ ch2.toInt ≤ 90) ∨ (48 ≤ ch2.toInt ∧ ch2.toInt ≤ 57) ∨ ch2.toInt = 95))).toInt = 0) := own_neq.mp hc12
        obtain ⟨fs, hr, hrun, hended, hW, hsame⟩ := X11.leave (v := some (.int 1)) (fun h => by rw [Bd.returns] at h; cases h)
        refine ⟨_, _, pre0 _ (pre13 _ ?_), hrun, hended, _, _, rfl, ?_, ⟨_, rfl⟩, hW, hsame.mono (by decide) (by decide)⟩
        · skip
          show SF p e below T11 m 33 #[vr r0] [(.int (bI (((97 ≤ ch1.toInt ∧ ch1.toInt ≤ 122) ∨ (65 ≤ ch1.toInt ∧ ch1.toInt ≤ 90) ∨ (48 ≤ ch1.toInt ∧ ch1.toInt ≤ 57) ∨ ch1.toInt = 95) ∧ ((97 ≤ ch2.toInt ∧ ch2.toInt ≤ 122) ∨ (65 ≤ ch2.toInt ∧ ch2.toInt ≤ 90) ∨ (48 ≤ ch2.toInt ∧ ch2.toInt ≤ 57) ∨ ch2.toInt = 95))))] _
          refine XS.ifNo X11.here hx rfl (hb hby d4_33) rfl ((if0 _ _).trans (feq hc12).1) ?_
          show SF p e below T11 m 36 #[vr r0] [] _
          refine XS.iconst X11.here hx rfl (hb hby d4_36) ?_
          refine XS.goto X11.here hx rfl (pc0 := 37) (pc' := 41) rfl (hb hby d4_37) (by decide) (by decide) ?_
          show SF p e below T11 m 41 #[vr r0] [(.int 1)] _
          exact retN X11 hx (t := .boolean) Bd.returns (by simp) (hb hby d4_41) hr
        · show Qio__3w Z r0 ch0 ch1 ch2 G1 G3 h0 n0 _ T11.heap _
          rw [e11]
          exact ⟨own_b1 (by first | trivial | omega), N11, rfl⟩
  · skip
    have ohc5 : ¬ ((bI (97 ≤ ch0.toInt ∧ ch0.toInt ≤ 122)).toInt = 0) := own_neq.mp hc5
    obtain ⟨_, _, ⟨T14, L14, k14, n14⟩, -, X14, ⟨Lc14, hQ14, l14, y14, z14⟩, st14⟩ := Jvm.LawKit.callS X4 hx (y := mN27) hown (mvT hZ (tw hw 103 rfl)) (mvT hZ (tw hw 104 rfl)) (mvT hZ (tw hw 24 rfl)) (mvT hZ (tw hw 105 rfl)) (by decide) (backOf (W := 0) (rmca__3w l Z a0 hw [] r0 ch0 ch1 ch2 G1 G3 h0 n0 Z0 O2 P5 O4 rG3 OA OH OL S0 hb_ch0 hb_ch1 hb_ch2) hZ (tw hw 105 rfl) (tw hw 24 rfl) (by decide) (by decide)) (g := (mkF m 30 #[vr r0] [(.ref r0)])) rfl (by rw [hml]; rfl) (argsL := [(.ref r0)]) (rest := []) (lenOf pd_17 rfl) rfl (by show 2 * 0 + _ ≤ _; exact Nat.le_of_eq rfl) (hb hby d4_30) (fun _ _ => ⟨rfl, e4, (by decide : 0 + 0 ≤ _), (by decide : 0 + 0 ≤ _)⟩)
    dsimp only [Pt.U, Pt.locs, Pt.cells, Pt.slots] at X14 l14 y14 z14 st14 hQ14
    subst l14 y14 z14
    obtain ⟨rfl, Nq14, e14⟩ := hQ14
    have N14 := Fr.app N4 Nq14
    have t14 := own_bt (P := ((97 ≤ ch1.toInt ∧ ch1.toInt ≤ 122) ∨ (65 ≤ ch1.toInt ∧ ch1.toInt ≤ 90) ∨ (48 ≤ ch1.toInt ∧ ch1.toInt ≤ 57) ∨ ch1.toInt = 95) ∧ ((97 ≤ ch2.toInt ∧ ch2.toInt ≤ 122) ∨ (65 ≤ ch2.toInt ∧ ch2.toInt ≤ 90) ∨ (48 ≤ ch2.toInt ∧ ch2.toInt ≤ 57) ∨ ch2.toInt = 95))
    have pre16 : ∀ t, SF p e below T14 m 33 #[vr r0] [(.int (bI (((97 ≤ ch1.toInt ∧ ch1.toInt ≤ 122) ∨ (65 ≤ ch1.toInt ∧ ch1.toInt ≤ 90) ∨ (48 ≤ ch1.toInt ∧ ch1.toInt ≤ 57) ∨ ch1.toInt = 95) ∧ ((97 ≤ ch2.toInt ∧ ch2.toInt ≤ 122) ∨ (65 ≤ ch2.toInt ∧ ch2.toInt ≤ 90) ∨ (48 ≤ ch2.toInt ∧ ch2.toInt ≤ 57) ∨ ch2.toInt = 95))))] t → SF p e below s₁ m 0 #[vr r0] [] t := fun t k => pre6 t (by
      show SF p e below T4 m 15 #[vr r0] [(.int (bI (97 ≤ ch0.toInt ∧ ch0.toInt ≤ 122)))] _
      refine XS.ifYes X4.here hx rfl (pc0 := 15) (pc' := 29) rfl (hb hby d4_15) rfl ((if0 _ _).trans (feq hc5).2) (by decide) (by decide) ?_
      show SF p e below T4 m 29 #[vr r0] [] _
      refine XS.aloadN X4.here hx rfl (hb hby d4_29) rfl rfl ?_
      refine st14 _ ?_
      exact k)
    by_cases hc15 : (bI (((97 ≤ ch1.toInt ∧ ch1.toInt ≤ 122) ∨ (65 ≤ ch1.toInt ∧ ch1.toInt ≤ 90) ∨ (48 ≤ ch1.toInt ∧ ch1.toInt ≤ 57) ∨ ch1.toInt = 95) ∧ ((97 ≤ ch2.toInt ∧ ch2.toInt ≤ 122) ∨ (65 ≤ ch2.toInt ∧ ch2.toInt ≤ 90) ∨ (48 ≤ ch2.toInt ∧ ch2.toInt ≤ 57) ∨ ch2.toInt = 95))) = (0 : Int32)
    · skip
      have ohc15 : (bI (((97 ≤ ch1.toInt ∧ ch1.toInt ≤ 122) ∨ (65 ≤ ch1.toInt ∧ ch1.toInt ≤ 90) ∨ (48 ≤ ch1.toInt ∧ ch1.toInt ≤ 57) ∨ ch1.toInt = 95) ∧ ((97 ≤ ch2.toInt ∧ ch2.toInt ≤ 122) ∨ (65 ≤ ch2.toInt ∧ ch2.toInt ≤ 90) ∨ (48 ≤ ch2.toInt ∧ ch2.toInt ≤ 57) ∨ ch2.toInt = 95))).toInt = 0 := own_eq.mp hc15
      obtain ⟨fs, hr, hrun, hended, hW, hsame⟩ := X14.leave (v := some (.int 0)) (fun h => by rw [Bd.returns] at h; cases h)
      refine ⟨_, _, pre0 _ (pre16 _ ?_), hrun, hended, _, _, rfl, ?_, ⟨_, rfl⟩, hW, hsame.mono (by decide) (by decide)⟩
      · skip
        show SF p e below T14 m 33 #[vr r0] [(.int (bI (((97 ≤ ch1.toInt ∧ ch1.toInt ≤ 122) ∨ (65 ≤ ch1.toInt ∧ ch1.toInt ≤ 90) ∨ (48 ≤ ch1.toInt ∧ ch1.toInt ≤ 57) ∨ ch1.toInt = 95) ∧ ((97 ≤ ch2.toInt ∧ ch2.toInt ≤ 122) ∨ (65 ≤ ch2.toInt ∧ ch2.toInt ≤ 90) ∨ (48 ≤ ch2.toInt ∧ ch2.toInt ≤ 57) ∨ ch2.toInt = 95))))] _
        refine XS.ifYes X14.here hx rfl (pc0 := 33) (pc' := 40) rfl (hb hby d4_33) rfl ((if0 _ _).trans (teq hc15).1) (by decide) (by decide) ?_
        show SF p e below T14 m 40 #[vr r0] [] _
        refine XS.iconst X14.here hx rfl (hb hby d4_40) ?_
        show SF p e below T14 m 41 #[vr r0] [(.int 0)] _
        exact retN X14 hx (t := .boolean) Bd.returns (by simp) (hb hby d4_41) hr
      · show Qio__3w Z r0 ch0 ch1 ch2 G1 G3 h0 n0 _ T14.heap _
        rw [e14]
        exact ⟨own_b0 (by first | trivial | omega), N14, rfl⟩
    · skip
      have ohc15 : ¬ ((bI (((97 ≤ ch1.toInt ∧ ch1.toInt ≤ 122) ∨ (65 ≤ ch1.toInt ∧ ch1.toInt ≤ 90) ∨ (48 ≤ ch1.toInt ∧ ch1.toInt ≤ 57) ∨ ch1.toInt = 95) ∧ ((97 ≤ ch2.toInt ∧ ch2.toInt ≤ 122) ∨ (65 ≤ ch2.toInt ∧ ch2.toInt ≤ 90) ∨ (48 ≤ ch2.toInt ∧ ch2.toInt ≤ 57) ∨ ch2.toInt = 95))).toInt = 0) := own_neq.mp hc15
      obtain ⟨fs, hr, hrun, hended, hW, hsame⟩ := X14.leave (v := some (.int 1)) (fun h => by rw [Bd.returns] at h; cases h)
      refine ⟨_, _, pre0 _ (pre16 _ ?_), hrun, hended, _, _, rfl, ?_, ⟨_, rfl⟩, hW, hsame.mono (by decide) (by decide)⟩
      · skip
        show SF p e below T14 m 33 #[vr r0] [(.int (bI (((97 ≤ ch1.toInt ∧ ch1.toInt ≤ 122) ∨ (65 ≤ ch1.toInt ∧ ch1.toInt ≤ 90) ∨ (48 ≤ ch1.toInt ∧ ch1.toInt ≤ 57) ∨ ch1.toInt = 95) ∧ ((97 ≤ ch2.toInt ∧ ch2.toInt ≤ 122) ∨ (65 ≤ ch2.toInt ∧ ch2.toInt ≤ 90) ∨ (48 ≤ ch2.toInt ∧ ch2.toInt ≤ 57) ∨ ch2.toInt = 95))))] _
        refine XS.ifNo X14.here hx rfl (hb hby d4_33) rfl ((if0 _ _).trans (feq hc15).1) ?_
        show SF p e below T14 m 36 #[vr r0] [] _
        refine XS.iconst X14.here hx rfl (hb hby d4_36) ?_
        refine XS.goto X14.here hx rfl (pc0 := 37) (pc' := 41) rfl (hb hby d4_37) (by decide) (by decide) ?_
        show SF p e below T14 m 41 #[vr r0] [(.int 1)] _
        exact retN X14 hx (t := .boolean) Bd.returns (by simp) (hb hby d4_41) hr
      · show Qio__3w Z r0 ch0 ch1 ch2 G1 G3 h0 n0 _ T14.heap _
        rw [e14]
        exact ⟨own_b1 (by first | trivial | omega), N14, rfl⟩
def Qio_c_3 (Z : State) (r0 : Addr) (ch0 : Int32) (ch1 : Int32) (ch2 : Int32) (G1 : Int32) (G3 : Value) (h0 : Heap) (n0 : Nat) (v : Option Value) (h : Heap) (L : List Loc) : Prop := v = some (.int (bI (((97 ≤ ch0.toInt ∧ ch0.toInt ≤ 122) ∨ (48 ≤ ch0.toInt ∧ ch0.toInt ≤ 57)) ∧ ((97 ≤ ch1.toInt ∧ ch1.toInt ≤ 122) ∨ (65 ≤ ch1.toInt ∧ ch1.toInt ≤ 90) ∨ (48 ≤ ch1.toInt ∧ ch1.toInt ≤ 57) ∨ ch1.toInt = 95) ∧ ((97 ≤ ch2.toInt ∧ ch2.toInt ≤ 122) ∨ (65 ≤ ch2.toInt ∧ ch2.toInt ≤ 90) ∨ (48 ≤ ch2.toInt ∧ ch2.toInt ≤ 57) ∨ ch2.toInt = 95)))) ∧ Fr n0 L ∧ h = h0
theorem rmio_c_3 (l : Launch) (Z : State) (a0 : Array Value) (hw : ∀ d ∈ tables_1, d.before a0 Z = true) (ws : List Jvm.Cond) (r0 : Addr) (ch0 : Int32) (ch1 : Int32) (ch2 : Int32) (G1 : Int32) (G3 : Value) (h0 : Heap) (n0 : Nat) (Z0 : n0 ≤ h0.size) (O2 : sC Z h0 G1) (P5 : ¬ (G1 = (0 : Int32))) (O4 : sI Z h0 G3) (rG3 : G3.isRef = true) (OA : sA Z h0) (OH : sH Z h0) (OL : sL Z h0) (S0 : (OStr Z h0 r0 [ch0, ch1, ch2] ∨ OW Z h0 r0 (6 : Int32) [(.int (loB ch0)), (.int (hiB ch0)), (.int (loB ch1)), (.int (hiB ch1)), (.int (loB ch2)), (.int (hiB ch2))])) (hb_ch0 : 0 ≤ ch0.toInt ∧ ch0.toInt ≤ 65535) (hb_ch1 : 0 ≤ ch1.toInt ∧ ch1.toInt ≤ 65535) (hb_ch2 : 0 ≤ ch2.toInt ∧ ch2.toInt ≤ 65535) :
    MF l Z mN26 prog_38_method_5_code 1 (some .boolean) ws (rK 6 0 0 79) #[(.ref r0)] h0 (Qio_c_3 Z r0 ch0 ch1 ch2 G1 G3 h0 n0) := by
  rcases S0 with S0 | S0
  · exact rmio__3 l Z a0 hw ws r0 ch0 ch1 ch2 G1 G3 h0 n0 Z0 O2 P5 O4 rG3 S0
  · exact rmio__3w l Z a0 hw ws r0 ch0 ch1 ch2 G1 G3 h0 n0 Z0 O2 P5 O4 rG3 OA OH OL S0 hb_ch0 hb_ch1 hb_ch2
def Q0 (Z : State) (p0 : Int32) (p1 : Int32) (p2 : Int32) (p3 : Int32) (G1 : Int32) (G3 : Value) (h0 : Heap) (n0 : Nat) (v : Option Value) (h : Heap) (L : List Loc) : Prop := v = some (.int 1) ∧ Fr n0 L
set_option maxRecDepth 65536 in
set_option maxHeartbeats 40000000 in
theorem rm0 (l : Launch) (Z : State) (a0 : Array Value) (hw : ∀ d ∈ tables_1, d.before a0 Z = true) (ws : List Jvm.Cond) (p0 : Int32) (p1 : Int32) (p2 : Int32) (p3 : Int32) (G1 : Int32) (G3 : Value) (h0 : Heap) (n0 : Nat) (Z0 : n0 ≤ h0.size) (O2 : sC Z h0 G1) (P5 : ¬ (G1 = (0 : Int32))) (O4 : sI Z h0 G3) (rG3 : G3.isRef = true) (OA : sA Z h0) (OH : sH Z h0) (OL : sL Z h0) :
    MetFree l x (head1 (Jvm.Cond.code x code maxLocals ret :: ws) room_1) (fun a U => a = #[(.int p0), (.int p1), (.int p2), (.int p3)] ∧ Z.Warmed39 U.vm ∧ U.heap = h0 ∧ CHv Z consts_1 U.vm h0) (fun _ _ _ _ _ => True) (fun _ U o U' => ∃ v L, o = .returned v ∧ Q0 Z p0 p1 p2 p3 G1 G3 h0 n0 v U'.heap L ∧ CHr Z consts_1 U.vm U.heap U'.vm U'.heap ∧ ReturnedEndW U o U' L room_1.cells room_1.slots) := by
  refine MetFree.of_bodySF (plainFor_of_name pn_com_example_orql_orql_SyntaxIsObjectPinLaw) hisR ?_
  intro p e s m args below meth c s₁ Bd hml0 hP hK
  obtain ⟨rfl, hZ, hh, hH⟩ := hP
  have hx := Bd.exec
  have hby := Bd.bytes
  have hml : c.maxLocals = 11 := hml0
  have hown : s.vm.findClass "com/example/orql/orql/SyntaxIsObjectPinLaw" = some m.cls := findClass_of_methodNamed Bd.named
  have hnm := (name_of_methodNamed Bd.named Bd.method).1
  have X0 : Stand p l e room_1 (s.setVm s.vm) m #[(.int p0), (.int p1), (.int p2), (.int p3)] below meth c s₁ [] 0 0 := Stand.of_body Bd
  have e0 : s₁.heap = h0 := by rw [← hh, Bd.state]; rfl
  have N0 := Fr.nil n0
  have pre0 : ∀ t, SF p e below s₁ m 0 #[vi p0, vi p1, vi p2, vi p3, .unset, .unset, .unset, .unset, .unset, .unset, .unset] [] t → Steps p.tables e below (s₁.setTop (entryFrame m #[(.int p0), (.int p1), (.int p2), (.int p3)] maxLocals)) t := fun t k => castTop (ef_0 m p0 p1 p2 p3) k
  have preS : ∀ t, SF p e below s₁ m 0 #[vi p0, vi p1, vi p2, vi p3, .unset, .unset, .unset, .unset, .unset, .unset, .unset] [] t → SF p e below s₁ m 0 #[vi p0, vi p1, vi p2, vi p3, .unset, .unset, .unset, .unset, .unset, .unset, .unset] [] t := fun t k => k
  have hS0 : s.Since s.vm 0 := (State.WarmedH.refl s).since 0
  have hk0 : 0 ≤ h0.size := Nat.zero_le _
  have R0 : CHr Z consts_1 s.vm h0 s.vm h0 := CHr.refl hH
  have hEL : EW Z a0 consts_1 := own_ew hw
  have pre1 : ∀ t, SF p e below s₁ m 3 #[vi p0, vi p1, vi p2, vi p3, .unset, .unset, .unset, .unset, .unset, .unset, .unset] [(.int (p0 &&& (3 : Int32)))] t → SF p e below s₁ m 0 #[vi p0, vi p1, vi p2, vi p3, .unset, .unset, .unset, .unset, .unset, .unset, .unset] [] t := fun t k => preS t (by
    show SF p e below s₁ m 0 #[vi p0, vi p1, vi p2, vi p3, .unset, .unset, .unset, .unset, .unset, .unset, .unset] [] _
    refine XS.iloadN X0.here hx rfl (hb hby at_0) rfl ?_
    refine XS.iconst X0.here hx rfl (hb hby at_1) ?_
    refine XS.iand X0.here hx rfl (hb hby at_2) rfl ?_
    exact k)
  obtain ⟨q0, h_q0⟩ : ∃ z, z = (p0 &&& (3 : Int32)) := ⟨_, rfl⟩
  rw [← h_q0] at pre1
  have hm := c_mask p0 (3 : Int32) 2 (by decide) (by decide)
  rw [← h_q0] at hm
  have pre2 : ∀ t, SF p e below s₁ m 7 #[vi p0, vi p1, vi p2, vi p3, vi q0, .unset, .unset, .unset, .unset, .unset, .unset] [(.int (p1.toUInt32.toUInt16.toUInt32.toInt32))] t → SF p e below s₁ m 0 #[vi p0, vi p1, vi p2, vi p3, .unset, .unset, .unset, .unset, .unset, .unset, .unset] [] t := fun t k => pre1 t (by
    show SF p e below s₁ m 3 #[vi p0, vi p1, vi p2, vi p3, .unset, .unset, .unset, .unset, .unset, .unset, .unset] [(.int q0)] _
    refine XS.istore X0.here hx rfl (hb hby at_3) rfl (l' := #[vi p0, vi p1, vi p2, vi p3, vi q0, .unset, .unset, .unset, .unset, .unset, .unset]) rfl ?_
    refine XS.iloadN X0.here hx rfl (hb hby at_5) rfl ?_
    refine XS.i2c X0.here hx rfl (hb hby at_6) rfl ?_
    exact k)
  obtain ⟨u1, h_u1⟩ : ∃ z, z = (p1.toUInt32.toUInt16.toUInt32.toInt32) := ⟨_, rfl⟩
  rw [← h_u1] at pre2
  have hi1 := c_i2c p1
  rw [← h_u1] at hi1
  have hb_u1 : 0 ≤ u1.toInt ∧ u1.toInt ≤ 65535 := by omega
  have pre3 : ∀ t, SF p e below s₁ m 11 #[vi p0, vi p1, vi p2, vi p3, vi q0, vi u1, .unset, .unset, .unset, .unset, .unset] [(.int (p2.toUInt32.toUInt16.toUInt32.toInt32))] t → SF p e below s₁ m 0 #[vi p0, vi p1, vi p2, vi p3, .unset, .unset, .unset, .unset, .unset, .unset, .unset] [] t := fun t k => pre2 t (by
    show SF p e below s₁ m 7 #[vi p0, vi p1, vi p2, vi p3, vi q0, .unset, .unset, .unset, .unset, .unset, .unset] [(.int u1)] _
    refine XS.istore X0.here hx rfl (hb hby at_7) rfl (l' := #[vi p0, vi p1, vi p2, vi p3, vi q0, vi u1, .unset, .unset, .unset, .unset, .unset]) rfl ?_
    refine XS.iloadN X0.here hx rfl (hb hby at_9) rfl ?_
    refine XS.i2c X0.here hx rfl (hb hby at_10) rfl ?_
    exact k)
  obtain ⟨u2, h_u2⟩ : ∃ z, z = (p2.toUInt32.toUInt16.toUInt32.toInt32) := ⟨_, rfl⟩
  rw [← h_u2] at pre3
  have hi2 := c_i2c p2
  rw [← h_u2] at hi2
  have hb_u2 : 0 ≤ u2.toInt ∧ u2.toInt ≤ 65535 := by omega
  have pre4 : ∀ t, SF p e below s₁ m 15 #[vi p0, vi p1, vi p2, vi p3, vi q0, vi u1, vi u2, .unset, .unset, .unset, .unset] [(.int (p3.toUInt32.toUInt16.toUInt32.toInt32))] t → SF p e below s₁ m 0 #[vi p0, vi p1, vi p2, vi p3, .unset, .unset, .unset, .unset, .unset, .unset, .unset] [] t := fun t k => pre3 t (by
    show SF p e below s₁ m 11 #[vi p0, vi p1, vi p2, vi p3, vi q0, vi u1, .unset, .unset, .unset, .unset, .unset] [(.int u2)] _
    refine XS.istore X0.here hx rfl (hb hby at_11) rfl (l' := #[vi p0, vi p1, vi p2, vi p3, vi q0, vi u1, vi u2, .unset, .unset, .unset, .unset]) rfl ?_
    refine XS.iloadN X0.here hx rfl (hb hby at_13) rfl ?_
    refine XS.i2c X0.here hx rfl (hb hby at_14) rfl ?_
    exact k)
  obtain ⟨u3, h_u3⟩ : ∃ z, z = (p3.toUInt32.toUInt16.toUInt32.toInt32) := ⟨_, rfl⟩
  rw [← h_u3] at pre4
  have hi3 := c_i2c p3
  rw [← h_u3] at hi3
  have hb_u3 : 0 ≤ u3.toInt ∧ u3.toInt ≤ 65535 := by omega
  have pre5 : ∀ t, SF p e below s₁ m 17 #[vi p0, vi p1, vi p2, vi p3, vi q0, vi u1, vi u2, vi u3, .unset, .unset, .unset] [] t → SF p e below s₁ m 0 #[vi p0, vi p1, vi p2, vi p3, .unset, .unset, .unset, .unset, .unset, .unset, .unset] [] t := fun t k => pre4 t (by
    show SF p e below s₁ m 15 #[vi p0, vi p1, vi p2, vi p3, vi q0, vi u1, vi u2, .unset, .unset, .unset, .unset] [(.int u3)] _
    refine XS.istore X0.here hx rfl (hb hby at_15) rfl (l' := #[vi p0, vi p1, vi p2, vi p3, vi q0, vi u1, vi u2, vi u3, .unset, .unset, .unset]) rfl ?_
    exact k)
  rcases (show q0.toInt = 0 ∨ q0.toInt = 1 ∨ q0.toInt = 2 ∨ q0.toInt = 3 by omega) with hk_q0 | hk_q0 | hk_q0 | hk_q0
  · skip
    obtain rfl : q0 = (0 : Int32) := own_eq.mpr hk_q0
    have hc6 : (0 : Int32) = (0 : Int32) := by decide
    obtain ⟨T7, h7, k7, X7, e7, E7, A7, st7⟩ := newP X0 hx hZ (tw hw 0 rfl) e0 (g := (mkF m 23 #[vi p0, vi p1, vi p2, vi p3, vi 0, vi u1, vi u2, vi u3, .unset, .unset, .unset] [(.int 0)])) rfl (hb hby at_23) rfl (by decide) (cap := 0) (by decide) (by decide) (by decide) (by decide)
    obtain ⟨b7, g7⟩ : ∃ z, z = h0.size := ⟨_, rfl⟩
    rw [← g7] at A7 st7
    have g_b7 : n0 ≤ b7 := Nat.le_trans Z0 (Nat.le_of_eq g7.symm)
    have Z7 : n0 ≤ h7.size := Nat.le_trans Z0 E7.1
    have hk7 : 0 ≤ h7.size := Nat.le_trans hk0 E7.1
    have R7 := R0.trans (CHr.ext E7 R0.1)
    have S7_b7 := Safe.ext E7 R0.1 (Safe.new (x := b7) (Nat.le_of_eq g7.symm))
    have c8 : sC Z h7 G1 := O2.ext E7
    have c9 : sI Z h7 G3 := O4.ext E7
    have c10 : sA Z h7 := OA.ext E7
    have c11 : sH Z h7 := OH.ext E7
    have c12 : sL Z h7 := OL.ext E7
    have V7 : Arv Z h7 b7 k7 .char (0 : Int32) [] (.int 0) := (Arv.new A7 (by decide))
    obtain ⟨T13, h13, X13, e13, E13, A13, D13, -, st13⟩ := newO X7 hx hZ hown (tw hw 1 rfl) (tw hw 2 rfl) (tw hw 3 rfl) e7 (g := (mkF m 93 #[vi p0, vi p1, vi p2, vi p3, vi 0, vi u1, vi u2, vi u3, vr b7, .unset, .unset] [])) rfl (hb hby at_93) (by decide) (by decide)
    obtain ⟨b13, g13⟩ : ∃ z, z = h7.size := ⟨_, rfl⟩
    rw [← g13] at A13 D13 st13
    have g_b13 : n0 ≤ b13 := Nat.le_trans Z7 (Nat.le_of_eq g13.symm)
    have Z13 : n0 ≤ h13.size := Nat.le_trans Z7 E13.1
    have hk13 : 0 ≤ h13.size := Nat.le_trans hk7 E13.1
    have R13 := R7.trans (CHr.ext E13 R7.1)
    have S13_b7 := Safe.ext E13 R7.1 S7_b7
    have S13_b13 := Safe.ext E13 R7.1 (Safe.new (x := b13) (Nat.le_of_eq g13.symm))
    have ne_b7_b13 : b7 ≠ b13 := Nat.ne_of_lt (Nat.lt_of_lt_of_le V7.lt (Nat.le_of_eq g13.symm))
    have c14 : sC Z h13 G1 := c8.ext E13
    have c15 : sI Z h13 G3 := c9.ext E13
    have c16 : sA Z h13 := c10.ext E13
    have c17 : sH Z h13 := c11.ext E13
    have c18 : sL Z h13 := c12.ext E13
    have c19 : Arv Z h13 b7 k7 .char (0 : Int32) [] (.int 0) := V7.ext E13
    have F13_value : Fld Z h13 b13 "java/lang/String" "value" "[B" .null := D13 (Or.inr (tw hw 16 rfl)) (ty := (.array .byte)) (by decide)
    have F13_coder : Fld Z h13 b13 "java/lang/String" "coder" "B" (.int 0) := D13 (Or.inr (tw hw 17 rfl)) (ty := .byte) (by decide)
    obtain ⟨_, _, ⟨T20, L20, k20, n20⟩, -, X20, hs20, hg20, ⟨Lc20, hQ20, l20, y20, z20, rq20⟩, st20⟩ := X13.specialBackS hx (y := mN7) rfl hown (mvT hZ (tw hw 4 rfl)) (mvT hZ (tw hw 5 rfl)) (mvT hZ (tw hw 6 rfl)) (by decide) (backOfSH (W := 1) (rm1e l Z a0 hw [] b13 b7 k7 h13 n0 Z13 A13 F13_value F13_coder g_b13 c19) hZ (tw hw 6 rfl) (tw hw 3 rfl) (by decide) (by decide) hEL R13.1) (g := (mkF m 99 #[vi p0, vi p1, vi p2, vi p3, vi 0, vi u1, vi u2, vi u3, vr b7, .unset, .unset] [(.ref b7), (.ref b13), (.ref b13)])) rfl (by rw [hml]; rfl) (Steps.refl _) (a := b13) (argsL := [(.ref b7)]) (rest := [(.ref b13)]) (lenOf pd_18 rfl) rfl (by show 2 * 0 + _ ≤ _; exact Nat.le_of_eq rfl) (hb hby at_99) (fun _ _ => ⟨rfl, e13, (by decide : 2 + 4 ≤ _), (by decide : 4 + 8 ≤ _)⟩)
    dsimp only [Pt.U, Pt.locs, Pt.cells, Pt.slots] at X20 l20 y20 z20 st20 hQ20
    subst l20 y20 z20
    have X20 : Stand p l e room_1 (s.setVm T20.vm) m #[(.int p0), (.int p1), (.int p2), (.int p3)] below meth c T20 _ _ _ := X20
    have hS20 := foldS hS0 (by rw [e13]; exact hk13) hs20 hg20
    have hZ20 : Z.Warmed39 (s.setVm T20.vm).vm := State.Warmed39.trans (t := (s.setVm s.vm)) hZ hs20.1
    have hown20 : (s.setVm T20.vm).vm.findClass "com/example/orql/orql/SyntaxIsObjectPinLaw" = some m.cls := by rw [show (s.setVm T20.vm).vm = T20.vm from rfl, hs20.1.alike.findClass]; exact hown
    have hk20 : T20.heap.size ≤ T20.heap.size := Nat.le_refl _
    dsimp only [Pt.U] at rq20
    have R20 := R13.trans rq20
    have S20_b7 := rq20.safe c19.lt S13_b7
    have S20_b13 := rq20.safe A13.lt S13_b13
    obtain ⟨rfl, Nq20, Kq20, Eq20, tq20, kq20', Fv20, Fc20, Yq20⟩ := hQ20
    have N20 := Fr.app N0 Nq20
    have Z20 : n0 ≤ T20.heap.size := Nat.le_trans Z13 Kq20.1
    have c21 : sC Z T20.heap G1 := own_sk c14 Kq20 A13
    have c22 : sI Z T20.heap G3 := own_sk c15 Kq20 A13
    have c23 : sA Z T20.heap := own_sk c16 Kq20 A13
    have c24 : sH Z T20.heap := own_sk c17 Kq20 A13
    have c25 : sL Z T20.heap := own_sk c18 Kq20 A13
    have hc26 : (0 : Int32) < (1 : Int32) := by decide
    have S27 : OStr Z T20.heap b13 [] := ⟨tq20, kq20', Eq20, Fv20, Fc20, Yq20, by decide⟩
    obtain ⟨t28, k28, E28, V28, C28, A28, hp28⟩ := id S27
    have hcd28 := own_cod hp28
    have hbd28 := own_up _ hp28
    obtain ⟨_, _, ⟨T29, L29, k29, n29⟩, -, X29, ⟨Lc29, hQ29, l29, y29, z29⟩, st29⟩ := Jvm.LawKit.callS X20 hx (y := mN26) hown20 (mvT hZ20 (tw hw 22 rfl)) (mvT hZ20 (tw hw 23 rfl)) (mvT hZ20 (tw hw 24 rfl)) (mvT hZ20 (tw hw 25 rfl)) (by decide) (backOf (W := 0) (rmio__0 l Z a0 hw [] b13  G1 G3 T20.heap n0 Z20 c21 P5 c22 rG3 S27) hZ20 (tw hw 25 rfl) (tw hw 24 rfl) (by decide) (by decide)) (g := (mkF m 155 #[vi p0, vi p1, vi p2, vi p3, vi 0, vi u1, vi u2, vi u3, vr b7, vr b13, vi 0] [(.ref b13)])) rfl (by rw [hml]; rfl) (argsL := [(.ref b13)]) (rest := []) (lenOf pd_17 rfl) rfl (by show 2 * 0 + _ ≤ _; exact Nat.le_of_eq rfl) (hb hby at_155) (fun _ _ => ⟨rfl, rfl, (by decide : 6 + 0 ≤ _), (by decide : 12 + 0 ≤ _)⟩)
    dsimp only [Pt.U, Pt.locs, Pt.cells, Pt.slots] at X29 l29 y29 z29 st29 hQ29
    subst l29 y29 z29
    obtain ⟨rfl, Nq29, e29⟩ := hQ29
    have N29 := Fr.app N20 Nq29
    have t29 := own_bt (P := False)
    have hc30 : (bI (False)) = (0 : Int32) := by simp [bI]
    have ohc30 : (bI (False)).toInt = 0 := own_eq.mp hc30
    obtain ⟨fs, hr, hrun, hended, hR⟩ := X29.leaveW hS20 (by rw [e29]; exact hk20) (v := some (.int 1)) (fun h => by rw [Bd.returns] at h; cases h)
    refine ⟨_, _, pre0 _ (pre5 _ ?_), hrun, hended, _, _, rfl, ?_, (by rw [hh]; exact (own_ra (T := T29) R20 (by exact e29) (CHv.at X29 hZ20 hEL R20.1) : CHr Z consts_1 s.vm h0 T29.vm T29.heap)), own_rew hR (by decide) (by decide)⟩
    · skip
      show SF p e below s₁ m 17 #[vi p0, vi p1, vi p2, vi p3, vi 0, vi u1, vi u2, vi u3, .unset, .unset, .unset] [] _
      refine XS.iload X0.here hx rfl (hb hby at_17) rfl ?_
      refine XS.ifNo X0.here hx rfl (hb hby at_19) rfl ((if0 _ _).trans (teq hc6).2) ?_
      refine XS.iconst X0.here hx rfl (hb hby at_22) ?_
      refine st7 _ ?_
      refine XS.astore X7.here hx rfl (hb hby at_25) rfl rfl (l' := #[vi p0, vi p1, vi p2, vi p3, vi 0, vi u1, vi u2, vi u3, vr b7, .unset, .unset]) rfl ?_
      show SF p e below T7 m 27 #[vi p0, vi p1, vi p2, vi p3, vi 0, vi u1, vi u2, vi u3, vr b7, .unset, .unset] [] _
      refine XS.goto X7.here hx rfl (pc0 := 27) (pc' := 93) rfl (hb hby at_27) (by decide) (by decide) ?_
      refine st13 _ ?_
      refine XS.dup X13.here hx rfl (hb hby at_96) rfl rfl ?_
      refine XS.aload X13.here hx rfl (hb hby at_97) rfl rfl ?_
      refine st20.trans ?_
      show SF p e below T20 m 102 #[vi p0, vi p1, vi p2, vi p3, vi 0, vi u1, vi u2, vi u3, vr b7, .unset, .unset] [(.ref b13)] _
      refine XS.astore X20.here hx rfl (hb hby at_102) rfl rfl (l' := #[vi p0, vi p1, vi p2, vi p3, vi 0, vi u1, vi u2, vi u3, vr b7, vr b13, .unset]) rfl ?_
      refine XS.iload X20.here hx rfl (hb hby at_104) rfl ?_
      refine XS.iconst X20.here hx rfl (hb hby at_106) ?_
      refine XS.icmpYes X20.here hx rfl (pc0 := 107) (pc' := 150) rfl (hb hby at_107) rfl (tlt hc26).1 (by decide) (by decide) ?_
      refine XS.iconst X20.here hx rfl (hb hby at_150) ?_
      show SF p e below T20 m 151 #[vi p0, vi p1, vi p2, vi p3, vi 0, vi u1, vi u2, vi u3, vr b7, vr b13, .unset] [(.int 0)] _
      refine XS.istore X20.here hx rfl (hb hby at_151) rfl (l' := #[vi p0, vi p1, vi p2, vi p3, vi 0, vi u1, vi u2, vi u3, vr b7, vr b13, vi 0]) rfl ?_
      refine XS.aload X20.here hx rfl (hb hby at_153) rfl rfl ?_
      refine st29 _ ?_
      refine XS.iload X29.here hx rfl (hb hby at_158) rfl ?_
      refine XS.icmpNo X29.here hx rfl (hb hby at_160) rfl (teq hc30).2 ?_
      show SF p e below T29 m 163 #[vi p0, vi p1, vi p2, vi p3, vi 0, vi u1, vi u2, vi u3, vr b7, vr b13, vi 0] [] _
      refine XS.iconst X29.here hx rfl (hb hby at_163) ?_
      refine XS.goto X29.here hx rfl (pc0 := 164) (pc' := 168) rfl (hb hby at_164) (by decide) (by decide) ?_
      show SF p e below T29 m 168 #[vi p0, vi p1, vi p2, vi p3, vi 0, vi u1, vi u2, vi u3, vr b7, vr b13, vi 0] [(.int 1)] _
      exact retN X29 hx (t := .boolean) Bd.returns (by simp) (hb hby at_168) hr
    · show Q0 Z p0 p1 p2 p3 G1 G3 h0 n0 _ T29.heap _
      rw [e29]
      exact ⟨rfl, N29⟩
  · skip
    obtain rfl : q0 = (1 : Int32) := own_eq.mpr hk_q0
    have hc31 : ¬ ((1 : Int32) = (0 : Int32)) := by decide
    have hc32 : (1 : Int32) = (1 : Int32) := by decide
    obtain ⟨T33, h33, k33, X33, e33, E33, A33, st33⟩ := newP X0 hx hZ (tw hw 0 rfl) e0 (g := (mkF m 37 #[vi p0, vi p1, vi p2, vi p3, vi 1, vi u1, vi u2, vi u3, .unset, .unset, .unset] [(.int 1)])) rfl (hb hby at_37) rfl (by decide) (cap := 1) (by decide) (by decide) (by decide) (by decide)
    obtain ⟨b33, g33⟩ : ∃ z, z = h0.size := ⟨_, rfl⟩
    rw [← g33] at A33 st33
    have g_b33 : n0 ≤ b33 := Nat.le_trans Z0 (Nat.le_of_eq g33.symm)
    have Z33 : n0 ≤ h33.size := Nat.le_trans Z0 E33.1
    have hk33 : 0 ≤ h33.size := Nat.le_trans hk0 E33.1
    have R33 := R0.trans (CHr.ext E33 R0.1)
    have S33_b33 := Safe.ext E33 R0.1 (Safe.new (x := b33) (Nat.le_of_eq g33.symm))
    have c34 : sC Z h33 G1 := O2.ext E33
    have c35 : sI Z h33 G3 := O4.ext E33
    have c36 : sA Z h33 := OA.ext E33
    have c37 : sH Z h33 := OH.ext E33
    have c38 : sL Z h33 := OL.ext E33
    have V33 : Arv Z h33 b33 k33 .char (1 : Int32) [(.int 0)] (.int 0) := (Arv.new A33 (by decide)).pad (pad_rep [] (.int 0) 1)
    obtain ⟨cl39, Ar39, q39, Sz39, Nn39, Hh39, Gg39⟩ := id V33
    have hin39 : ¬ ((0 : Int32) < 0 ∨ cl39.slots.size ≤ ((0 : Int32)).toNatClampNeg) := inb_of Sz39 ⟨by decide, by decide⟩
    obtain ⟨T40, h40, X40, e40, W40, st40⟩ := stC X33 hx hZ e33 Ar39 (j := (0 : Int32)) hin39 (g := (mkF m 43 #[vi p0, vi p1, vi p2, vi p3, vi 1, vi u1, vi u2, vi u3, .unset, .unset, .unset] [(.int u1), (.int 0), (.ref b33), (.ref b33)])) rfl rfl (hb hby at_43)
    have V40 : Arv Z h40 b33 k33 .char (1 : Int32) [(.int (nar .char u1))] (.int 0) := Arv.set Ar39 q39 Sz39 Nn39 Hh39 Gg39 (fits_nar_char _) W40 0 rfl (Nat.le_of_ble_eq_true rfl)
    have N40 := Fr.snoc X40 N0 g_b33
    have Z40 : n0 ≤ h40.size := Nat.le_trans Z33 (Keep.of_wr W40).1
    have hk40 : 0 ≤ h40.size := Nat.le_trans hk33 (Keep.of_wr W40).1
    have R40 := R33.trans (CHr.wr W40 S33_b33 R33.1)
    have S40_b33 := Safe.wr W40 S33_b33 R33.1 S33_b33
    have c41 : sC Z h40 G1 := c34.wr W40
    have c42 : sI Z h40 G3 := c35.wr W40
    have c43 : sA Z h40 := c36.wr W40
    have c44 : sH Z h40 := c37.wr W40
    have c45 : sL Z h40 := c38.wr W40
    have pre46 : ∀ t, SF p e below T40 m 93 #[vi p0, vi p1, vi p2, vi p3, vi 1, vi u1, vi u2, vi u3, vr b33, .unset, .unset] [] t → SF p e below s₁ m 0 #[vi p0, vi p1, vi p2, vi p3, .unset, .unset, .unset, .unset, .unset, .unset, .unset] [] t := fun t k => pre5 t (by
      show SF p e below s₁ m 17 #[vi p0, vi p1, vi p2, vi p3, vi 1, vi u1, vi u2, vi u3, .unset, .unset, .unset] [] _
      refine XS.iload X0.here hx rfl (hb hby at_17) rfl ?_
      refine XS.ifYes X0.here hx rfl (pc0 := 19) (pc' := 30) rfl (hb hby at_19) rfl ((if0 _ _).trans (feq hc31).2) (by decide) (by decide) ?_
      refine XS.iload X0.here hx rfl (hb hby at_30) rfl ?_
      refine XS.iconst X0.here hx rfl (hb hby at_32) ?_
      refine XS.icmpNo X0.here hx rfl (hb hby at_33) rfl (teq hc32).2 ?_
      show SF p e below s₁ m 36 #[vi p0, vi p1, vi p2, vi p3, vi 1, vi u1, vi u2, vi u3, .unset, .unset, .unset] [] _
      refine XS.iconst X0.here hx rfl (hb hby at_36) ?_
      refine st33 _ ?_
      refine XS.dup X33.here hx rfl (hb hby at_39) rfl rfl ?_
      refine XS.iconst X33.here hx rfl (hb hby at_40) ?_
      refine XS.iload X33.here hx rfl (hb hby at_41) rfl ?_
      show SF p e below T33 m 43 #[vi p0, vi p1, vi p2, vi p3, vi 1, vi u1, vi u2, vi u3, .unset, .unset, .unset] [(.int u1), (.int 0), (.ref b33), (.ref b33)] _
      refine st40 _ ?_
      refine XS.astore X40.here hx rfl (hb hby at_44) rfl rfl (l' := #[vi p0, vi p1, vi p2, vi p3, vi 1, vi u1, vi u2, vi u3, vr b33, .unset, .unset]) rfl ?_
      refine XS.goto X40.here hx rfl (pc0 := 46) (pc' := 93) rfl (hb hby at_46) (by decide) (by decide) ?_
      exact k)
    obtain ⟨bj, T47, L47, hh47, X47, e47, N47, Z47, hk47, R47, S47, c47_0, c47_1, c47_2, c47_3, c47_4, pre47⟩ : ∃ (bj : Addr) (T47 : State) (L47 : List Loc) (hh47 : Heap), Stand p l e room_1 (s.setVm s.vm) m #[(.int p0), (.int p1), (.int p2), (.int p3)] below meth c T47 L47 4 8 ∧ T47.heap = hh47 ∧ Fr n0 L47 ∧ n0 ≤ hh47.size ∧ 0 ≤ hh47.size ∧ CHr Z consts_1 s.vm h0 s.vm hh47 ∧ (OStr Z hh47 bj [u1] ∨ OW Z hh47 bj (2 : Int32) [(.int (loB u1)), (.int (hiB u1))]) ∧ sC Z hh47 G1 ∧ sI Z hh47 G3 ∧ sA Z hh47 ∧ sH Z hh47 ∧ sL Z hh47 ∧ ∀ t, SF p e below T47 m 104 #[vi p0, vi p1, vi p2, vi p3, vi 1, vi u1, vi u2, vi u3, vr b33, vr bj, .unset] [] t → SF p e below s₁ m 0 #[vi p0, vi p1, vi p2, vi p3, .unset, .unset, .unset, .unset, .unset, .unset, .unset] [] t := by
      rcases own_wide1 u1 with hw_u1 | hW
      · skip
        have hc_u1 : 0 ≤ u1.toInt ∧ u1.toInt ≤ 255 := ⟨hb_u1.1, (show u1.toInt ≤ 255 from own_nlt.mp hw_u1)⟩
        obtain ⟨T48, h48, X48, e48, E48, A48, D48, -, st48⟩ := newO X40 hx hZ hown (tw hw 1 rfl) (tw hw 2 rfl) (tw hw 3 rfl) e40 (g := (mkF m 93 #[vi p0, vi p1, vi p2, vi p3, vi 1, vi u1, vi u2, vi u3, vr b33, .unset, .unset] [])) rfl (hb hby at_93) (by decide) (by decide)
        obtain ⟨b48, g48⟩ : ∃ z, z = h40.size := ⟨_, rfl⟩
        rw [← g48] at A48 D48 st48
        have g_b48 : n0 ≤ b48 := Nat.le_trans Z40 (Nat.le_of_eq g48.symm)
        have Z48 : n0 ≤ h48.size := Nat.le_trans Z40 E48.1
        have hk48 : 0 ≤ h48.size := Nat.le_trans hk40 E48.1
        have R48 := R40.trans (CHr.ext E48 R40.1)
        have S48_b33 := Safe.ext E48 R40.1 S40_b33
        have S48_b48 := Safe.ext E48 R40.1 (Safe.new (x := b48) (Nat.le_of_eq g48.symm))
        have ne_b33_b48 : b33 ≠ b48 := Nat.ne_of_lt (Nat.lt_of_lt_of_le V40.lt (Nat.le_of_eq g48.symm))
        have c49 : sC Z h48 G1 := c41.ext E48
        have c50 : sI Z h48 G3 := c42.ext E48
        have c51 : sA Z h48 := c43.ext E48
        have c52 : sH Z h48 := c44.ext E48
        have c53 : sL Z h48 := c45.ext E48
        have c54 : Arv Z h48 b33 k33 .char (1 : Int32) [(.int (nar .char u1))] (.int 0) := V40.ext E48
        have F48_value : Fld Z h48 b48 "java/lang/String" "value" "[B" .null := D48 (Or.inr (tw hw 16 rfl)) (ty := (.array .byte)) (by decide)
        have F48_coder : Fld Z h48 b48 "java/lang/String" "coder" "B" (.int 0) := D48 (Or.inr (tw hw 17 rfl)) (ty := .byte) (by decide)
        have hp55 : ∀ c ∈ ([nar .char u1] : List Int32), ¬ c < 0 ∧ ¬ (255 : Int32) < c := by
          intro c hc
          simp only [List.mem_cons, List.not_mem_nil, or_false] at hc
          rcases hc with rfl
          · exact own_pc hc_u1
        obtain ⟨_, _, ⟨T55, L55, k55, n55⟩, -, X55, ⟨Lc55, hQ55, l55, y55, z55⟩, st55⟩ := X48.specialBack hx (y := mN7) rfl hown (mvT hZ (tw hw 4 rfl)) (mvT hZ (tw hw 5 rfl)) (mvT hZ (tw hw 6 rfl)) (by decide) (StrChars.Road.backV (W := 1) hZ (fun d hd => hw d (own_wS d hd)) (kI := 4) (tw hw 2 rfl) (cs := ([nar .char u1] : List Int32)) (bs := ([nar .char u1] : List Int32).map (fun c => c.toInt8.toInt32)) (n := 1) g_b48 Z48 A48 F48_value F48_coder c54 c49 P5 rfl rfl (by decide) (by decide) hp55 rfl (by decide) (by decide)) (g := (mkF m 99 #[vi p0, vi p1, vi p2, vi p3, vi 1, vi u1, vi u2, vi u3, vr b33, .unset, .unset] [(.ref b33), (.ref b48), (.ref b48)])) rfl (by rw [hml]; rfl) (Steps.refl _) (a := b48) (argsL := [(.ref b33)]) (rest := [(.ref b48)]) (lenOf pd_18 rfl) rfl (by show 2 * 0 + _ ≤ _; exact Nat.le_of_eq rfl) (hb hby at_99) (fun _ _ => ⟨rfl, e48, (by decide : 2 + 1 ≤ _), (by decide : 5 + 1 ≤ _)⟩)
        dsimp only [Pt.U, Pt.locs, Pt.cells, Pt.slots] at X55 l55 y55 z55 st55 hQ55
        subst l55 y55 z55
        obtain ⟨rfl, Nq55, Kq55, Eq55, Cq55, tq55, kq55', gq55, -, -, Vq55, Aq55⟩ := hQ55
        have N55 := Fr.app N40 Nq55
        have Z55 : n0 ≤ T55.heap.size := Nat.le_trans Z48 Kq55.1
        have hk55 : 0 ≤ T55.heap.size := Nat.le_trans hk48 Kq55.1
        have R55 := R48.trans (CHr.keep Kq55 (fun x hx => by cases List.mem_singleton.mp hx; exact S48_b48) R48.1)
        have S55_b33 := Safe.keep Kq55 (fun x hx => by cases List.mem_singleton.mp hx; exact S48_b48) R48.1 S48_b33
        have S55_b48 := Safe.keep Kq55 (fun x hx => by cases List.mem_singleton.mp hx; exact S48_b48) R48.1 S48_b48
        have S55 : OStr Z T55.heap b48 [nar .char u1] := ⟨tq55, kq55', Eq55, Vq55, Cq55, Aq55, hp55⟩
        rw [own_narc hc_u1] at S55
        have c56 : sC Z T55.heap G1 := own_sk c49 Kq55 A48
        have c57 : sI Z T55.heap G3 := own_sk c50 Kq55 A48
        have c58 : sA Z T55.heap := own_sk c51 Kq55 A48
        have c59 : sH Z T55.heap := own_sk c52 Kq55 A48
        have c60 : sL Z T55.heap := own_sk c53 Kq55 A48
        refine ⟨b48, T55, _, T55.heap, X55.more (by decide) (by decide), rfl, N55, Z55, hk55, R55, Or.inl S55, c56, c57, c58, c59, c60, fun t k => pre46 t ?_⟩
        show SF p e below T40 m 93 #[vi p0, vi p1, vi p2, vi p3, vi 1, vi u1, vi u2, vi u3, vr b33, .unset, .unset] [] _
        refine st48 _ ?_
        refine XS.dup X48.here hx rfl (hb hby at_96) rfl rfl ?_
        refine XS.aload X48.here hx rfl (hb hby at_97) rfl rfl ?_
        refine st55.trans ?_
        refine XS.astore X55.here hx rfl (hb hby at_102) rfl rfl (l' := #[vi p0, vi p1, vi p2, vi p3, vi 1, vi u1, vi u2, vi u3, vr b33, vr b48, .unset]) rfl ?_
        exact k
      · skip
        have Vr61 : Arv Z h40 b33 k33 .char (1 : Int32) [(.int u1)] (.int 0) := by
          have q := V40
          rw [own_narcW hb_u1] at q
          exact q
        obtain ⟨T62, h62, X62, e62, E62, A62, D62, -, st62⟩ := newO X40 hx hZ hown (tw hw 1 rfl) (tw hw 2 rfl) (tw hw 3 rfl) e40 (g := (mkF m 93 #[vi p0, vi p1, vi p2, vi p3, vi 1, vi u1, vi u2, vi u3, vr b33, .unset, .unset] [])) rfl (hb hby at_93) (by decide) (by decide)
        obtain ⟨b62, g62⟩ : ∃ z, z = h40.size := ⟨_, rfl⟩
        rw [← g62] at A62 D62 st62
        have g_b62 : n0 ≤ b62 := Nat.le_trans Z40 (Nat.le_of_eq g62.symm)
        have Z62 : n0 ≤ h62.size := Nat.le_trans Z40 E62.1
        have hk62 : 0 ≤ h62.size := Nat.le_trans hk40 E62.1
        have R62 := R40.trans (CHr.ext E62 R40.1)
        have S62_b33 := Safe.ext E62 R40.1 S40_b33
        have S62_b62 := Safe.ext E62 R40.1 (Safe.new (x := b62) (Nat.le_of_eq g62.symm))
        have ne_b33_b62 : b33 ≠ b62 := Nat.ne_of_lt (Nat.lt_of_lt_of_le Vr61.lt (Nat.le_of_eq g62.symm))
        have c63 : sC Z h62 G1 := c41.ext E62
        have c64 : sI Z h62 G3 := c42.ext E62
        have c65 : sA Z h62 := c43.ext E62
        have c66 : sH Z h62 := c44.ext E62
        have c67 : sL Z h62 := c45.ext E62
        have c68 : Arv Z h62 b33 k33 .char (1 : Int32) [(.int u1)] (.int 0) := Vr61.ext E62
        have F62_value : Fld Z h62 b62 "java/lang/String" "value" "[B" .null := D62 (Or.inr (tw hw 16 rfl)) (ty := (.array .byte)) (by decide)
        have F62_coder : Fld Z h62 b62 "java/lang/String" "coder" "B" (.int 0) := D62 (Or.inr (tw hw 17 rfl)) (ty := .byte) (by decide)
        obtain ⟨_, _, ⟨T69, L69, k69, n69⟩, -, X69, ⟨Lc69, hQ69, l69, y69, z69⟩, st69⟩ := X62.specialBack hx (y := mN7) rfl hown (mvT hZ (tw hw 4 rfl)) (mvT hZ (tw hw 5 rfl)) (mvT hZ (tw hw 6 rfl)) (by decide) (backOf (W := 1) (rmi2_1 l Z a0 hw [] b62 b33 k33 u1 G1 G3 h62 n0 Z62 A62 F62_value F62_coder g_b62 c68 hb_u1 hW c63 P5 c64 rG3 c65 c66 c67) hZ (tw hw 6 rfl) (tw hw 3 rfl) (by decide) (by decide)) (g := (mkF m 99 #[vi p0, vi p1, vi p2, vi p3, vi 1, vi u1, vi u2, vi u3, vr b33, .unset, .unset] [(.ref b33), (.ref b62), (.ref b62)])) rfl (by rw [hml]; rfl) (Steps.refl _) (a := b62) (argsL := [(.ref b33)]) (rest := [(.ref b62)]) (lenOf pd_18 rfl) rfl (by show 2 * 0 + _ ≤ _; exact Nat.le_of_eq rfl) (hb hby at_99) (fun _ _ => ⟨rfl, e62, (by decide : 2 + 2 ≤ _), (by decide : 5 + 3 ≤ _)⟩)
        dsimp only [Pt.U, Pt.locs, Pt.cells, Pt.slots] at X69 l69 y69 z69 st69 hQ69
        subst l69 y69 z69
        obtain ⟨rfl, Nq69, Kq69, Sq69⟩ := hQ69
        have N69 := Fr.app N40 Nq69
        have Z69 : n0 ≤ T69.heap.size := Nat.le_trans Z62 Kq69.1
        have hk69 : 0 ≤ T69.heap.size := Nat.le_trans hk62 Kq69.1
        have R69 := R62.trans (CHr.keep Kq69 (fun x hx => by cases List.mem_singleton.mp hx; exact S62_b62) R62.1)
        have S69_b33 := Safe.keep Kq69 (fun x hx => by cases List.mem_singleton.mp hx; exact S62_b62) R62.1 S62_b33
        have S69_b62 := Safe.keep Kq69 (fun x hx => by cases List.mem_singleton.mp hx; exact S62_b62) R62.1 S62_b62
        have c70 : sC Z T69.heap G1 := own_sk c63 Kq69 A62
        have c71 : sI Z T69.heap G3 := own_sk c64 Kq69 A62
        have c72 : sA Z T69.heap := own_sk c65 Kq69 A62
        have c73 : sH Z T69.heap := own_sk c66 Kq69 A62
        have c74 : sL Z T69.heap := own_sk c67 Kq69 A62
        refine ⟨b62, T69, _, T69.heap, X69.more (by decide) (by decide), rfl, N69, Z69, hk69, R69, Or.inr Sq69, c70, c71, c72, c73, c74, fun t k => pre46 t ?_⟩
        show SF p e below T40 m 93 #[vi p0, vi p1, vi p2, vi p3, vi 1, vi u1, vi u2, vi u3, vr b33, .unset, .unset] [] _
        refine st62 _ ?_
        refine XS.dup X62.here hx rfl (hb hby at_96) rfl rfl ?_
        refine XS.aload X62.here hx rfl (hb hby at_97) rfl rfl ?_
        refine st69.trans ?_
        refine XS.astore X69.here hx rfl (hb hby at_102) rfl rfl (l' := #[vi p0, vi p1, vi p2, vi p3, vi 1, vi u1, vi u2, vi u3, vr b33, vr b62, .unset]) rfl ?_
        exact k
    obtain ⟨vx, T75, L75, rfl, X75, e75, N75, pre75⟩ : ∃ (vx : Int32) (T75 : State) (L75 : List Loc), (vx = bI (((97 ≤ u1.toInt ∧ u1.toInt ≤ 122) ∨ (48 ≤ u1.toInt ∧ u1.toInt ≤ 57)))) ∧ Stand p l e room_1 (s.setVm s.vm) m #[(.int p0), (.int p1), (.int p2), (.int p3)] below meth c T75 L75 4 8 ∧ T75.heap = hh47 ∧ Fr n0 L75 ∧ ∀ t, SF p e below T75 m 151 #[vi p0, vi p1, vi p2, vi p3, vi 1, vi u1, vi u2, vi u3, vr b33, vr bj, .unset] [(.int vx)] t → SF p e below s₁ m 0 #[vi p0, vi p1, vi p2, vi p3, .unset, .unset, .unset, .unset, .unset, .unset, .unset] [] t := by
      have hc76 : ¬ ((1 : Int32) < (1 : Int32)) := by decide
      obtain ⟨_, _, ⟨T77, L77, k77, n77⟩, -, X77, ⟨Lc77, hQ77, l77, y77, z77⟩, st77⟩ := Jvm.LawKit.callS X47 hx (y := mN4) hown (mvT hZ (tw hw 42 rfl)) (mvT hZ (tw hw 43 rfl)) (mvT hZ (tw hw 44 rfl)) (mvT hZ (tw hw 45 rfl)) (by decide) (backOf (W := 0) (rm9 l Z a0 hw [] u1  hh47 n0 Z47 ) hZ (tw hw 45 rfl) (tw hw 44 rfl) (by decide) (by decide)) (g := (mkF m 112 #[vi p0, vi p1, vi p2, vi p3, vi 1, vi u1, vi u2, vi u3, vr b33, vr bj, .unset] [(.int u1)])) rfl (by rw [hml]; rfl) (argsL := [(.int u1)]) (rest := []) (lenOf pd_0 rfl) rfl (by show 2 * 0 + _ ≤ _; exact Nat.le_of_eq rfl) (hb hby at_112) (fun _ _ => ⟨rfl, e47, (by decide : 4 + 0 ≤ _), (by decide : 8 + 0 ≤ _)⟩)
      dsimp only [Pt.U, Pt.locs, Pt.cells, Pt.slots] at X77 l77 y77 z77 st77 hQ77
      subst l77 y77 z77
      obtain ⟨rfl, Nq77, e77⟩ := hQ77
      have N77 := Fr.app N47 Nq77
      have t77 := own_bt (P := (97 ≤ u1.toInt ∧ u1.toInt ≤ 122) ∨ (48 ≤ u1.toInt ∧ u1.toInt ≤ 57))
      have pre79 : ∀ t, SF p e below T77 m 115 #[vi p0, vi p1, vi p2, vi p3, vi 1, vi u1, vi u2, vi u3, vr b33, vr bj, .unset] [(.int (bI ((97 ≤ u1.toInt ∧ u1.toInt ≤ 122) ∨ (48 ≤ u1.toInt ∧ u1.toInt ≤ 57))))] t → SF p e below s₁ m 0 #[vi p0, vi p1, vi p2, vi p3, .unset, .unset, .unset, .unset, .unset, .unset, .unset] [] t := fun t k => pre47 t (by
        show SF p e below T47 m 104 #[vi p0, vi p1, vi p2, vi p3, vi 1, vi u1, vi u2, vi u3, vr b33, vr bj, .unset] [] _
        refine XS.iload X47.here hx rfl (hb hby at_104) rfl ?_
        refine XS.iconst X47.here hx rfl (hb hby at_106) ?_
        refine XS.icmpNo X47.here hx rfl (hb hby at_107) rfl (flt hc76).1 ?_
        refine XS.iload X47.here hx rfl (hb hby at_110) rfl ?_
        refine st77 _ ?_
        exact k)
      by_cases hc78 : (bI ((97 ≤ u1.toInt ∧ u1.toInt ≤ 122) ∨ (48 ≤ u1.toInt ∧ u1.toInt ≤ 57))) = (0 : Int32)
      · skip
        have ohc78 : (bI ((97 ≤ u1.toInt ∧ u1.toInt ≤ 122) ∨ (48 ≤ u1.toInt ∧ u1.toInt ≤ 57))).toInt = 0 := own_eq.mp hc78
        refine ⟨(0 : Int32), T77, _, ?_, X77, e77, N77, fun t k => pre79 t ?_⟩
        · exact own_c0 (by omega)
        · skip
          show SF p e below T77 m 115 #[vi p0, vi p1, vi p2, vi p3, vi 1, vi u1, vi u2, vi u3, vr b33, vr bj, .unset] [(.int (bI ((97 ≤ u1.toInt ∧ u1.toInt ≤ 122) ∨ (48 ≤ u1.toInt ∧ u1.toInt ≤ 57))))] _
          refine XS.ifYes X77.here hx rfl (pc0 := 115) (pc' := 150) rfl (hb hby at_115) rfl ((if0 _ _).trans (teq hc78).1) (by decide) (by decide) ?_
          show SF p e below T77 m 150 #[vi p0, vi p1, vi p2, vi p3, vi 1, vi u1, vi u2, vi u3, vr b33, vr bj, .unset] [] _
          refine XS.iconst X77.here hx rfl (hb hby at_150) ?_
          exact k
      · skip
        have ohc78 : ¬ ((bI ((97 ≤ u1.toInt ∧ u1.toInt ≤ 122) ∨ (48 ≤ u1.toInt ∧ u1.toInt ≤ 57))).toInt = 0) := own_neq.mp hc78
        have hc80 : (1 : Int32) < (2 : Int32) := by decide
        have hc81 : (1 : Int32) < (3 : Int32) := by decide
        refine ⟨(1 : Int32), T77, _, ?_, X77, e77, N77, fun t k => pre79 t ?_⟩
        · exact own_c1 (by omega)
        · skip
          show SF p e below T77 m 115 #[vi p0, vi p1, vi p2, vi p3, vi 1, vi u1, vi u2, vi u3, vr b33, vr bj, .unset] [(.int (bI ((97 ≤ u1.toInt ∧ u1.toInt ≤ 122) ∨ (48 ≤ u1.toInt ∧ u1.toInt ≤ 57))))] _
          refine XS.ifNo X77.here hx rfl (hb hby at_115) rfl ((if0 _ _).trans (feq hc78).1) ?_
          show SF p e below T77 m 118 #[vi p0, vi p1, vi p2, vi p3, vi 1, vi u1, vi u2, vi u3, vr b33, vr bj, .unset] [] _
          refine XS.iload X77.here hx rfl (hb hby at_118) rfl ?_
          refine XS.iconst X77.here hx rfl (hb hby at_120) ?_
          refine XS.icmpYes X77.here hx rfl (pc0 := 121) (pc' := 132) rfl (hb hby at_121) rfl (tlt hc80).1 (by decide) (by decide) ?_
          refine XS.iload X77.here hx rfl (hb hby at_132) rfl ?_
          refine XS.iconst X77.here hx rfl (hb hby at_134) ?_
          show SF p e below T77 m 135 #[vi p0, vi p1, vi p2, vi p3, vi 1, vi u1, vi u2, vi u3, vr b33, vr bj, .unset] [(.int 3), (.int 1)] _
          refine XS.icmpYes X77.here hx rfl (pc0 := 135) (pc' := 146) rfl (hb hby at_135) rfl (tlt hc81).1 (by decide) (by decide) ?_
          refine XS.iconst X77.here hx rfl (hb hby at_146) ?_
          refine XS.goto X77.here hx rfl (pc0 := 147) (pc' := 151) rfl (hb hby at_147) (by decide) (by decide) ?_
          exact k
    obtain ⟨_, _, ⟨T82, L82, k82, n82⟩, -, X82, ⟨Lc82, hQ82, l82, y82, z82⟩, st82⟩ := Jvm.LawKit.callS X75 hx (y := mN26) hown (mvT hZ (tw hw 22 rfl)) (mvT hZ (tw hw 23 rfl)) (mvT hZ (tw hw 24 rfl)) (mvT hZ (tw hw 25 rfl)) (by decide) (backOf (W := 0) (rmio_c_1 l Z a0 hw [] bj u1 G1 G3 hh47 n0 Z47 c47_0 P5 c47_1 rG3 c47_2 c47_3 c47_4 S47 hb_u1) hZ (tw hw 25 rfl) (tw hw 24 rfl) (by decide) (by decide)) (g := (mkF m 155 #[vi p0, vi p1, vi p2, vi p3, vi 1, vi u1, vi u2, vi u3, vr b33, vr bj, vi (bI (((97 ≤ u1.toInt ∧ u1.toInt ≤ 122) ∨ (48 ≤ u1.toInt ∧ u1.toInt ≤ 57))))] [(.ref bj)])) rfl (by rw [hml]; rfl) (argsL := [(.ref bj)]) (rest := []) (lenOf pd_17 rfl) rfl (by show 2 * 0 + _ ≤ _; exact Nat.le_of_eq rfl) (hb hby at_155) (fun _ _ => ⟨rfl, e75, (by decide : 4 + 0 ≤ _), (by decide : 8 + 0 ≤ _)⟩)
    dsimp only [Pt.U, Pt.locs, Pt.cells, Pt.slots] at X82 l82 y82 z82 st82 hQ82
    subst l82 y82 z82
    obtain ⟨rfl, Nq82, e82⟩ := hQ82
    have N82 := Fr.app N75 Nq82
    have t82 := own_bt (P := ((97 ≤ u1.toInt ∧ u1.toInt ≤ 122) ∨ (48 ≤ u1.toInt ∧ u1.toInt ≤ 57)))
    have hc83 : (bI (((97 ≤ u1.toInt ∧ u1.toInt ≤ 122) ∨ (48 ≤ u1.toInt ∧ u1.toInt ≤ 57)))) = (bI (((97 ≤ u1.toInt ∧ u1.toInt ≤ 122) ∨ (48 ≤ u1.toInt ∧ u1.toInt ≤ 57)))) := rfl
    have ohc83 : (bI (((97 ≤ u1.toInt ∧ u1.toInt ≤ 122) ∨ (48 ≤ u1.toInt ∧ u1.toInt ≤ 57)))).toInt = (bI (((97 ≤ u1.toInt ∧ u1.toInt ≤ 122) ∨ (48 ≤ u1.toInt ∧ u1.toInt ≤ 57)))).toInt := own_eq.mp hc83
    obtain ⟨fs, hr, hrun, hended, hR⟩ := X82.leaveW hS0 (by rw [e82]; exact hk47) (v := some (.int 1)) (fun h => by rw [Bd.returns] at h; cases h)
    refine ⟨_, _, pre0 _ (pre75 _ ?_), hrun, hended, _, _, rfl, ?_, (by rw [hh]; exact (own_ra (T := T82) R47 (by exact e82) (CHv.at X82 hZ hEL R47.1) : CHr Z consts_1 s.vm h0 T82.vm T82.heap)), own_rew hR (by decide) (by decide)⟩
    · skip
      show SF p e below T75 m 151 #[vi p0, vi p1, vi p2, vi p3, vi 1, vi u1, vi u2, vi u3, vr b33, vr bj, .unset] [(.int (bI (((97 ≤ u1.toInt ∧ u1.toInt ≤ 122) ∨ (48 ≤ u1.toInt ∧ u1.toInt ≤ 57)))))] _
      refine XS.istore X75.here hx rfl (hb hby at_151) rfl (l' := #[vi p0, vi p1, vi p2, vi p3, vi 1, vi u1, vi u2, vi u3, vr b33, vr bj, vi (bI (((97 ≤ u1.toInt ∧ u1.toInt ≤ 122) ∨ (48 ≤ u1.toInt ∧ u1.toInt ≤ 57))))]) rfl ?_
      refine XS.aload X75.here hx rfl (hb hby at_153) rfl rfl ?_
      refine st82 _ ?_
      refine XS.iload X82.here hx rfl (hb hby at_158) rfl ?_
      refine XS.icmpNo X82.here hx rfl (hb hby at_160) rfl (teq hc83).2 ?_
      show SF p e below T82 m 163 #[vi p0, vi p1, vi p2, vi p3, vi 1, vi u1, vi u2, vi u3, vr b33, vr bj, vi (bI (((97 ≤ u1.toInt ∧ u1.toInt ≤ 122) ∨ (48 ≤ u1.toInt ∧ u1.toInt ≤ 57))))] [] _
      refine XS.iconst X82.here hx rfl (hb hby at_163) ?_
      refine XS.goto X82.here hx rfl (pc0 := 164) (pc' := 168) rfl (hb hby at_164) (by decide) (by decide) ?_
      show SF p e below T82 m 168 #[vi p0, vi p1, vi p2, vi p3, vi 1, vi u1, vi u2, vi u3, vr b33, vr bj, vi (bI (((97 ≤ u1.toInt ∧ u1.toInt ≤ 122) ∨ (48 ≤ u1.toInt ∧ u1.toInt ≤ 57))))] [(.int 1)] _
      exact retN X82 hx (t := .boolean) Bd.returns (by simp) (hb hby at_168) hr
    · show Q0 Z p0 p1 p2 p3 G1 G3 h0 n0 _ T82.heap _
      rw [e82]
      exact ⟨rfl, N82⟩
  · skip
    obtain rfl : q0 = (2 : Int32) := own_eq.mpr hk_q0
    have hc84 : ¬ ((2 : Int32) = (0 : Int32)) := by decide
    have hc85 : ¬ ((2 : Int32) = (1 : Int32)) := by decide
    have hc86 : (2 : Int32) = (2 : Int32) := by decide
    obtain ⟨T87, h87, k87, X87, e87, E87, A87, st87⟩ := newP X0 hx hZ (tw hw 0 rfl) e0 (g := (mkF m 56 #[vi p0, vi p1, vi p2, vi p3, vi 2, vi u1, vi u2, vi u3, .unset, .unset, .unset] [(.int 2)])) rfl (hb hby at_56) rfl (by decide) (cap := 2) (by decide) (by decide) (by decide) (by decide)
    obtain ⟨b87, g87⟩ : ∃ z, z = h0.size := ⟨_, rfl⟩
    rw [← g87] at A87 st87
    have g_b87 : n0 ≤ b87 := Nat.le_trans Z0 (Nat.le_of_eq g87.symm)
    have Z87 : n0 ≤ h87.size := Nat.le_trans Z0 E87.1
    have hk87 : 0 ≤ h87.size := Nat.le_trans hk0 E87.1
    have R87 := R0.trans (CHr.ext E87 R0.1)
    have S87_b87 := Safe.ext E87 R0.1 (Safe.new (x := b87) (Nat.le_of_eq g87.symm))
    have c88 : sC Z h87 G1 := O2.ext E87
    have c89 : sI Z h87 G3 := O4.ext E87
    have c90 : sA Z h87 := OA.ext E87
    have c91 : sH Z h87 := OH.ext E87
    have c92 : sL Z h87 := OL.ext E87
    have V87 : Arv Z h87 b87 k87 .char (2 : Int32) [(.int 0), (.int 0)] (.int 0) := (Arv.new A87 (by decide)).pad (pad_rep [] (.int 0) 2)
    obtain ⟨cl93, Ar93, q93, Sz93, Nn93, Hh93, Gg93⟩ := id V87
    have hin93 : ¬ ((0 : Int32) < 0 ∨ cl93.slots.size ≤ ((0 : Int32)).toNatClampNeg) := inb_of Sz93 ⟨by decide, by decide⟩
    obtain ⟨T94, h94, X94, e94, W94, st94⟩ := stC X87 hx hZ e87 Ar93 (j := (0 : Int32)) hin93 (g := (mkF m 62 #[vi p0, vi p1, vi p2, vi p3, vi 2, vi u1, vi u2, vi u3, .unset, .unset, .unset] [(.int u1), (.int 0), (.ref b87), (.ref b87)])) rfl rfl (hb hby at_62)
    have V94 : Arv Z h94 b87 k87 .char (2 : Int32) [(.int (nar .char u1)), (.int 0)] (.int 0) := Arv.set Ar93 q93 Sz93 Nn93 Hh93 Gg93 (fits_nar_char _) W94 0 rfl (Nat.le_of_ble_eq_true rfl)
    have N94 := Fr.snoc X94 N0 g_b87
    have Z94 : n0 ≤ h94.size := Nat.le_trans Z87 (Keep.of_wr W94).1
    have hk94 : 0 ≤ h94.size := Nat.le_trans hk87 (Keep.of_wr W94).1
    have R94 := R87.trans (CHr.wr W94 S87_b87 R87.1)
    have S94_b87 := Safe.wr W94 S87_b87 R87.1 S87_b87
    have c95 : sC Z h94 G1 := c88.wr W94
    have c96 : sI Z h94 G3 := c89.wr W94
    have c97 : sA Z h94 := c90.wr W94
    have c98 : sH Z h94 := c91.wr W94
    have c99 : sL Z h94 := c92.wr W94
    obtain ⟨cl100, Ar100, q100, Sz100, Nn100, Hh100, Gg100⟩ := id V94
    have hin100 : ¬ ((1 : Int32) < 0 ∨ cl100.slots.size ≤ ((1 : Int32)).toNatClampNeg) := inb_of Sz100 ⟨by decide, by decide⟩
    obtain ⟨T101, h101, X101, e101, W101, st101⟩ := stC X94 hx hZ e94 Ar100 (j := (1 : Int32)) hin100 (g := (mkF m 67 #[vi p0, vi p1, vi p2, vi p3, vi 2, vi u1, vi u2, vi u3, .unset, .unset, .unset] [(.int u2), (.int 1), (.ref b87), (.ref b87)])) rfl rfl (hb hby at_67)
    have V101 : Arv Z h101 b87 k87 .char (2 : Int32) [(.int (nar .char u1)), (.int (nar .char u2))] (.int 0) := Arv.set Ar100 q100 Sz100 Nn100 Hh100 Gg100 (fits_nar_char _) W101 1 rfl (Nat.le_of_ble_eq_true rfl)
    have N101 := Fr.snoc X101 N94 g_b87
    have Z101 : n0 ≤ h101.size := Nat.le_trans Z94 (Keep.of_wr W101).1
    have hk101 : 0 ≤ h101.size := Nat.le_trans hk94 (Keep.of_wr W101).1
    have R101 := R94.trans (CHr.wr W101 S94_b87 R94.1)
    have S101_b87 := Safe.wr W101 S94_b87 R94.1 S94_b87
    have c102 : sC Z h101 G1 := c95.wr W101
    have c103 : sI Z h101 G3 := c96.wr W101
    have c104 : sA Z h101 := c97.wr W101
    have c105 : sH Z h101 := c98.wr W101
    have c106 : sL Z h101 := c99.wr W101
    have pre107 : ∀ t, SF p e below T101 m 93 #[vi p0, vi p1, vi p2, vi p3, vi 2, vi u1, vi u2, vi u3, vr b87, .unset, .unset] [] t → SF p e below s₁ m 0 #[vi p0, vi p1, vi p2, vi p3, .unset, .unset, .unset, .unset, .unset, .unset, .unset] [] t := fun t k => pre5 t (by
      show SF p e below s₁ m 17 #[vi p0, vi p1, vi p2, vi p3, vi 2, vi u1, vi u2, vi u3, .unset, .unset, .unset] [] _
      refine XS.iload X0.here hx rfl (hb hby at_17) rfl ?_
      refine XS.ifYes X0.here hx rfl (pc0 := 19) (pc' := 30) rfl (hb hby at_19) rfl ((if0 _ _).trans (feq hc84).2) (by decide) (by decide) ?_
      refine XS.iload X0.here hx rfl (hb hby at_30) rfl ?_
      refine XS.iconst X0.here hx rfl (hb hby at_32) ?_
      refine XS.icmpYes X0.here hx rfl (pc0 := 33) (pc' := 49) rfl (hb hby at_33) rfl (feq hc85).2 (by decide) (by decide) ?_
      show SF p e below s₁ m 49 #[vi p0, vi p1, vi p2, vi p3, vi 2, vi u1, vi u2, vi u3, .unset, .unset, .unset] [] _
      refine XS.iload X0.here hx rfl (hb hby at_49) rfl ?_
      refine XS.iconst X0.here hx rfl (hb hby at_51) ?_
      refine XS.icmpNo X0.here hx rfl (hb hby at_52) rfl (teq hc86).2 ?_
      refine XS.iconst X0.here hx rfl (hb hby at_55) ?_
      refine st87 _ ?_
      show SF p e below T87 m 58 #[vi p0, vi p1, vi p2, vi p3, vi 2, vi u1, vi u2, vi u3, .unset, .unset, .unset] [(.ref b87)] _
      refine XS.dup X87.here hx rfl (hb hby at_58) rfl rfl ?_
      refine XS.iconst X87.here hx rfl (hb hby at_59) ?_
      refine XS.iload X87.here hx rfl (hb hby at_60) rfl ?_
      refine st94 _ ?_
      refine XS.dup X94.here hx rfl (hb hby at_63) rfl rfl ?_
      show SF p e below T94 m 64 #[vi p0, vi p1, vi p2, vi p3, vi 2, vi u1, vi u2, vi u3, .unset, .unset, .unset] [(.ref b87), (.ref b87)] _
      refine XS.iconst X94.here hx rfl (hb hby at_64) ?_
      refine XS.iload X94.here hx rfl (hb hby at_65) rfl ?_
      refine st101 _ ?_
      refine XS.astore X101.here hx rfl (hb hby at_68) rfl rfl (l' := #[vi p0, vi p1, vi p2, vi p3, vi 2, vi u1, vi u2, vi u3, vr b87, .unset, .unset]) rfl ?_
      refine XS.goto X101.here hx rfl (pc0 := 70) (pc' := 93) rfl (hb hby at_70) (by decide) (by decide) ?_
      exact k)
    obtain ⟨bj, T108, L108, hh108, X108, e108, N108, Z108, hk108, R108, S108, c108_0, c108_1, c108_2, c108_3, c108_4, pre108⟩ : ∃ (bj : Addr) (T108 : State) (L108 : List Loc) (hh108 : Heap), Stand p l e room_1 (s.setVm s.vm) m #[(.int p0), (.int p1), (.int p2), (.int p3)] below meth c T108 L108 4 12 ∧ T108.heap = hh108 ∧ Fr n0 L108 ∧ n0 ≤ hh108.size ∧ 0 ≤ hh108.size ∧ CHr Z consts_1 s.vm h0 s.vm hh108 ∧ (OStr Z hh108 bj [u1, u2] ∨ OW Z hh108 bj (4 : Int32) [(.int (loB u1)), (.int (hiB u1)), (.int (loB u2)), (.int (hiB u2))]) ∧ sC Z hh108 G1 ∧ sI Z hh108 G3 ∧ sA Z hh108 ∧ sH Z hh108 ∧ sL Z hh108 ∧ ∀ t, SF p e below T108 m 104 #[vi p0, vi p1, vi p2, vi p3, vi 2, vi u1, vi u2, vi u3, vr b87, vr bj, .unset] [] t → SF p e below s₁ m 0 #[vi p0, vi p1, vi p2, vi p3, .unset, .unset, .unset, .unset, .unset, .unset, .unset] [] t := by
      rcases own_wide2 u1 u2 with ⟨hw_u1, hw_u2⟩ | hW
      · skip
        have hc_u1 : 0 ≤ u1.toInt ∧ u1.toInt ≤ 255 := ⟨hb_u1.1, (show u1.toInt ≤ 255 from own_nlt.mp hw_u1)⟩
        have hc_u2 : 0 ≤ u2.toInt ∧ u2.toInt ≤ 255 := ⟨hb_u2.1, (show u2.toInt ≤ 255 from own_nlt.mp hw_u2)⟩
        obtain ⟨T109, h109, X109, e109, E109, A109, D109, -, st109⟩ := newO X101 hx hZ hown (tw hw 1 rfl) (tw hw 2 rfl) (tw hw 3 rfl) e101 (g := (mkF m 93 #[vi p0, vi p1, vi p2, vi p3, vi 2, vi u1, vi u2, vi u3, vr b87, .unset, .unset] [])) rfl (hb hby at_93) (by decide) (by decide)
        obtain ⟨b109, g109⟩ : ∃ z, z = h101.size := ⟨_, rfl⟩
        rw [← g109] at A109 D109 st109
        have g_b109 : n0 ≤ b109 := Nat.le_trans Z101 (Nat.le_of_eq g109.symm)
        have Z109 : n0 ≤ h109.size := Nat.le_trans Z101 E109.1
        have hk109 : 0 ≤ h109.size := Nat.le_trans hk101 E109.1
        have R109 := R101.trans (CHr.ext E109 R101.1)
        have S109_b87 := Safe.ext E109 R101.1 S101_b87
        have S109_b109 := Safe.ext E109 R101.1 (Safe.new (x := b109) (Nat.le_of_eq g109.symm))
        have ne_b87_b109 : b87 ≠ b109 := Nat.ne_of_lt (Nat.lt_of_lt_of_le V101.lt (Nat.le_of_eq g109.symm))
        have c110 : sC Z h109 G1 := c102.ext E109
        have c111 : sI Z h109 G3 := c103.ext E109
        have c112 : sA Z h109 := c104.ext E109
        have c113 : sH Z h109 := c105.ext E109
        have c114 : sL Z h109 := c106.ext E109
        have c115 : Arv Z h109 b87 k87 .char (2 : Int32) [(.int (nar .char u1)), (.int (nar .char u2))] (.int 0) := V101.ext E109
        have F109_value : Fld Z h109 b109 "java/lang/String" "value" "[B" .null := D109 (Or.inr (tw hw 16 rfl)) (ty := (.array .byte)) (by decide)
        have F109_coder : Fld Z h109 b109 "java/lang/String" "coder" "B" (.int 0) := D109 (Or.inr (tw hw 17 rfl)) (ty := .byte) (by decide)
        have hp116 : ∀ c ∈ ([nar .char u1, nar .char u2] : List Int32), ¬ c < 0 ∧ ¬ (255 : Int32) < c := by
          intro c hc
          simp only [List.mem_cons, List.not_mem_nil, or_false] at hc
          rcases hc with rfl | rfl
          · exact own_pc hc_u1
          · exact own_pc hc_u2
        obtain ⟨_, _, ⟨T116, L116, k116, n116⟩, -, X116, ⟨Lc116, hQ116, l116, y116, z116⟩, st116⟩ := X109.specialBack hx (y := mN7) rfl hown (mvT hZ (tw hw 4 rfl)) (mvT hZ (tw hw 5 rfl)) (mvT hZ (tw hw 6 rfl)) (by decide) (StrChars.Road.backV (W := 1) hZ (fun d hd => hw d (own_wS d hd)) (kI := 4) (tw hw 2 rfl) (cs := ([nar .char u1, nar .char u2] : List Int32)) (bs := ([nar .char u1, nar .char u2] : List Int32).map (fun c => c.toInt8.toInt32)) (n := 2) g_b109 Z109 A109 F109_value F109_coder c115 c110 P5 rfl rfl (by decide) (by decide) hp116 rfl (by decide) (by decide)) (g := (mkF m 99 #[vi p0, vi p1, vi p2, vi p3, vi 2, vi u1, vi u2, vi u3, vr b87, .unset, .unset] [(.ref b87), (.ref b109), (.ref b109)])) rfl (by rw [hml]; rfl) (Steps.refl _) (a := b109) (argsL := [(.ref b87)]) (rest := [(.ref b109)]) (lenOf pd_18 rfl) rfl (by show 2 * 0 + _ ≤ _; exact Nat.le_of_eq rfl) (hb hby at_99) (fun _ _ => ⟨rfl, e109, (by decide : 2 + 1 ≤ _), (by decide : 6 + 2 ≤ _)⟩)
        dsimp only [Pt.U, Pt.locs, Pt.cells, Pt.slots] at X116 l116 y116 z116 st116 hQ116
        subst l116 y116 z116
        obtain ⟨rfl, Nq116, Kq116, Eq116, Cq116, tq116, kq116', gq116, -, -, Vq116, Aq116⟩ := hQ116
        have N116 := Fr.app N101 Nq116
        have Z116 : n0 ≤ T116.heap.size := Nat.le_trans Z109 Kq116.1
        have hk116 : 0 ≤ T116.heap.size := Nat.le_trans hk109 Kq116.1
        have R116 := R109.trans (CHr.keep Kq116 (fun x hx => by cases List.mem_singleton.mp hx; exact S109_b109) R109.1)
        have S116_b87 := Safe.keep Kq116 (fun x hx => by cases List.mem_singleton.mp hx; exact S109_b109) R109.1 S109_b87
        have S116_b109 := Safe.keep Kq116 (fun x hx => by cases List.mem_singleton.mp hx; exact S109_b109) R109.1 S109_b109
        have S116 : OStr Z T116.heap b109 [nar .char u1, nar .char u2] := ⟨tq116, kq116', Eq116, Vq116, Cq116, Aq116, hp116⟩
        rw [own_narc hc_u1] at S116
        rw [own_narc hc_u2] at S116
        have c117 : sC Z T116.heap G1 := own_sk c110 Kq116 A109
        have c118 : sI Z T116.heap G3 := own_sk c111 Kq116 A109
        have c119 : sA Z T116.heap := own_sk c112 Kq116 A109
        have c120 : sH Z T116.heap := own_sk c113 Kq116 A109
        have c121 : sL Z T116.heap := own_sk c114 Kq116 A109
        refine ⟨b109, T116, _, T116.heap, X116.more (by decide) (by decide), rfl, N116, Z116, hk116, R116, Or.inl S116, c117, c118, c119, c120, c121, fun t k => pre107 t ?_⟩
        show SF p e below T101 m 93 #[vi p0, vi p1, vi p2, vi p3, vi 2, vi u1, vi u2, vi u3, vr b87, .unset, .unset] [] _
        refine st109 _ ?_
        refine XS.dup X109.here hx rfl (hb hby at_96) rfl rfl ?_
        refine XS.aload X109.here hx rfl (hb hby at_97) rfl rfl ?_
        refine st116.trans ?_
        refine XS.astore X116.here hx rfl (hb hby at_102) rfl rfl (l' := #[vi p0, vi p1, vi p2, vi p3, vi 2, vi u1, vi u2, vi u3, vr b87, vr b109, .unset]) rfl ?_
        exact k
      · skip
        have Vr122 : Arv Z h101 b87 k87 .char (2 : Int32) [(.int u1), (.int u2)] (.int 0) := by
          have q := V101
          rw [own_narcW hb_u1] at q
          rw [own_narcW hb_u2] at q
          exact q
        obtain ⟨T123, h123, X123, e123, E123, A123, D123, -, st123⟩ := newO X101 hx hZ hown (tw hw 1 rfl) (tw hw 2 rfl) (tw hw 3 rfl) e101 (g := (mkF m 93 #[vi p0, vi p1, vi p2, vi p3, vi 2, vi u1, vi u2, vi u3, vr b87, .unset, .unset] [])) rfl (hb hby at_93) (by decide) (by decide)
        obtain ⟨b123, g123⟩ : ∃ z, z = h101.size := ⟨_, rfl⟩
        rw [← g123] at A123 D123 st123
        have g_b123 : n0 ≤ b123 := Nat.le_trans Z101 (Nat.le_of_eq g123.symm)
        have Z123 : n0 ≤ h123.size := Nat.le_trans Z101 E123.1
        have hk123 : 0 ≤ h123.size := Nat.le_trans hk101 E123.1
        have R123 := R101.trans (CHr.ext E123 R101.1)
        have S123_b87 := Safe.ext E123 R101.1 S101_b87
        have S123_b123 := Safe.ext E123 R101.1 (Safe.new (x := b123) (Nat.le_of_eq g123.symm))
        have ne_b87_b123 : b87 ≠ b123 := Nat.ne_of_lt (Nat.lt_of_lt_of_le Vr122.lt (Nat.le_of_eq g123.symm))
        have c124 : sC Z h123 G1 := c102.ext E123
        have c125 : sI Z h123 G3 := c103.ext E123
        have c126 : sA Z h123 := c104.ext E123
        have c127 : sH Z h123 := c105.ext E123
        have c128 : sL Z h123 := c106.ext E123
        have c129 : Arv Z h123 b87 k87 .char (2 : Int32) [(.int u1), (.int u2)] (.int 0) := Vr122.ext E123
        have F123_value : Fld Z h123 b123 "java/lang/String" "value" "[B" .null := D123 (Or.inr (tw hw 16 rfl)) (ty := (.array .byte)) (by decide)
        have F123_coder : Fld Z h123 b123 "java/lang/String" "coder" "B" (.int 0) := D123 (Or.inr (tw hw 17 rfl)) (ty := .byte) (by decide)
        obtain ⟨_, _, ⟨T130, L130, k130, n130⟩, -, X130, ⟨Lc130, hQ130, l130, y130, z130⟩, st130⟩ := X123.specialBack hx (y := mN7) rfl hown (mvT hZ (tw hw 4 rfl)) (mvT hZ (tw hw 5 rfl)) (mvT hZ (tw hw 6 rfl)) (by decide) (backOf (W := 1) (rmi2_2 l Z a0 hw [] b123 b87 k87 u1 u2 G1 G3 h123 n0 Z123 A123 F123_value F123_coder g_b123 c129 hb_u1 hb_u2 hW c124 P5 c125 rG3 c126 c127 c128) hZ (tw hw 6 rfl) (tw hw 3 rfl) (by decide) (by decide)) (g := (mkF m 99 #[vi p0, vi p1, vi p2, vi p3, vi 2, vi u1, vi u2, vi u3, vr b87, .unset, .unset] [(.ref b87), (.ref b123), (.ref b123)])) rfl (by rw [hml]; rfl) (Steps.refl _) (a := b123) (argsL := [(.ref b87)]) (rest := [(.ref b123)]) (lenOf pd_18 rfl) rfl (by show 2 * 0 + _ ≤ _; exact Nat.le_of_eq rfl) (hb hby at_99) (fun _ _ => ⟨rfl, e123, (by decide : 2 + 2 ≤ _), (by decide : 6 + 6 ≤ _)⟩)
        dsimp only [Pt.U, Pt.locs, Pt.cells, Pt.slots] at X130 l130 y130 z130 st130 hQ130
        subst l130 y130 z130
        obtain ⟨rfl, Nq130, Kq130, Sq130⟩ := hQ130
        have N130 := Fr.app N101 Nq130
        have Z130 : n0 ≤ T130.heap.size := Nat.le_trans Z123 Kq130.1
        have hk130 : 0 ≤ T130.heap.size := Nat.le_trans hk123 Kq130.1
        have R130 := R123.trans (CHr.keep Kq130 (fun x hx => by cases List.mem_singleton.mp hx; exact S123_b123) R123.1)
        have S130_b87 := Safe.keep Kq130 (fun x hx => by cases List.mem_singleton.mp hx; exact S123_b123) R123.1 S123_b87
        have S130_b123 := Safe.keep Kq130 (fun x hx => by cases List.mem_singleton.mp hx; exact S123_b123) R123.1 S123_b123
        have c131 : sC Z T130.heap G1 := own_sk c124 Kq130 A123
        have c132 : sI Z T130.heap G3 := own_sk c125 Kq130 A123
        have c133 : sA Z T130.heap := own_sk c126 Kq130 A123
        have c134 : sH Z T130.heap := own_sk c127 Kq130 A123
        have c135 : sL Z T130.heap := own_sk c128 Kq130 A123
        refine ⟨b123, T130, _, T130.heap, X130.more (by decide) (by decide), rfl, N130, Z130, hk130, R130, Or.inr Sq130, c131, c132, c133, c134, c135, fun t k => pre107 t ?_⟩
        show SF p e below T101 m 93 #[vi p0, vi p1, vi p2, vi p3, vi 2, vi u1, vi u2, vi u3, vr b87, .unset, .unset] [] _
        refine st123 _ ?_
        refine XS.dup X123.here hx rfl (hb hby at_96) rfl rfl ?_
        refine XS.aload X123.here hx rfl (hb hby at_97) rfl rfl ?_
        refine st130.trans ?_
        refine XS.astore X130.here hx rfl (hb hby at_102) rfl rfl (l' := #[vi p0, vi p1, vi p2, vi p3, vi 2, vi u1, vi u2, vi u3, vr b87, vr b123, .unset]) rfl ?_
        exact k
    obtain ⟨vx, T136, L136, rfl, X136, e136, N136, pre136⟩ : ∃ (vx : Int32) (T136 : State) (L136 : List Loc), (vx = bI (((97 ≤ u1.toInt ∧ u1.toInt ≤ 122) ∨ (48 ≤ u1.toInt ∧ u1.toInt ≤ 57)) ∧ ((97 ≤ u2.toInt ∧ u2.toInt ≤ 122) ∨ (65 ≤ u2.toInt ∧ u2.toInt ≤ 90) ∨ (48 ≤ u2.toInt ∧ u2.toInt ≤ 57) ∨ u2.toInt = 95))) ∧ Stand p l e room_1 (s.setVm s.vm) m #[(.int p0), (.int p1), (.int p2), (.int p3)] below meth c T136 L136 4 12 ∧ T136.heap = hh108 ∧ Fr n0 L136 ∧ ∀ t, SF p e below T136 m 151 #[vi p0, vi p1, vi p2, vi p3, vi 2, vi u1, vi u2, vi u3, vr b87, vr bj, .unset] [(.int vx)] t → SF p e below s₁ m 0 #[vi p0, vi p1, vi p2, vi p3, .unset, .unset, .unset, .unset, .unset, .unset, .unset] [] t := by
      have hc137 : ¬ ((2 : Int32) < (1 : Int32)) := by decide
      obtain ⟨_, _, ⟨T138, L138, k138, n138⟩, -, X138, ⟨Lc138, hQ138, l138, y138, z138⟩, st138⟩ := Jvm.LawKit.callS X108 hx (y := mN4) hown (mvT hZ (tw hw 42 rfl)) (mvT hZ (tw hw 43 rfl)) (mvT hZ (tw hw 44 rfl)) (mvT hZ (tw hw 45 rfl)) (by decide) (backOf (W := 0) (rm9 l Z a0 hw [] u1  hh108 n0 Z108 ) hZ (tw hw 45 rfl) (tw hw 44 rfl) (by decide) (by decide)) (g := (mkF m 112 #[vi p0, vi p1, vi p2, vi p3, vi 2, vi u1, vi u2, vi u3, vr b87, vr bj, .unset] [(.int u1)])) rfl (by rw [hml]; rfl) (argsL := [(.int u1)]) (rest := []) (lenOf pd_0 rfl) rfl (by show 2 * 0 + _ ≤ _; exact Nat.le_of_eq rfl) (hb hby at_112) (fun _ _ => ⟨rfl, e108, (by decide : 4 + 0 ≤ _), (by decide : 12 + 0 ≤ _)⟩)
      dsimp only [Pt.U, Pt.locs, Pt.cells, Pt.slots] at X138 l138 y138 z138 st138 hQ138
      subst l138 y138 z138
      obtain ⟨rfl, Nq138, e138⟩ := hQ138
      have N138 := Fr.app N108 Nq138
      have t138 := own_bt (P := (97 ≤ u1.toInt ∧ u1.toInt ≤ 122) ∨ (48 ≤ u1.toInt ∧ u1.toInt ≤ 57))
      have pre140 : ∀ t, SF p e below T138 m 115 #[vi p0, vi p1, vi p2, vi p3, vi 2, vi u1, vi u2, vi u3, vr b87, vr bj, .unset] [(.int (bI ((97 ≤ u1.toInt ∧ u1.toInt ≤ 122) ∨ (48 ≤ u1.toInt ∧ u1.toInt ≤ 57))))] t → SF p e below s₁ m 0 #[vi p0, vi p1, vi p2, vi p3, .unset, .unset, .unset, .unset, .unset, .unset, .unset] [] t := fun t k => pre108 t (by
        show SF p e below T108 m 104 #[vi p0, vi p1, vi p2, vi p3, vi 2, vi u1, vi u2, vi u3, vr b87, vr bj, .unset] [] _
        refine XS.iload X108.here hx rfl (hb hby at_104) rfl ?_
        refine XS.iconst X108.here hx rfl (hb hby at_106) ?_
        refine XS.icmpNo X108.here hx rfl (hb hby at_107) rfl (flt hc137).1 ?_
        refine XS.iload X108.here hx rfl (hb hby at_110) rfl ?_
        refine st138 _ ?_
        exact k)
      by_cases hc139 : (bI ((97 ≤ u1.toInt ∧ u1.toInt ≤ 122) ∨ (48 ≤ u1.toInt ∧ u1.toInt ≤ 57))) = (0 : Int32)
      · skip
        have ohc139 : (bI ((97 ≤ u1.toInt ∧ u1.toInt ≤ 122) ∨ (48 ≤ u1.toInt ∧ u1.toInt ≤ 57))).toInt = 0 := own_eq.mp hc139
        refine ⟨(0 : Int32), T138, _, ?_, X138, e138, N138, fun t k => pre140 t ?_⟩
        · exact own_c0 (by omega)
        · skip
          show SF p e below T138 m 115 #[vi p0, vi p1, vi p2, vi p3, vi 2, vi u1, vi u2, vi u3, vr b87, vr bj, .unset] [(.int (bI ((97 ≤ u1.toInt ∧ u1.toInt ≤ 122) ∨ (48 ≤ u1.toInt ∧ u1.toInt ≤ 57))))] _
          refine XS.ifYes X138.here hx rfl (pc0 := 115) (pc' := 150) rfl (hb hby at_115) rfl ((if0 _ _).trans (teq hc139).1) (by decide) (by decide) ?_
          show SF p e below T138 m 150 #[vi p0, vi p1, vi p2, vi p3, vi 2, vi u1, vi u2, vi u3, vr b87, vr bj, .unset] [] _
          refine XS.iconst X138.here hx rfl (hb hby at_150) ?_
          exact k
      · skip
        have ohc139 : ¬ ((bI ((97 ≤ u1.toInt ∧ u1.toInt ≤ 122) ∨ (48 ≤ u1.toInt ∧ u1.toInt ≤ 57))).toInt = 0) := own_neq.mp hc139
        have hc141 : ¬ ((2 : Int32) < (2 : Int32)) := by decide
        obtain ⟨_, _, ⟨T142, L142, k142, n142⟩, -, X142, ⟨Lc142, hQ142, l142, y142, z142⟩, st142⟩ := Jvm.LawKit.callS X138 hx (y := mN5) hown (mvT hZ (tw hw 116 rfl)) (mvT hZ (tw hw 117 rfl)) (mvT hZ (tw hw 44 rfl)) (mvT hZ (tw hw 118 rfl)) (by decide) (backOf (W := 0) (rm28 l Z a0 hw [] u2  hh108 n0 Z108 ) hZ (tw hw 118 rfl) (tw hw 44 rfl) (by decide) (by decide)) (g := (mkF m 126 #[vi p0, vi p1, vi p2, vi p3, vi 2, vi u1, vi u2, vi u3, vr b87, vr bj, .unset] [(.int u2)])) rfl (by rw [hml]; rfl) (argsL := [(.int u2)]) (rest := []) (lenOf pd_0 rfl) rfl (by show 2 * 0 + _ ≤ _; exact Nat.le_of_eq rfl) (hb hby at_126) (fun _ _ => ⟨rfl, e138, (by decide : 4 + 0 ≤ _), (by decide : 12 + 0 ≤ _)⟩)
        dsimp only [Pt.U, Pt.locs, Pt.cells, Pt.slots] at X142 l142 y142 z142 st142 hQ142
        subst l142 y142 z142
        obtain ⟨rfl, Nq142, e142⟩ := hQ142
        have N142 := Fr.app N138 Nq142
        have t142 := own_bt (P := (97 ≤ u2.toInt ∧ u2.toInt ≤ 122) ∨ (65 ≤ u2.toInt ∧ u2.toInt ≤ 90) ∨ (48 ≤ u2.toInt ∧ u2.toInt ≤ 57) ∨ u2.toInt = 95)
        have pre144 : ∀ t, SF p e below T142 m 129 #[vi p0, vi p1, vi p2, vi p3, vi 2, vi u1, vi u2, vi u3, vr b87, vr bj, .unset] [(.int (bI ((97 ≤ u2.toInt ∧ u2.toInt ≤ 122) ∨ (65 ≤ u2.toInt ∧ u2.toInt ≤ 90) ∨ (48 ≤ u2.toInt ∧ u2.toInt ≤ 57) ∨ u2.toInt = 95)))] t → SF p e below s₁ m 0 #[vi p0, vi p1, vi p2, vi p3, .unset, .unset, .unset, .unset, .unset, .unset, .unset] [] t := fun t k => pre140 t (by
          show SF p e below T138 m 115 #[vi p0, vi p1, vi p2, vi p3, vi 2, vi u1, vi u2, vi u3, vr b87, vr bj, .unset] [(.int (bI ((97 ≤ u1.toInt ∧ u1.toInt ≤ 122) ∨ (48 ≤ u1.toInt ∧ u1.toInt ≤ 57))))] _
          refine XS.ifNo X138.here hx rfl (hb hby at_115) rfl ((if0 _ _).trans (feq hc139).1) ?_
          show SF p e below T138 m 118 #[vi p0, vi p1, vi p2, vi p3, vi 2, vi u1, vi u2, vi u3, vr b87, vr bj, .unset] [] _
          refine XS.iload X138.here hx rfl (hb hby at_118) rfl ?_
          refine XS.iconst X138.here hx rfl (hb hby at_120) ?_
          refine XS.icmpNo X138.here hx rfl (hb hby at_121) rfl (flt hc141).1 ?_
          refine XS.iload X138.here hx rfl (hb hby at_124) rfl ?_
          refine st142 _ ?_
          exact k)
        by_cases hc143 : (bI ((97 ≤ u2.toInt ∧ u2.toInt ≤ 122) ∨ (65 ≤ u2.toInt ∧ u2.toInt ≤ 90) ∨ (48 ≤ u2.toInt ∧ u2.toInt ≤ 57) ∨ u2.toInt = 95)) = (0 : Int32)
        · skip
          have ohc143 : (bI ((97 ≤ u2.toInt ∧ u2.toInt ≤ 122) ∨ (65 ≤ u2.toInt ∧ u2.toInt ≤ 90) ∨ (48 ≤ u2.toInt ∧ u2.toInt ≤ 57) ∨ u2.toInt = 95)).toInt = 0 := own_eq.mp hc143
          refine ⟨(0 : Int32), T142, _, ?_, X142, e142, N142, fun t k => pre144 t ?_⟩
          · exact own_c0 (by omega)
          · skip
            show SF p e below T142 m 129 #[vi p0, vi p1, vi p2, vi p3, vi 2, vi u1, vi u2, vi u3, vr b87, vr bj, .unset] [(.int (bI ((97 ≤ u2.toInt ∧ u2.toInt ≤ 122) ∨ (65 ≤ u2.toInt ∧ u2.toInt ≤ 90) ∨ (48 ≤ u2.toInt ∧ u2.toInt ≤ 57) ∨ u2.toInt = 95)))] _
            refine XS.ifYes X142.here hx rfl (pc0 := 129) (pc' := 150) rfl (hb hby at_129) rfl ((if0 _ _).trans (teq hc143).1) (by decide) (by decide) ?_
            show SF p e below T142 m 150 #[vi p0, vi p1, vi p2, vi p3, vi 2, vi u1, vi u2, vi u3, vr b87, vr bj, .unset] [] _
            refine XS.iconst X142.here hx rfl (hb hby at_150) ?_
            exact k
        · skip
          have ohc143 : ¬ ((bI ((97 ≤ u2.toInt ∧ u2.toInt ≤ 122) ∨ (65 ≤ u2.toInt ∧ u2.toInt ≤ 90) ∨ (48 ≤ u2.toInt ∧ u2.toInt ≤ 57) ∨ u2.toInt = 95)).toInt = 0) := own_neq.mp hc143
          have hc145 : (2 : Int32) < (3 : Int32) := by decide
          refine ⟨(1 : Int32), T142, _, ?_, X142, e142, N142, fun t k => pre144 t ?_⟩
          · exact own_c1 (by omega)
          · skip
            show SF p e below T142 m 129 #[vi p0, vi p1, vi p2, vi p3, vi 2, vi u1, vi u2, vi u3, vr b87, vr bj, .unset] [(.int (bI ((97 ≤ u2.toInt ∧ u2.toInt ≤ 122) ∨ (65 ≤ u2.toInt ∧ u2.toInt ≤ 90) ∨ (48 ≤ u2.toInt ∧ u2.toInt ≤ 57) ∨ u2.toInt = 95)))] _
            refine XS.ifNo X142.here hx rfl (hb hby at_129) rfl ((if0 _ _).trans (feq hc143).1) ?_
            show SF p e below T142 m 132 #[vi p0, vi p1, vi p2, vi p3, vi 2, vi u1, vi u2, vi u3, vr b87, vr bj, .unset] [] _
            refine XS.iload X142.here hx rfl (hb hby at_132) rfl ?_
            refine XS.iconst X142.here hx rfl (hb hby at_134) ?_
            refine XS.icmpYes X142.here hx rfl (pc0 := 135) (pc' := 146) rfl (hb hby at_135) rfl (tlt hc145).1 (by decide) (by decide) ?_
            refine XS.iconst X142.here hx rfl (hb hby at_146) ?_
            refine XS.goto X142.here hx rfl (pc0 := 147) (pc' := 151) rfl (hb hby at_147) (by decide) (by decide) ?_
            exact k
    obtain ⟨_, _, ⟨T146, L146, k146, n146⟩, -, X146, ⟨Lc146, hQ146, l146, y146, z146⟩, st146⟩ := Jvm.LawKit.callS X136 hx (y := mN26) hown (mvT hZ (tw hw 22 rfl)) (mvT hZ (tw hw 23 rfl)) (mvT hZ (tw hw 24 rfl)) (mvT hZ (tw hw 25 rfl)) (by decide) (backOf (W := 0) (rmio_c_2 l Z a0 hw [] bj u1 u2 G1 G3 hh108 n0 Z108 c108_0 P5 c108_1 rG3 c108_2 c108_3 c108_4 S108 hb_u1 hb_u2) hZ (tw hw 25 rfl) (tw hw 24 rfl) (by decide) (by decide)) (g := (mkF m 155 #[vi p0, vi p1, vi p2, vi p3, vi 2, vi u1, vi u2, vi u3, vr b87, vr bj, vi (bI (((97 ≤ u1.toInt ∧ u1.toInt ≤ 122) ∨ (48 ≤ u1.toInt ∧ u1.toInt ≤ 57)) ∧ ((97 ≤ u2.toInt ∧ u2.toInt ≤ 122) ∨ (65 ≤ u2.toInt ∧ u2.toInt ≤ 90) ∨ (48 ≤ u2.toInt ∧ u2.toInt ≤ 57) ∨ u2.toInt = 95)))] [(.ref bj)])) rfl (by rw [hml]; rfl) (argsL := [(.ref bj)]) (rest := []) (lenOf pd_17 rfl) rfl (by show 2 * 0 + _ ≤ _; exact Nat.le_of_eq rfl) (hb hby at_155) (fun _ _ => ⟨rfl, e136, (by decide : 4 + 0 ≤ _), (by decide : 12 + 0 ≤ _)⟩)
    dsimp only [Pt.U, Pt.locs, Pt.cells, Pt.slots] at X146 l146 y146 z146 st146 hQ146
    subst l146 y146 z146
    obtain ⟨rfl, Nq146, e146⟩ := hQ146
    have N146 := Fr.app N136 Nq146
    have t146 := own_bt (P := ((97 ≤ u1.toInt ∧ u1.toInt ≤ 122) ∨ (48 ≤ u1.toInt ∧ u1.toInt ≤ 57)) ∧ ((97 ≤ u2.toInt ∧ u2.toInt ≤ 122) ∨ (65 ≤ u2.toInt ∧ u2.toInt ≤ 90) ∨ (48 ≤ u2.toInt ∧ u2.toInt ≤ 57) ∨ u2.toInt = 95))
    have hc147 : (bI (((97 ≤ u1.toInt ∧ u1.toInt ≤ 122) ∨ (48 ≤ u1.toInt ∧ u1.toInt ≤ 57)) ∧ ((97 ≤ u2.toInt ∧ u2.toInt ≤ 122) ∨ (65 ≤ u2.toInt ∧ u2.toInt ≤ 90) ∨ (48 ≤ u2.toInt ∧ u2.toInt ≤ 57) ∨ u2.toInt = 95))) = (bI (((97 ≤ u1.toInt ∧ u1.toInt ≤ 122) ∨ (48 ≤ u1.toInt ∧ u1.toInt ≤ 57)) ∧ ((97 ≤ u2.toInt ∧ u2.toInt ≤ 122) ∨ (65 ≤ u2.toInt ∧ u2.toInt ≤ 90) ∨ (48 ≤ u2.toInt ∧ u2.toInt ≤ 57) ∨ u2.toInt = 95))) := rfl
    have ohc147 : (bI (((97 ≤ u1.toInt ∧ u1.toInt ≤ 122) ∨ (48 ≤ u1.toInt ∧ u1.toInt ≤ 57)) ∧ ((97 ≤ u2.toInt ∧ u2.toInt ≤ 122) ∨ (65 ≤ u2.toInt ∧ u2.toInt ≤ 90) ∨ (48 ≤ u2.toInt ∧ u2.toInt ≤ 57) ∨ u2.toInt = 95))).toInt = (bI (((97 ≤ u1.toInt ∧ u1.toInt ≤ 122) ∨ (48 ≤ u1.toInt ∧ u1.toInt ≤ 57)) ∧ ((97 ≤ u2.toInt ∧ u2.toInt ≤ 122) ∨ (65 ≤ u2.toInt ∧ u2.toInt ≤ 90) ∨ (48 ≤ u2.toInt ∧ u2.toInt ≤ 57) ∨ u2.toInt = 95))).toInt := own_eq.mp hc147
    obtain ⟨fs, hr, hrun, hended, hR⟩ := X146.leaveW hS0 (by rw [e146]; exact hk108) (v := some (.int 1)) (fun h => by rw [Bd.returns] at h; cases h)
    refine ⟨_, _, pre0 _ (pre136 _ ?_), hrun, hended, _, _, rfl, ?_, (by rw [hh]; exact (own_ra (T := T146) R108 (by exact e146) (CHv.at X146 hZ hEL R108.1) : CHr Z consts_1 s.vm h0 T146.vm T146.heap)), own_rew hR (by decide) (by decide)⟩
    · skip
      show SF p e below T136 m 151 #[vi p0, vi p1, vi p2, vi p3, vi 2, vi u1, vi u2, vi u3, vr b87, vr bj, .unset] [(.int (bI (((97 ≤ u1.toInt ∧ u1.toInt ≤ 122) ∨ (48 ≤ u1.toInt ∧ u1.toInt ≤ 57)) ∧ ((97 ≤ u2.toInt ∧ u2.toInt ≤ 122) ∨ (65 ≤ u2.toInt ∧ u2.toInt ≤ 90) ∨ (48 ≤ u2.toInt ∧ u2.toInt ≤ 57) ∨ u2.toInt = 95))))] _
      refine XS.istore X136.here hx rfl (hb hby at_151) rfl (l' := #[vi p0, vi p1, vi p2, vi p3, vi 2, vi u1, vi u2, vi u3, vr b87, vr bj, vi (bI (((97 ≤ u1.toInt ∧ u1.toInt ≤ 122) ∨ (48 ≤ u1.toInt ∧ u1.toInt ≤ 57)) ∧ ((97 ≤ u2.toInt ∧ u2.toInt ≤ 122) ∨ (65 ≤ u2.toInt ∧ u2.toInt ≤ 90) ∨ (48 ≤ u2.toInt ∧ u2.toInt ≤ 57) ∨ u2.toInt = 95)))]) rfl ?_
      refine XS.aload X136.here hx rfl (hb hby at_153) rfl rfl ?_
      refine st146 _ ?_
      refine XS.iload X146.here hx rfl (hb hby at_158) rfl ?_
      refine XS.icmpNo X146.here hx rfl (hb hby at_160) rfl (teq hc147).2 ?_
      show SF p e below T146 m 163 #[vi p0, vi p1, vi p2, vi p3, vi 2, vi u1, vi u2, vi u3, vr b87, vr bj, vi (bI (((97 ≤ u1.toInt ∧ u1.toInt ≤ 122) ∨ (48 ≤ u1.toInt ∧ u1.toInt ≤ 57)) ∧ ((97 ≤ u2.toInt ∧ u2.toInt ≤ 122) ∨ (65 ≤ u2.toInt ∧ u2.toInt ≤ 90) ∨ (48 ≤ u2.toInt ∧ u2.toInt ≤ 57) ∨ u2.toInt = 95)))] [] _
      refine XS.iconst X146.here hx rfl (hb hby at_163) ?_
      refine XS.goto X146.here hx rfl (pc0 := 164) (pc' := 168) rfl (hb hby at_164) (by decide) (by decide) ?_
      show SF p e below T146 m 168 #[vi p0, vi p1, vi p2, vi p3, vi 2, vi u1, vi u2, vi u3, vr b87, vr bj, vi (bI (((97 ≤ u1.toInt ∧ u1.toInt ≤ 122) ∨ (48 ≤ u1.toInt ∧ u1.toInt ≤ 57)) ∧ ((97 ≤ u2.toInt ∧ u2.toInt ≤ 122) ∨ (65 ≤ u2.toInt ∧ u2.toInt ≤ 90) ∨ (48 ≤ u2.toInt ∧ u2.toInt ≤ 57) ∨ u2.toInt = 95)))] [(.int 1)] _
      exact retN X146 hx (t := .boolean) Bd.returns (by simp) (hb hby at_168) hr
    · show Q0 Z p0 p1 p2 p3 G1 G3 h0 n0 _ T146.heap _
      rw [e146]
      exact ⟨rfl, N146⟩
  · skip
    obtain rfl : q0 = (3 : Int32) := own_eq.mpr hk_q0
    have hc148 : ¬ ((3 : Int32) = (0 : Int32)) := by decide
    have hc149 : ¬ ((3 : Int32) = (1 : Int32)) := by decide
    have hc150 : ¬ ((3 : Int32) = (2 : Int32)) := by decide
    obtain ⟨T151, h151, k151, X151, e151, E151, A151, st151⟩ := newP X0 hx hZ (tw hw 0 rfl) e0 (g := (mkF m 74 #[vi p0, vi p1, vi p2, vi p3, vi 3, vi u1, vi u2, vi u3, .unset, .unset, .unset] [(.int 3)])) rfl (hb hby at_74) rfl (by decide) (cap := 3) (by decide) (by decide) (by decide) (by decide)
    obtain ⟨b151, g151⟩ : ∃ z, z = h0.size := ⟨_, rfl⟩
    rw [← g151] at A151 st151
    have g_b151 : n0 ≤ b151 := Nat.le_trans Z0 (Nat.le_of_eq g151.symm)
    have Z151 : n0 ≤ h151.size := Nat.le_trans Z0 E151.1
    have hk151 : 0 ≤ h151.size := Nat.le_trans hk0 E151.1
    have R151 := R0.trans (CHr.ext E151 R0.1)
    have S151_b151 := Safe.ext E151 R0.1 (Safe.new (x := b151) (Nat.le_of_eq g151.symm))
    have c152 : sC Z h151 G1 := O2.ext E151
    have c153 : sI Z h151 G3 := O4.ext E151
    have c154 : sA Z h151 := OA.ext E151
    have c155 : sH Z h151 := OH.ext E151
    have c156 : sL Z h151 := OL.ext E151
    have V151 : Arv Z h151 b151 k151 .char (3 : Int32) [(.int 0), (.int 0), (.int 0)] (.int 0) := (Arv.new A151 (by decide)).pad (pad_rep [] (.int 0) 3)
    obtain ⟨cl157, Ar157, q157, Sz157, Nn157, Hh157, Gg157⟩ := id V151
    have hin157 : ¬ ((0 : Int32) < 0 ∨ cl157.slots.size ≤ ((0 : Int32)).toNatClampNeg) := inb_of Sz157 ⟨by decide, by decide⟩
    obtain ⟨T158, h158, X158, e158, W158, st158⟩ := stC X151 hx hZ e151 Ar157 (j := (0 : Int32)) hin157 (g := (mkF m 80 #[vi p0, vi p1, vi p2, vi p3, vi 3, vi u1, vi u2, vi u3, .unset, .unset, .unset] [(.int u1), (.int 0), (.ref b151), (.ref b151)])) rfl rfl (hb hby at_80)
    have V158 : Arv Z h158 b151 k151 .char (3 : Int32) [(.int (nar .char u1)), (.int 0), (.int 0)] (.int 0) := Arv.set Ar157 q157 Sz157 Nn157 Hh157 Gg157 (fits_nar_char _) W158 0 rfl (Nat.le_of_ble_eq_true rfl)
    have N158 := Fr.snoc X158 N0 g_b151
    have Z158 : n0 ≤ h158.size := Nat.le_trans Z151 (Keep.of_wr W158).1
    have hk158 : 0 ≤ h158.size := Nat.le_trans hk151 (Keep.of_wr W158).1
    have R158 := R151.trans (CHr.wr W158 S151_b151 R151.1)
    have S158_b151 := Safe.wr W158 S151_b151 R151.1 S151_b151
    have c159 : sC Z h158 G1 := c152.wr W158
    have c160 : sI Z h158 G3 := c153.wr W158
    have c161 : sA Z h158 := c154.wr W158
    have c162 : sH Z h158 := c155.wr W158
    have c163 : sL Z h158 := c156.wr W158
    obtain ⟨cl164, Ar164, q164, Sz164, Nn164, Hh164, Gg164⟩ := id V158
    have hin164 : ¬ ((1 : Int32) < 0 ∨ cl164.slots.size ≤ ((1 : Int32)).toNatClampNeg) := inb_of Sz164 ⟨by decide, by decide⟩
    obtain ⟨T165, h165, X165, e165, W165, st165⟩ := stC X158 hx hZ e158 Ar164 (j := (1 : Int32)) hin164 (g := (mkF m 85 #[vi p0, vi p1, vi p2, vi p3, vi 3, vi u1, vi u2, vi u3, .unset, .unset, .unset] [(.int u2), (.int 1), (.ref b151), (.ref b151)])) rfl rfl (hb hby at_85)
    have V165 : Arv Z h165 b151 k151 .char (3 : Int32) [(.int (nar .char u1)), (.int (nar .char u2)), (.int 0)] (.int 0) := Arv.set Ar164 q164 Sz164 Nn164 Hh164 Gg164 (fits_nar_char _) W165 1 rfl (Nat.le_of_ble_eq_true rfl)
    have N165 := Fr.snoc X165 N158 g_b151
    have Z165 : n0 ≤ h165.size := Nat.le_trans Z158 (Keep.of_wr W165).1
    have hk165 : 0 ≤ h165.size := Nat.le_trans hk158 (Keep.of_wr W165).1
    have R165 := R158.trans (CHr.wr W165 S158_b151 R158.1)
    have S165_b151 := Safe.wr W165 S158_b151 R158.1 S158_b151
    have c166 : sC Z h165 G1 := c159.wr W165
    have c167 : sI Z h165 G3 := c160.wr W165
    have c168 : sA Z h165 := c161.wr W165
    have c169 : sH Z h165 := c162.wr W165
    have c170 : sL Z h165 := c163.wr W165
    obtain ⟨cl171, Ar171, q171, Sz171, Nn171, Hh171, Gg171⟩ := id V165
    have hin171 : ¬ ((2 : Int32) < 0 ∨ cl171.slots.size ≤ ((2 : Int32)).toNatClampNeg) := inb_of Sz171 ⟨by decide, by decide⟩
    obtain ⟨T172, h172, X172, e172, W172, st172⟩ := stC X165 hx hZ e165 Ar171 (j := (2 : Int32)) hin171 (g := (mkF m 90 #[vi p0, vi p1, vi p2, vi p3, vi 3, vi u1, vi u2, vi u3, .unset, .unset, .unset] [(.int u3), (.int 2), (.ref b151), (.ref b151)])) rfl rfl (hb hby at_90)
    have V172 : Arv Z h172 b151 k151 .char (3 : Int32) [(.int (nar .char u1)), (.int (nar .char u2)), (.int (nar .char u3))] (.int 0) := Arv.set Ar171 q171 Sz171 Nn171 Hh171 Gg171 (fits_nar_char _) W172 2 rfl (Nat.le_of_ble_eq_true rfl)
    have N172 := Fr.snoc X172 N165 g_b151
    have Z172 : n0 ≤ h172.size := Nat.le_trans Z165 (Keep.of_wr W172).1
    have hk172 : 0 ≤ h172.size := Nat.le_trans hk165 (Keep.of_wr W172).1
    have R172 := R165.trans (CHr.wr W172 S165_b151 R165.1)
    have S172_b151 := Safe.wr W172 S165_b151 R165.1 S165_b151
    have c173 : sC Z h172 G1 := c166.wr W172
    have c174 : sI Z h172 G3 := c167.wr W172
    have c175 : sA Z h172 := c168.wr W172
    have c176 : sH Z h172 := c169.wr W172
    have c177 : sL Z h172 := c170.wr W172
    have pre178 : ∀ t, SF p e below T172 m 93 #[vi p0, vi p1, vi p2, vi p3, vi 3, vi u1, vi u2, vi u3, vr b151, .unset, .unset] [] t → SF p e below s₁ m 0 #[vi p0, vi p1, vi p2, vi p3, .unset, .unset, .unset, .unset, .unset, .unset, .unset] [] t := fun t k => pre5 t (by
      show SF p e below s₁ m 17 #[vi p0, vi p1, vi p2, vi p3, vi 3, vi u1, vi u2, vi u3, .unset, .unset, .unset] [] _
      refine XS.iload X0.here hx rfl (hb hby at_17) rfl ?_
      refine XS.ifYes X0.here hx rfl (pc0 := 19) (pc' := 30) rfl (hb hby at_19) rfl ((if0 _ _).trans (feq hc148).2) (by decide) (by decide) ?_
      refine XS.iload X0.here hx rfl (hb hby at_30) rfl ?_
      refine XS.iconst X0.here hx rfl (hb hby at_32) ?_
      refine XS.icmpYes X0.here hx rfl (pc0 := 33) (pc' := 49) rfl (hb hby at_33) rfl (feq hc149).2 (by decide) (by decide) ?_
      show SF p e below s₁ m 49 #[vi p0, vi p1, vi p2, vi p3, vi 3, vi u1, vi u2, vi u3, .unset, .unset, .unset] [] _
      refine XS.iload X0.here hx rfl (hb hby at_49) rfl ?_
      refine XS.iconst X0.here hx rfl (hb hby at_51) ?_
      refine XS.icmpYes X0.here hx rfl (pc0 := 52) (pc' := 73) rfl (hb hby at_52) rfl (feq hc150).2 (by decide) (by decide) ?_
      refine XS.iconst X0.here hx rfl (hb hby at_73) ?_
      refine st151 _ ?_
      show SF p e below T151 m 76 #[vi p0, vi p1, vi p2, vi p3, vi 3, vi u1, vi u2, vi u3, .unset, .unset, .unset] [(.ref b151)] _
      refine XS.dup X151.here hx rfl (hb hby at_76) rfl rfl ?_
      refine XS.iconst X151.here hx rfl (hb hby at_77) ?_
      refine XS.iload X151.here hx rfl (hb hby at_78) rfl ?_
      refine st158 _ ?_
      refine XS.dup X158.here hx rfl (hb hby at_81) rfl rfl ?_
      show SF p e below T158 m 82 #[vi p0, vi p1, vi p2, vi p3, vi 3, vi u1, vi u2, vi u3, .unset, .unset, .unset] [(.ref b151), (.ref b151)] _
      refine XS.iconst X158.here hx rfl (hb hby at_82) ?_
      refine XS.iload X158.here hx rfl (hb hby at_83) rfl ?_
      refine st165 _ ?_
      refine XS.dup X165.here hx rfl (hb hby at_86) rfl rfl ?_
      refine XS.iconst X165.here hx rfl (hb hby at_87) ?_
      show SF p e below T165 m 88 #[vi p0, vi p1, vi p2, vi p3, vi 3, vi u1, vi u2, vi u3, .unset, .unset, .unset] [(.int 2), (.ref b151), (.ref b151)] _
      refine XS.iload X165.here hx rfl (hb hby at_88) rfl ?_
      refine st172 _ ?_
      refine XS.astore X172.here hx rfl (hb hby at_91) rfl rfl (l' := #[vi p0, vi p1, vi p2, vi p3, vi 3, vi u1, vi u2, vi u3, vr b151, .unset, .unset]) rfl ?_
      exact k)
    obtain ⟨bj, T179, L179, hh179, X179, e179, N179, Z179, hk179, R179, S179, c179_0, c179_1, c179_2, c179_3, c179_4, pre179⟩ : ∃ (bj : Addr) (T179 : State) (L179 : List Loc) (hh179 : Heap), Stand p l e room_1 (s.setVm s.vm) m #[(.int p0), (.int p1), (.int p2), (.int p3)] below meth c T179 L179 4 16 ∧ T179.heap = hh179 ∧ Fr n0 L179 ∧ n0 ≤ hh179.size ∧ 0 ≤ hh179.size ∧ CHr Z consts_1 s.vm h0 s.vm hh179 ∧ (OStr Z hh179 bj [u1, u2, u3] ∨ OW Z hh179 bj (6 : Int32) [(.int (loB u1)), (.int (hiB u1)), (.int (loB u2)), (.int (hiB u2)), (.int (loB u3)), (.int (hiB u3))]) ∧ sC Z hh179 G1 ∧ sI Z hh179 G3 ∧ sA Z hh179 ∧ sH Z hh179 ∧ sL Z hh179 ∧ ∀ t, SF p e below T179 m 104 #[vi p0, vi p1, vi p2, vi p3, vi 3, vi u1, vi u2, vi u3, vr b151, vr bj, .unset] [] t → SF p e below s₁ m 0 #[vi p0, vi p1, vi p2, vi p3, .unset, .unset, .unset, .unset, .unset, .unset, .unset] [] t := by
      rcases own_wide3 u1 u2 u3 with ⟨hw_u1, hw_u2, hw_u3⟩ | hW
      · skip
        have hc_u1 : 0 ≤ u1.toInt ∧ u1.toInt ≤ 255 := ⟨hb_u1.1, (show u1.toInt ≤ 255 from own_nlt.mp hw_u1)⟩
        have hc_u2 : 0 ≤ u2.toInt ∧ u2.toInt ≤ 255 := ⟨hb_u2.1, (show u2.toInt ≤ 255 from own_nlt.mp hw_u2)⟩
        have hc_u3 : 0 ≤ u3.toInt ∧ u3.toInt ≤ 255 := ⟨hb_u3.1, (show u3.toInt ≤ 255 from own_nlt.mp hw_u3)⟩
        obtain ⟨T180, h180, X180, e180, E180, A180, D180, -, st180⟩ := newO X172 hx hZ hown (tw hw 1 rfl) (tw hw 2 rfl) (tw hw 3 rfl) e172 (g := (mkF m 93 #[vi p0, vi p1, vi p2, vi p3, vi 3, vi u1, vi u2, vi u3, vr b151, .unset, .unset] [])) rfl (hb hby at_93) (by decide) (by decide)
        obtain ⟨b180, g180⟩ : ∃ z, z = h172.size := ⟨_, rfl⟩
        rw [← g180] at A180 D180 st180
        have g_b180 : n0 ≤ b180 := Nat.le_trans Z172 (Nat.le_of_eq g180.symm)
        have Z180 : n0 ≤ h180.size := Nat.le_trans Z172 E180.1
        have hk180 : 0 ≤ h180.size := Nat.le_trans hk172 E180.1
        have R180 := R172.trans (CHr.ext E180 R172.1)
        have S180_b151 := Safe.ext E180 R172.1 S172_b151
        have S180_b180 := Safe.ext E180 R172.1 (Safe.new (x := b180) (Nat.le_of_eq g180.symm))
        have ne_b151_b180 : b151 ≠ b180 := Nat.ne_of_lt (Nat.lt_of_lt_of_le V172.lt (Nat.le_of_eq g180.symm))
        have c181 : sC Z h180 G1 := c173.ext E180
        have c182 : sI Z h180 G3 := c174.ext E180
        have c183 : sA Z h180 := c175.ext E180
        have c184 : sH Z h180 := c176.ext E180
        have c185 : sL Z h180 := c177.ext E180
        have c186 : Arv Z h180 b151 k151 .char (3 : Int32) [(.int (nar .char u1)), (.int (nar .char u2)), (.int (nar .char u3))] (.int 0) := V172.ext E180
        have F180_value : Fld Z h180 b180 "java/lang/String" "value" "[B" .null := D180 (Or.inr (tw hw 16 rfl)) (ty := (.array .byte)) (by decide)
        have F180_coder : Fld Z h180 b180 "java/lang/String" "coder" "B" (.int 0) := D180 (Or.inr (tw hw 17 rfl)) (ty := .byte) (by decide)
        have hp187 : ∀ c ∈ ([nar .char u1, nar .char u2, nar .char u3] : List Int32), ¬ c < 0 ∧ ¬ (255 : Int32) < c := by
          intro c hc
          simp only [List.mem_cons, List.not_mem_nil, or_false] at hc
          rcases hc with rfl | rfl | rfl
          · exact own_pc hc_u1
          · exact own_pc hc_u2
          · exact own_pc hc_u3
        obtain ⟨_, _, ⟨T187, L187, k187, n187⟩, -, X187, ⟨Lc187, hQ187, l187, y187, z187⟩, st187⟩ := X180.specialBack hx (y := mN7) rfl hown (mvT hZ (tw hw 4 rfl)) (mvT hZ (tw hw 5 rfl)) (mvT hZ (tw hw 6 rfl)) (by decide) (StrChars.Road.backV (W := 1) hZ (fun d hd => hw d (own_wS d hd)) (kI := 4) (tw hw 2 rfl) (cs := ([nar .char u1, nar .char u2, nar .char u3] : List Int32)) (bs := ([nar .char u1, nar .char u2, nar .char u3] : List Int32).map (fun c => c.toInt8.toInt32)) (n := 3) g_b180 Z180 A180 F180_value F180_coder c186 c181 P5 rfl rfl (by decide) (by decide) hp187 rfl (by decide) (by decide)) (g := (mkF m 99 #[vi p0, vi p1, vi p2, vi p3, vi 3, vi u1, vi u2, vi u3, vr b151, .unset, .unset] [(.ref b151), (.ref b180), (.ref b180)])) rfl (by rw [hml]; rfl) (Steps.refl _) (a := b180) (argsL := [(.ref b151)]) (rest := [(.ref b180)]) (lenOf pd_18 rfl) rfl (by show 2 * 0 + _ ≤ _; exact Nat.le_of_eq rfl) (hb hby at_99) (fun _ _ => ⟨rfl, e180, (by decide : 2 + 1 ≤ _), (by decide : 7 + 3 ≤ _)⟩)
        dsimp only [Pt.U, Pt.locs, Pt.cells, Pt.slots] at X187 l187 y187 z187 st187 hQ187
        subst l187 y187 z187
        obtain ⟨rfl, Nq187, Kq187, Eq187, Cq187, tq187, kq187', gq187, -, -, Vq187, Aq187⟩ := hQ187
        have N187 := Fr.app N172 Nq187
        have Z187 : n0 ≤ T187.heap.size := Nat.le_trans Z180 Kq187.1
        have hk187 : 0 ≤ T187.heap.size := Nat.le_trans hk180 Kq187.1
        have R187 := R180.trans (CHr.keep Kq187 (fun x hx => by cases List.mem_singleton.mp hx; exact S180_b180) R180.1)
        have S187_b151 := Safe.keep Kq187 (fun x hx => by cases List.mem_singleton.mp hx; exact S180_b180) R180.1 S180_b151
        have S187_b180 := Safe.keep Kq187 (fun x hx => by cases List.mem_singleton.mp hx; exact S180_b180) R180.1 S180_b180
        have S187 : OStr Z T187.heap b180 [nar .char u1, nar .char u2, nar .char u3] := ⟨tq187, kq187', Eq187, Vq187, Cq187, Aq187, hp187⟩
        rw [own_narc hc_u1] at S187
        rw [own_narc hc_u2] at S187
        rw [own_narc hc_u3] at S187
        have c188 : sC Z T187.heap G1 := own_sk c181 Kq187 A180
        have c189 : sI Z T187.heap G3 := own_sk c182 Kq187 A180
        have c190 : sA Z T187.heap := own_sk c183 Kq187 A180
        have c191 : sH Z T187.heap := own_sk c184 Kq187 A180
        have c192 : sL Z T187.heap := own_sk c185 Kq187 A180
        refine ⟨b180, T187, _, T187.heap, X187.more (by decide) (by decide), rfl, N187, Z187, hk187, R187, Or.inl S187, c188, c189, c190, c191, c192, fun t k => pre178 t ?_⟩
        show SF p e below T172 m 93 #[vi p0, vi p1, vi p2, vi p3, vi 3, vi u1, vi u2, vi u3, vr b151, .unset, .unset] [] _
        refine st180 _ ?_
        refine XS.dup X180.here hx rfl (hb hby at_96) rfl rfl ?_
        refine XS.aload X180.here hx rfl (hb hby at_97) rfl rfl ?_
        refine st187.trans ?_
        refine XS.astore X187.here hx rfl (hb hby at_102) rfl rfl (l' := #[vi p0, vi p1, vi p2, vi p3, vi 3, vi u1, vi u2, vi u3, vr b151, vr b180, .unset]) rfl ?_
        exact k
      · skip
        have Vr193 : Arv Z h172 b151 k151 .char (3 : Int32) [(.int u1), (.int u2), (.int u3)] (.int 0) := by
          have q := V172
          rw [own_narcW hb_u1] at q
          rw [own_narcW hb_u2] at q
          rw [own_narcW hb_u3] at q
          exact q
        obtain ⟨T194, h194, X194, e194, E194, A194, D194, -, st194⟩ := newO X172 hx hZ hown (tw hw 1 rfl) (tw hw 2 rfl) (tw hw 3 rfl) e172 (g := (mkF m 93 #[vi p0, vi p1, vi p2, vi p3, vi 3, vi u1, vi u2, vi u3, vr b151, .unset, .unset] [])) rfl (hb hby at_93) (by decide) (by decide)
        obtain ⟨b194, g194⟩ : ∃ z, z = h172.size := ⟨_, rfl⟩
        rw [← g194] at A194 D194 st194
        have g_b194 : n0 ≤ b194 := Nat.le_trans Z172 (Nat.le_of_eq g194.symm)
        have Z194 : n0 ≤ h194.size := Nat.le_trans Z172 E194.1
        have hk194 : 0 ≤ h194.size := Nat.le_trans hk172 E194.1
        have R194 := R172.trans (CHr.ext E194 R172.1)
        have S194_b151 := Safe.ext E194 R172.1 S172_b151
        have S194_b194 := Safe.ext E194 R172.1 (Safe.new (x := b194) (Nat.le_of_eq g194.symm))
        have ne_b151_b194 : b151 ≠ b194 := Nat.ne_of_lt (Nat.lt_of_lt_of_le Vr193.lt (Nat.le_of_eq g194.symm))
        have c195 : sC Z h194 G1 := c173.ext E194
        have c196 : sI Z h194 G3 := c174.ext E194
        have c197 : sA Z h194 := c175.ext E194
        have c198 : sH Z h194 := c176.ext E194
        have c199 : sL Z h194 := c177.ext E194
        have c200 : Arv Z h194 b151 k151 .char (3 : Int32) [(.int u1), (.int u2), (.int u3)] (.int 0) := Vr193.ext E194
        have F194_value : Fld Z h194 b194 "java/lang/String" "value" "[B" .null := D194 (Or.inr (tw hw 16 rfl)) (ty := (.array .byte)) (by decide)
        have F194_coder : Fld Z h194 b194 "java/lang/String" "coder" "B" (.int 0) := D194 (Or.inr (tw hw 17 rfl)) (ty := .byte) (by decide)
        obtain ⟨_, _, ⟨T201, L201, k201, n201⟩, -, X201, ⟨Lc201, hQ201, l201, y201, z201⟩, st201⟩ := X194.specialBack hx (y := mN7) rfl hown (mvT hZ (tw hw 4 rfl)) (mvT hZ (tw hw 5 rfl)) (mvT hZ (tw hw 6 rfl)) (by decide) (backOf (W := 1) (rmi2_3 l Z a0 hw [] b194 b151 k151 u1 u2 u3 G1 G3 h194 n0 Z194 A194 F194_value F194_coder g_b194 c200 hb_u1 hb_u2 hb_u3 hW c195 P5 c196 rG3 c197 c198 c199) hZ (tw hw 6 rfl) (tw hw 3 rfl) (by decide) (by decide)) (g := (mkF m 99 #[vi p0, vi p1, vi p2, vi p3, vi 3, vi u1, vi u2, vi u3, vr b151, .unset, .unset] [(.ref b151), (.ref b194), (.ref b194)])) rfl (by rw [hml]; rfl) (Steps.refl _) (a := b194) (argsL := [(.ref b151)]) (rest := [(.ref b194)]) (lenOf pd_18 rfl) rfl (by show 2 * 0 + _ ≤ _; exact Nat.le_of_eq rfl) (hb hby at_99) (fun _ _ => ⟨rfl, e194, (by decide : 2 + 2 ≤ _), (by decide : 7 + 9 ≤ _)⟩)
        dsimp only [Pt.U, Pt.locs, Pt.cells, Pt.slots] at X201 l201 y201 z201 st201 hQ201
        subst l201 y201 z201
        obtain ⟨rfl, Nq201, Kq201, Sq201⟩ := hQ201
        have N201 := Fr.app N172 Nq201
        have Z201 : n0 ≤ T201.heap.size := Nat.le_trans Z194 Kq201.1
        have hk201 : 0 ≤ T201.heap.size := Nat.le_trans hk194 Kq201.1
        have R201 := R194.trans (CHr.keep Kq201 (fun x hx => by cases List.mem_singleton.mp hx; exact S194_b194) R194.1)
        have S201_b151 := Safe.keep Kq201 (fun x hx => by cases List.mem_singleton.mp hx; exact S194_b194) R194.1 S194_b151
        have S201_b194 := Safe.keep Kq201 (fun x hx => by cases List.mem_singleton.mp hx; exact S194_b194) R194.1 S194_b194
        have c202 : sC Z T201.heap G1 := own_sk c195 Kq201 A194
        have c203 : sI Z T201.heap G3 := own_sk c196 Kq201 A194
        have c204 : sA Z T201.heap := own_sk c197 Kq201 A194
        have c205 : sH Z T201.heap := own_sk c198 Kq201 A194
        have c206 : sL Z T201.heap := own_sk c199 Kq201 A194
        refine ⟨b194, T201, _, T201.heap, X201.more (by decide) (by decide), rfl, N201, Z201, hk201, R201, Or.inr Sq201, c202, c203, c204, c205, c206, fun t k => pre178 t ?_⟩
        show SF p e below T172 m 93 #[vi p0, vi p1, vi p2, vi p3, vi 3, vi u1, vi u2, vi u3, vr b151, .unset, .unset] [] _
        refine st194 _ ?_
        refine XS.dup X194.here hx rfl (hb hby at_96) rfl rfl ?_
        refine XS.aload X194.here hx rfl (hb hby at_97) rfl rfl ?_
        refine st201.trans ?_
        refine XS.astore X201.here hx rfl (hb hby at_102) rfl rfl (l' := #[vi p0, vi p1, vi p2, vi p3, vi 3, vi u1, vi u2, vi u3, vr b151, vr b194, .unset]) rfl ?_
        exact k
    obtain ⟨vx, T207, L207, rfl, X207, e207, N207, pre207⟩ : ∃ (vx : Int32) (T207 : State) (L207 : List Loc), (vx = bI (((97 ≤ u1.toInt ∧ u1.toInt ≤ 122) ∨ (48 ≤ u1.toInt ∧ u1.toInt ≤ 57)) ∧ ((97 ≤ u2.toInt ∧ u2.toInt ≤ 122) ∨ (65 ≤ u2.toInt ∧ u2.toInt ≤ 90) ∨ (48 ≤ u2.toInt ∧ u2.toInt ≤ 57) ∨ u2.toInt = 95) ∧ ((97 ≤ u3.toInt ∧ u3.toInt ≤ 122) ∨ (65 ≤ u3.toInt ∧ u3.toInt ≤ 90) ∨ (48 ≤ u3.toInt ∧ u3.toInt ≤ 57) ∨ u3.toInt = 95))) ∧ Stand p l e room_1 (s.setVm s.vm) m #[(.int p0), (.int p1), (.int p2), (.int p3)] below meth c T207 L207 4 16 ∧ T207.heap = hh179 ∧ Fr n0 L207 ∧ ∀ t, SF p e below T207 m 151 #[vi p0, vi p1, vi p2, vi p3, vi 3, vi u1, vi u2, vi u3, vr b151, vr bj, .unset] [(.int vx)] t → SF p e below s₁ m 0 #[vi p0, vi p1, vi p2, vi p3, .unset, .unset, .unset, .unset, .unset, .unset, .unset] [] t := by
      have hc208 : ¬ ((3 : Int32) < (1 : Int32)) := by decide
      obtain ⟨_, _, ⟨T209, L209, k209, n209⟩, -, X209, ⟨Lc209, hQ209, l209, y209, z209⟩, st209⟩ := Jvm.LawKit.callS X179 hx (y := mN4) hown (mvT hZ (tw hw 42 rfl)) (mvT hZ (tw hw 43 rfl)) (mvT hZ (tw hw 44 rfl)) (mvT hZ (tw hw 45 rfl)) (by decide) (backOf (W := 0) (rm9 l Z a0 hw [] u1  hh179 n0 Z179 ) hZ (tw hw 45 rfl) (tw hw 44 rfl) (by decide) (by decide)) (g := (mkF m 112 #[vi p0, vi p1, vi p2, vi p3, vi 3, vi u1, vi u2, vi u3, vr b151, vr bj, .unset] [(.int u1)])) rfl (by rw [hml]; rfl) (argsL := [(.int u1)]) (rest := []) (lenOf pd_0 rfl) rfl (by show 2 * 0 + _ ≤ _; exact Nat.le_of_eq rfl) (hb hby at_112) (fun _ _ => ⟨rfl, e179, (by decide : 4 + 0 ≤ _), (by decide : 16 + 0 ≤ _)⟩)
      dsimp only [Pt.U, Pt.locs, Pt.cells, Pt.slots] at X209 l209 y209 z209 st209 hQ209
      subst l209 y209 z209
      obtain ⟨rfl, Nq209, e209⟩ := hQ209
      have N209 := Fr.app N179 Nq209
      have t209 := own_bt (P := (97 ≤ u1.toInt ∧ u1.toInt ≤ 122) ∨ (48 ≤ u1.toInt ∧ u1.toInt ≤ 57))
      have pre211 : ∀ t, SF p e below T209 m 115 #[vi p0, vi p1, vi p2, vi p3, vi 3, vi u1, vi u2, vi u3, vr b151, vr bj, .unset] [(.int (bI ((97 ≤ u1.toInt ∧ u1.toInt ≤ 122) ∨ (48 ≤ u1.toInt ∧ u1.toInt ≤ 57))))] t → SF p e below s₁ m 0 #[vi p0, vi p1, vi p2, vi p3, .unset, .unset, .unset, .unset, .unset, .unset, .unset] [] t := fun t k => pre179 t (by
        show SF p e below T179 m 104 #[vi p0, vi p1, vi p2, vi p3, vi 3, vi u1, vi u2, vi u3, vr b151, vr bj, .unset] [] _
        refine XS.iload X179.here hx rfl (hb hby at_104) rfl ?_
        refine XS.iconst X179.here hx rfl (hb hby at_106) ?_
        refine XS.icmpNo X179.here hx rfl (hb hby at_107) rfl (flt hc208).1 ?_
        refine XS.iload X179.here hx rfl (hb hby at_110) rfl ?_
        refine st209 _ ?_
        exact k)
      by_cases hc210 : (bI ((97 ≤ u1.toInt ∧ u1.toInt ≤ 122) ∨ (48 ≤ u1.toInt ∧ u1.toInt ≤ 57))) = (0 : Int32)
      · skip
        have ohc210 : (bI ((97 ≤ u1.toInt ∧ u1.toInt ≤ 122) ∨ (48 ≤ u1.toInt ∧ u1.toInt ≤ 57))).toInt = 0 := own_eq.mp hc210
        refine ⟨(0 : Int32), T209, _, ?_, X209, e209, N209, fun t k => pre211 t ?_⟩
        · exact own_c0 (by omega)
        · skip
          show SF p e below T209 m 115 #[vi p0, vi p1, vi p2, vi p3, vi 3, vi u1, vi u2, vi u3, vr b151, vr bj, .unset] [(.int (bI ((97 ≤ u1.toInt ∧ u1.toInt ≤ 122) ∨ (48 ≤ u1.toInt ∧ u1.toInt ≤ 57))))] _
          refine XS.ifYes X209.here hx rfl (pc0 := 115) (pc' := 150) rfl (hb hby at_115) rfl ((if0 _ _).trans (teq hc210).1) (by decide) (by decide) ?_
          show SF p e below T209 m 150 #[vi p0, vi p1, vi p2, vi p3, vi 3, vi u1, vi u2, vi u3, vr b151, vr bj, .unset] [] _
          refine XS.iconst X209.here hx rfl (hb hby at_150) ?_
          exact k
      · skip
        have ohc210 : ¬ ((bI ((97 ≤ u1.toInt ∧ u1.toInt ≤ 122) ∨ (48 ≤ u1.toInt ∧ u1.toInt ≤ 57))).toInt = 0) := own_neq.mp hc210
        have hc212 : ¬ ((3 : Int32) < (2 : Int32)) := by decide
        obtain ⟨_, _, ⟨T213, L213, k213, n213⟩, -, X213, ⟨Lc213, hQ213, l213, y213, z213⟩, st213⟩ := Jvm.LawKit.callS X209 hx (y := mN5) hown (mvT hZ (tw hw 116 rfl)) (mvT hZ (tw hw 117 rfl)) (mvT hZ (tw hw 44 rfl)) (mvT hZ (tw hw 118 rfl)) (by decide) (backOf (W := 0) (rm28 l Z a0 hw [] u2  hh179 n0 Z179 ) hZ (tw hw 118 rfl) (tw hw 44 rfl) (by decide) (by decide)) (g := (mkF m 126 #[vi p0, vi p1, vi p2, vi p3, vi 3, vi u1, vi u2, vi u3, vr b151, vr bj, .unset] [(.int u2)])) rfl (by rw [hml]; rfl) (argsL := [(.int u2)]) (rest := []) (lenOf pd_0 rfl) rfl (by show 2 * 0 + _ ≤ _; exact Nat.le_of_eq rfl) (hb hby at_126) (fun _ _ => ⟨rfl, e209, (by decide : 4 + 0 ≤ _), (by decide : 16 + 0 ≤ _)⟩)
        dsimp only [Pt.U, Pt.locs, Pt.cells, Pt.slots] at X213 l213 y213 z213 st213 hQ213
        subst l213 y213 z213
        obtain ⟨rfl, Nq213, e213⟩ := hQ213
        have N213 := Fr.app N209 Nq213
        have t213 := own_bt (P := (97 ≤ u2.toInt ∧ u2.toInt ≤ 122) ∨ (65 ≤ u2.toInt ∧ u2.toInt ≤ 90) ∨ (48 ≤ u2.toInt ∧ u2.toInt ≤ 57) ∨ u2.toInt = 95)
        have pre215 : ∀ t, SF p e below T213 m 129 #[vi p0, vi p1, vi p2, vi p3, vi 3, vi u1, vi u2, vi u3, vr b151, vr bj, .unset] [(.int (bI ((97 ≤ u2.toInt ∧ u2.toInt ≤ 122) ∨ (65 ≤ u2.toInt ∧ u2.toInt ≤ 90) ∨ (48 ≤ u2.toInt ∧ u2.toInt ≤ 57) ∨ u2.toInt = 95)))] t → SF p e below s₁ m 0 #[vi p0, vi p1, vi p2, vi p3, .unset, .unset, .unset, .unset, .unset, .unset, .unset] [] t := fun t k => pre211 t (by
          show SF p e below T209 m 115 #[vi p0, vi p1, vi p2, vi p3, vi 3, vi u1, vi u2, vi u3, vr b151, vr bj, .unset] [(.int (bI ((97 ≤ u1.toInt ∧ u1.toInt ≤ 122) ∨ (48 ≤ u1.toInt ∧ u1.toInt ≤ 57))))] _
          refine XS.ifNo X209.here hx rfl (hb hby at_115) rfl ((if0 _ _).trans (feq hc210).1) ?_
          show SF p e below T209 m 118 #[vi p0, vi p1, vi p2, vi p3, vi 3, vi u1, vi u2, vi u3, vr b151, vr bj, .unset] [] _
          refine XS.iload X209.here hx rfl (hb hby at_118) rfl ?_
          refine XS.iconst X209.here hx rfl (hb hby at_120) ?_
          refine XS.icmpNo X209.here hx rfl (hb hby at_121) rfl (flt hc212).1 ?_
          refine XS.iload X209.here hx rfl (hb hby at_124) rfl ?_
          refine st213 _ ?_
          exact k)
        by_cases hc214 : (bI ((97 ≤ u2.toInt ∧ u2.toInt ≤ 122) ∨ (65 ≤ u2.toInt ∧ u2.toInt ≤ 90) ∨ (48 ≤ u2.toInt ∧ u2.toInt ≤ 57) ∨ u2.toInt = 95)) = (0 : Int32)
        · skip
          have ohc214 : (bI ((97 ≤ u2.toInt ∧ u2.toInt ≤ 122) ∨ (65 ≤ u2.toInt ∧ u2.toInt ≤ 90) ∨ (48 ≤ u2.toInt ∧ u2.toInt ≤ 57) ∨ u2.toInt = 95)).toInt = 0 := own_eq.mp hc214
          refine ⟨(0 : Int32), T213, _, ?_, X213, e213, N213, fun t k => pre215 t ?_⟩
          · exact own_c0 (by omega)
          · skip
            show SF p e below T213 m 129 #[vi p0, vi p1, vi p2, vi p3, vi 3, vi u1, vi u2, vi u3, vr b151, vr bj, .unset] [(.int (bI ((97 ≤ u2.toInt ∧ u2.toInt ≤ 122) ∨ (65 ≤ u2.toInt ∧ u2.toInt ≤ 90) ∨ (48 ≤ u2.toInt ∧ u2.toInt ≤ 57) ∨ u2.toInt = 95)))] _
            refine XS.ifYes X213.here hx rfl (pc0 := 129) (pc' := 150) rfl (hb hby at_129) rfl ((if0 _ _).trans (teq hc214).1) (by decide) (by decide) ?_
            show SF p e below T213 m 150 #[vi p0, vi p1, vi p2, vi p3, vi 3, vi u1, vi u2, vi u3, vr b151, vr bj, .unset] [] _
            refine XS.iconst X213.here hx rfl (hb hby at_150) ?_
            exact k
        · skip
          have ohc214 : ¬ ((bI ((97 ≤ u2.toInt ∧ u2.toInt ≤ 122) ∨ (65 ≤ u2.toInt ∧ u2.toInt ≤ 90) ∨ (48 ≤ u2.toInt ∧ u2.toInt ≤ 57) ∨ u2.toInt = 95)).toInt = 0) := own_neq.mp hc214
          have hc216 : ¬ ((3 : Int32) < (3 : Int32)) := by decide
          obtain ⟨_, _, ⟨T217, L217, k217, n217⟩, -, X217, ⟨Lc217, hQ217, l217, y217, z217⟩, st217⟩ := Jvm.LawKit.callS X213 hx (y := mN5) hown (mvT hZ (tw hw 116 rfl)) (mvT hZ (tw hw 117 rfl)) (mvT hZ (tw hw 44 rfl)) (mvT hZ (tw hw 118 rfl)) (by decide) (backOf (W := 0) (rm28 l Z a0 hw [] u3  hh179 n0 Z179 ) hZ (tw hw 118 rfl) (tw hw 44 rfl) (by decide) (by decide)) (g := (mkF m 140 #[vi p0, vi p1, vi p2, vi p3, vi 3, vi u1, vi u2, vi u3, vr b151, vr bj, .unset] [(.int u3)])) rfl (by rw [hml]; rfl) (argsL := [(.int u3)]) (rest := []) (lenOf pd_0 rfl) rfl (by show 2 * 0 + _ ≤ _; exact Nat.le_of_eq rfl) (hb hby at_140) (fun _ _ => ⟨rfl, e213, (by decide : 4 + 0 ≤ _), (by decide : 16 + 0 ≤ _)⟩)
          dsimp only [Pt.U, Pt.locs, Pt.cells, Pt.slots] at X217 l217 y217 z217 st217 hQ217
          subst l217 y217 z217
          obtain ⟨rfl, Nq217, e217⟩ := hQ217
          have N217 := Fr.app N213 Nq217
          have t217 := own_bt (P := (97 ≤ u3.toInt ∧ u3.toInt ≤ 122) ∨ (65 ≤ u3.toInt ∧ u3.toInt ≤ 90) ∨ (48 ≤ u3.toInt ∧ u3.toInt ≤ 57) ∨ u3.toInt = 95)
          have pre219 : ∀ t, SF p e below T217 m 143 #[vi p0, vi p1, vi p2, vi p3, vi 3, vi u1, vi u2, vi u3, vr b151, vr bj, .unset] [(.int (bI ((97 ≤ u3.toInt ∧ u3.toInt ≤ 122) ∨ (65 ≤ u3.toInt ∧ u3.toInt ≤ 90) ∨ (48 ≤ u3.toInt ∧ u3.toInt ≤ 57) ∨ u3.toInt = 95)))] t → SF p e below s₁ m 0 #[vi p0, vi p1, vi p2, vi p3, .unset, .unset, .unset, .unset, .unset, .unset, .unset] [] t := fun t k => pre215 t (by
            show SF p e below T213 m 129 #[vi p0, vi p1, vi p2, vi p3, vi 3, vi u1, vi u2, vi u3, vr b151, vr bj, .unset] [(.int (bI ((97 ≤ u2.toInt ∧ u2.toInt ≤ 122) ∨ (65 ≤ u2.toInt ∧ u2.toInt ≤ 90) ∨ (48 ≤ u2.toInt ∧ u2.toInt ≤ 57) ∨ u2.toInt = 95)))] _
            refine XS.ifNo X213.here hx rfl (hb hby at_129) rfl ((if0 _ _).trans (feq hc214).1) ?_
            show SF p e below T213 m 132 #[vi p0, vi p1, vi p2, vi p3, vi 3, vi u1, vi u2, vi u3, vr b151, vr bj, .unset] [] _
            refine XS.iload X213.here hx rfl (hb hby at_132) rfl ?_
            refine XS.iconst X213.here hx rfl (hb hby at_134) ?_
            refine XS.icmpNo X213.here hx rfl (hb hby at_135) rfl (flt hc216).1 ?_
            refine XS.iload X213.here hx rfl (hb hby at_138) rfl ?_
            refine st217 _ ?_
            exact k)
          by_cases hc218 : (bI ((97 ≤ u3.toInt ∧ u3.toInt ≤ 122) ∨ (65 ≤ u3.toInt ∧ u3.toInt ≤ 90) ∨ (48 ≤ u3.toInt ∧ u3.toInt ≤ 57) ∨ u3.toInt = 95)) = (0 : Int32)
          · skip
            have ohc218 : (bI ((97 ≤ u3.toInt ∧ u3.toInt ≤ 122) ∨ (65 ≤ u3.toInt ∧ u3.toInt ≤ 90) ∨ (48 ≤ u3.toInt ∧ u3.toInt ≤ 57) ∨ u3.toInt = 95)).toInt = 0 := own_eq.mp hc218
            refine ⟨(0 : Int32), T217, _, ?_, X217, e217, N217, fun t k => pre219 t ?_⟩
            · exact own_c0 (by omega)
            · skip
              show SF p e below T217 m 143 #[vi p0, vi p1, vi p2, vi p3, vi 3, vi u1, vi u2, vi u3, vr b151, vr bj, .unset] [(.int (bI ((97 ≤ u3.toInt ∧ u3.toInt ≤ 122) ∨ (65 ≤ u3.toInt ∧ u3.toInt ≤ 90) ∨ (48 ≤ u3.toInt ∧ u3.toInt ≤ 57) ∨ u3.toInt = 95)))] _
              refine XS.ifYes X217.here hx rfl (pc0 := 143) (pc' := 150) rfl (hb hby at_143) rfl ((if0 _ _).trans (teq hc218).1) (by decide) (by decide) ?_
              show SF p e below T217 m 150 #[vi p0, vi p1, vi p2, vi p3, vi 3, vi u1, vi u2, vi u3, vr b151, vr bj, .unset] [] _
              refine XS.iconst X217.here hx rfl (hb hby at_150) ?_
              exact k
          · skip
            have ohc218 : ¬ ((bI ((97 ≤ u3.toInt ∧ u3.toInt ≤ 122) ∨ (65 ≤ u3.toInt ∧ u3.toInt ≤ 90) ∨ (48 ≤ u3.toInt ∧ u3.toInt ≤ 57) ∨ u3.toInt = 95)).toInt = 0) := own_neq.mp hc218
            refine ⟨(1 : Int32), T217, _, ?_, X217, e217, N217, fun t k => pre219 t ?_⟩
            · exact own_c1 (by omega)
            · skip
              show SF p e below T217 m 143 #[vi p0, vi p1, vi p2, vi p3, vi 3, vi u1, vi u2, vi u3, vr b151, vr bj, .unset] [(.int (bI ((97 ≤ u3.toInt ∧ u3.toInt ≤ 122) ∨ (65 ≤ u3.toInt ∧ u3.toInt ≤ 90) ∨ (48 ≤ u3.toInt ∧ u3.toInt ≤ 57) ∨ u3.toInt = 95)))] _
              refine XS.ifNo X217.here hx rfl (hb hby at_143) rfl ((if0 _ _).trans (feq hc218).1) ?_
              show SF p e below T217 m 146 #[vi p0, vi p1, vi p2, vi p3, vi 3, vi u1, vi u2, vi u3, vr b151, vr bj, .unset] [] _
              refine XS.iconst X217.here hx rfl (hb hby at_146) ?_
              refine XS.goto X217.here hx rfl (pc0 := 147) (pc' := 151) rfl (hb hby at_147) (by decide) (by decide) ?_
              exact k
    obtain ⟨_, _, ⟨T220, L220, k220, n220⟩, -, X220, ⟨Lc220, hQ220, l220, y220, z220⟩, st220⟩ := Jvm.LawKit.callS X207 hx (y := mN26) hown (mvT hZ (tw hw 22 rfl)) (mvT hZ (tw hw 23 rfl)) (mvT hZ (tw hw 24 rfl)) (mvT hZ (tw hw 25 rfl)) (by decide) (backOf (W := 0) (rmio_c_3 l Z a0 hw [] bj u1 u2 u3 G1 G3 hh179 n0 Z179 c179_0 P5 c179_1 rG3 c179_2 c179_3 c179_4 S179 hb_u1 hb_u2 hb_u3) hZ (tw hw 25 rfl) (tw hw 24 rfl) (by decide) (by decide)) (g := (mkF m 155 #[vi p0, vi p1, vi p2, vi p3, vi 3, vi u1, vi u2, vi u3, vr b151, vr bj, vi (bI (((97 ≤ u1.toInt ∧ u1.toInt ≤ 122) ∨ (48 ≤ u1.toInt ∧ u1.toInt ≤ 57)) ∧ ((97 ≤ u2.toInt ∧ u2.toInt ≤ 122) ∨ (65 ≤ u2.toInt ∧ u2.toInt ≤ 90) ∨ (48 ≤ u2.toInt ∧ u2.toInt ≤ 57) ∨ u2.toInt = 95) ∧ ((97 ≤ u3.toInt ∧ u3.toInt ≤ 122) ∨ (65 ≤ u3.toInt ∧ u3.toInt ≤ 90) ∨ (48 ≤ u3.toInt ∧ u3.toInt ≤ 57) ∨ u3.toInt = 95)))] [(.ref bj)])) rfl (by rw [hml]; rfl) (argsL := [(.ref bj)]) (rest := []) (lenOf pd_17 rfl) rfl (by show 2 * 0 + _ ≤ _; exact Nat.le_of_eq rfl) (hb hby at_155) (fun _ _ => ⟨rfl, e207, (by decide : 4 + 0 ≤ _), (by decide : 16 + 0 ≤ _)⟩)
    dsimp only [Pt.U, Pt.locs, Pt.cells, Pt.slots] at X220 l220 y220 z220 st220 hQ220
    subst l220 y220 z220
    obtain ⟨rfl, Nq220, e220⟩ := hQ220
    have N220 := Fr.app N207 Nq220
    have t220 := own_bt (P := ((97 ≤ u1.toInt ∧ u1.toInt ≤ 122) ∨ (48 ≤ u1.toInt ∧ u1.toInt ≤ 57)) ∧ ((97 ≤ u2.toInt ∧ u2.toInt ≤ 122) ∨ (65 ≤ u2.toInt ∧ u2.toInt ≤ 90) ∨ (48 ≤ u2.toInt ∧ u2.toInt ≤ 57) ∨ u2.toInt = 95) ∧ ((97 ≤ u3.toInt ∧ u3.toInt ≤ 122) ∨ (65 ≤ u3.toInt ∧ u3.toInt ≤ 90) ∨ (48 ≤ u3.toInt ∧ u3.toInt ≤ 57) ∨ u3.toInt = 95))
    have hc221 : (bI (((97 ≤ u1.toInt ∧ u1.toInt ≤ 122) ∨ (48 ≤ u1.toInt ∧ u1.toInt ≤ 57)) ∧ ((97 ≤ u2.toInt ∧ u2.toInt ≤ 122) ∨ (65 ≤ u2.toInt ∧ u2.toInt ≤ 90) ∨ (48 ≤ u2.toInt ∧ u2.toInt ≤ 57) ∨ u2.toInt = 95) ∧ ((97 ≤ u3.toInt ∧ u3.toInt ≤ 122) ∨ (65 ≤ u3.toInt ∧ u3.toInt ≤ 90) ∨ (48 ≤ u3.toInt ∧ u3.toInt ≤ 57) ∨ u3.toInt = 95))) = (bI (((97 ≤ u1.toInt ∧ u1.toInt ≤ 122) ∨ (48 ≤ u1.toInt ∧ u1.toInt ≤ 57)) ∧ ((97 ≤ u2.toInt ∧ u2.toInt ≤ 122) ∨ (65 ≤ u2.toInt ∧ u2.toInt ≤ 90) ∨ (48 ≤ u2.toInt ∧ u2.toInt ≤ 57) ∨ u2.toInt = 95) ∧ ((97 ≤ u3.toInt ∧ u3.toInt ≤ 122) ∨ (65 ≤ u3.toInt ∧ u3.toInt ≤ 90) ∨ (48 ≤ u3.toInt ∧ u3.toInt ≤ 57) ∨ u3.toInt = 95))) := rfl
    have ohc221 : (bI (((97 ≤ u1.toInt ∧ u1.toInt ≤ 122) ∨ (48 ≤ u1.toInt ∧ u1.toInt ≤ 57)) ∧ ((97 ≤ u2.toInt ∧ u2.toInt ≤ 122) ∨ (65 ≤ u2.toInt ∧ u2.toInt ≤ 90) ∨ (48 ≤ u2.toInt ∧ u2.toInt ≤ 57) ∨ u2.toInt = 95) ∧ ((97 ≤ u3.toInt ∧ u3.toInt ≤ 122) ∨ (65 ≤ u3.toInt ∧ u3.toInt ≤ 90) ∨ (48 ≤ u3.toInt ∧ u3.toInt ≤ 57) ∨ u3.toInt = 95))).toInt = (bI (((97 ≤ u1.toInt ∧ u1.toInt ≤ 122) ∨ (48 ≤ u1.toInt ∧ u1.toInt ≤ 57)) ∧ ((97 ≤ u2.toInt ∧ u2.toInt ≤ 122) ∨ (65 ≤ u2.toInt ∧ u2.toInt ≤ 90) ∨ (48 ≤ u2.toInt ∧ u2.toInt ≤ 57) ∨ u2.toInt = 95) ∧ ((97 ≤ u3.toInt ∧ u3.toInt ≤ 122) ∨ (65 ≤ u3.toInt ∧ u3.toInt ≤ 90) ∨ (48 ≤ u3.toInt ∧ u3.toInt ≤ 57) ∨ u3.toInt = 95))).toInt := own_eq.mp hc221
    obtain ⟨fs, hr, hrun, hended, hR⟩ := X220.leaveW hS0 (by rw [e220]; exact hk179) (v := some (.int 1)) (fun h => by rw [Bd.returns] at h; cases h)
    refine ⟨_, _, pre0 _ (pre207 _ ?_), hrun, hended, _, _, rfl, ?_, (by rw [hh]; exact (own_ra (T := T220) R179 (by exact e220) (CHv.at X220 hZ hEL R179.1) : CHr Z consts_1 s.vm h0 T220.vm T220.heap)), own_rew hR (by decide) (by decide)⟩
    · skip
      show SF p e below T207 m 151 #[vi p0, vi p1, vi p2, vi p3, vi 3, vi u1, vi u2, vi u3, vr b151, vr bj, .unset] [(.int (bI (((97 ≤ u1.toInt ∧ u1.toInt ≤ 122) ∨ (48 ≤ u1.toInt ∧ u1.toInt ≤ 57)) ∧ ((97 ≤ u2.toInt ∧ u2.toInt ≤ 122) ∨ (65 ≤ u2.toInt ∧ u2.toInt ≤ 90) ∨ (48 ≤ u2.toInt ∧ u2.toInt ≤ 57) ∨ u2.toInt = 95) ∧ ((97 ≤ u3.toInt ∧ u3.toInt ≤ 122) ∨ (65 ≤ u3.toInt ∧ u3.toInt ≤ 90) ∨ (48 ≤ u3.toInt ∧ u3.toInt ≤ 57) ∨ u3.toInt = 95))))] _
      refine XS.istore X207.here hx rfl (hb hby at_151) rfl (l' := #[vi p0, vi p1, vi p2, vi p3, vi 3, vi u1, vi u2, vi u3, vr b151, vr bj, vi (bI (((97 ≤ u1.toInt ∧ u1.toInt ≤ 122) ∨ (48 ≤ u1.toInt ∧ u1.toInt ≤ 57)) ∧ ((97 ≤ u2.toInt ∧ u2.toInt ≤ 122) ∨ (65 ≤ u2.toInt ∧ u2.toInt ≤ 90) ∨ (48 ≤ u2.toInt ∧ u2.toInt ≤ 57) ∨ u2.toInt = 95) ∧ ((97 ≤ u3.toInt ∧ u3.toInt ≤ 122) ∨ (65 ≤ u3.toInt ∧ u3.toInt ≤ 90) ∨ (48 ≤ u3.toInt ∧ u3.toInt ≤ 57) ∨ u3.toInt = 95)))]) rfl ?_
      refine XS.aload X207.here hx rfl (hb hby at_153) rfl rfl ?_
      refine st220 _ ?_
      refine XS.iload X220.here hx rfl (hb hby at_158) rfl ?_
      refine XS.icmpNo X220.here hx rfl (hb hby at_160) rfl (teq hc221).2 ?_
      show SF p e below T220 m 163 #[vi p0, vi p1, vi p2, vi p3, vi 3, vi u1, vi u2, vi u3, vr b151, vr bj, vi (bI (((97 ≤ u1.toInt ∧ u1.toInt ≤ 122) ∨ (48 ≤ u1.toInt ∧ u1.toInt ≤ 57)) ∧ ((97 ≤ u2.toInt ∧ u2.toInt ≤ 122) ∨ (65 ≤ u2.toInt ∧ u2.toInt ≤ 90) ∨ (48 ≤ u2.toInt ∧ u2.toInt ≤ 57) ∨ u2.toInt = 95) ∧ ((97 ≤ u3.toInt ∧ u3.toInt ≤ 122) ∨ (65 ≤ u3.toInt ∧ u3.toInt ≤ 90) ∨ (48 ≤ u3.toInt ∧ u3.toInt ≤ 57) ∨ u3.toInt = 95)))] [] _
      refine XS.iconst X220.here hx rfl (hb hby at_163) ?_
      refine XS.goto X220.here hx rfl (pc0 := 164) (pc' := 168) rfl (hb hby at_164) (by decide) (by decide) ?_
      show SF p e below T220 m 168 #[vi p0, vi p1, vi p2, vi p3, vi 3, vi u1, vi u2, vi u3, vr b151, vr bj, vi (bI (((97 ≤ u1.toInt ∧ u1.toInt ≤ 122) ∨ (48 ≤ u1.toInt ∧ u1.toInt ≤ 57)) ∧ ((97 ≤ u2.toInt ∧ u2.toInt ≤ 122) ∨ (65 ≤ u2.toInt ∧ u2.toInt ≤ 90) ∨ (48 ≤ u2.toInt ∧ u2.toInt ≤ 57) ∨ u2.toInt = 95) ∧ ((97 ≤ u3.toInt ∧ u3.toInt ≤ 122) ∨ (65 ≤ u3.toInt ∧ u3.toInt ≤ 90) ∨ (48 ≤ u3.toInt ∧ u3.toInt ≤ 57) ∨ u3.toInt = 95)))] [(.int 1)] _
      exact retN X220 hx (t := .boolean) Bd.returns (by simp) (hb hby at_168) hr
    · show Q0 Z p0 p1 p2 p3 G1 G3 h0 n0 _ T220.heap _
      rw [e220]
      exact ⟨rfl, N220⟩
set_option maxRecDepth 65536 in
set_option maxHeartbeats 40000000 in
theorem comes_1 {Post : Tables → Env → Array Value → State → Outcome → State → Prop} (hpost : ∀ tb e args s v u, (limb_1_1.after args s (.returned v) u = true ∧ limb_1_2.after args s (.returned v) u = true ∧ True) → ReturnedEndW s (.returned v) u (Jvm.fieldLocs frame_1_writes args s ++ Jvm.arrayLocs frame_1_arrays args s ++ Jvm.staticLocs frame_1_statics s) 24 1152 → Post tb e args s (.returned v) u) :
    ArmFor flags0 classFile x code maxLocals ret World_1 tables_1 room_1 Calls_1 rest_1 Pre_1 Post := by
  intro l hfl _ _ p e ha hc hk s m args below hf hA hF happ hP
  obtain ⟨hcalls, hrest, hpre⟩ := hP
  obtain ⟨-, -, -, hnamed, -, -, -, hat⟩ := (Spec.applies_iff hf).mp happ
  obtain ⟨hg, hn⟩ := and_e (Cond.before_iff.mp (show (Jvm.Cond.and given_1 narrow_1).before args s = true from hpre))
  obtain ⟨g1, g2⟩ := and_e hg
  obtain ⟨g3, g4⟩ := and_e g2
  obtain ⟨g5, g6⟩ := and_e g4
  obtain ⟨g7, g8⟩ := and_e g6
  obtain ⟨w0, w1, w2, w3, rfl⟩ : ∃ w0 w1 w2 w3 : Value, args = #[w0, w1, w2, w3] := by
    have hs : args.size = 4 := by simpa [Cond.value, given_1] using g1
    obtain ⟨L⟩ := args
    match L, hs with
    | [w0, w1, w2, w3], _ => exact ⟨w0, w1, w2, w3, rfl⟩
  have hw := fun d (hd : d ∈ tables_1) => atoms_spec (ws := Jvm.Cond.code x code maxLocals ret :: tables_1) hat d (List.mem_cons_of_mem _ hd)
  have hfit : Fit s := fun {y c} hc i hi => by
    obtain ⟨ha, rfl⟩ := Array.getElem?_eq_some_iff.mp hc
    have q := List.all_eq_true.mp ((Array.all_eq_true_iff_forall_mem.mp hF) _ (Array.getElem_mem ha)) i (List.mem_range.mpr hi)
    simpa [Array.getElem?_eq_getElem hi] using q
  obtain ⟨hsets, hown0⟩ := atoms_of _ (rest_1_c_eq ▸ (show rest_1_c.before _ s = true from hrest))
  have hr0 := Cond.before_iff.mp hown0
  obtain ⟨i0, ei0⟩ := is_v g3
  obtain rfl : w0 = (.int i0) := Option.some.inj ei0
  obtain ⟨i1, ei1⟩ := is_v g5
  obtain rfl : w1 = (.int i1) := Option.some.inj ei1
  obtain ⟨i2, ei2⟩ := is_v g7
  obtain rfl : w2 = (.int i2) := Option.some.inj ei2
  obtain ⟨i3, ei3⟩ := is_v g8
  obtain rfl : w3 = (.int i3) := Option.some.inj ei3
  obtain ⟨G1, eG1⟩ := is_v (Cond.before_iff.mp (hsets _ (List.mem_of_getElem? (i := 1) rfl)))
  have O2 : sC s s.heap G1 := Sta.start eG1 (Or.inl (hsets _ (List.mem_of_getElem? (i := 0) rfl)))
  have P5 : ¬ (G1 = (0 : Int32)) := gotF (Cond.eq_ints eG1 (Term.int_eval (0))) (not_v (Cond.before_iff.mp (hsets _ (List.mem_of_getElem? (i := 2) rfl))))
  obtain ⟨G3, eG3, rG3⟩ := isR_v (Cond.before_iff.mp (hsets _ (List.mem_of_getElem? (i := 8) rfl)))
  have O4 : sI s s.heap G3 := Sta.start eG3 (Or.inl (hsets _ (List.mem_of_getElem? (i := 7) rfl)))
  have OA : sA s s.heap := Sta.start (own_eqI (Cond.before_iff.mp (hsets _ (List.mem_of_getElem? (i := 12) rfl)))) (Or.inl (hsets _ (List.mem_of_getElem? (i := 11) rfl)))
  have OH : sH s s.heap := Sta.start (own_eqI (Cond.before_iff.mp (hsets _ (List.mem_of_getElem? (i := 15) rfl)))) (Or.inl (hsets _ (List.mem_of_getElem? (i := 14) rfl)))
  have OL : sL s s.heap := Sta.start (own_eqI (Cond.before_iff.mp (hsets _ (List.mem_of_getElem? (i := 18) rfl)))) (Or.inl (hsets _ (List.mem_of_getElem? (i := 17) rfl)))
  have hCH : CHv s consts_1 s.vm s.heap := CHv.start (own_ew hw) (fun p hp => hcalls.1 p hp) (hsets _ (List.mem_of_getElem? (i := 2) rfl)) (tw hw 15 rfl) (tw hw 2 rfl)
  obtain ⟨n, o, h1, h2, h3, _, L, rfl, ⟨rfl, N⟩, -, hq⟩ := rm0 l s _ hw tables_1 i0 i1 i2 i3 G1 G3 s.heap s.heap.size (Nat.le_refl _) O2 P5 O4 rG3 OA OH OL p e ha hc hk s m _ below hf ((Spec.applies_iff_loose hf).mp happ).1 ⟨rfl, State.Warmed39.refl s, rfl, hCH⟩ trivial
  refine ⟨n, _, h1, h2, h3, hpost _ _ _ _ _ _ ⟨Cond.after_iff.mpr rfl, Cond.after_iff.mpr (eq_i res_at (Term.int_eval (1)) rfl), trivial⟩ ⟨hq.1, hq.2.1, hq.2.2.1, (hq.2.2.2.sift fun y hy => Or.inr (N y hy)).mono (by decide) (by decide)⟩⟩
theorem main_1_1 : Claimed_1_1 := comes_1 fun _ _ _ _ _ _ h hF => ⟨h.1, hF⟩
theorem main_1_2 : Claimed_1_2 := comes_1 fun _ _ _ _ _ _ h hF => ⟨h.2.1, hF⟩
end Jvm.Pilot.@@N@@
namespace Jvm.Pilot.@@N@@
open Jvm Jvm.ClassFile Sem Op Lib Jvm.Free Jvm.Stand Jvm.Pilot.@@N@@.Jvm.D
/-! MADE BY PROGRAM (witnessworld.py) out of the Statement's table words and the real class files: 20 classes; the members and pool entries that the words name. The judged class is class 1, her method 3. -/
namespace start1
open Jvm.ClassFile
def u (s : String) : CpInfo := .utf8 (stringToUtf16 s)
/-- a pool by its gaps: so many unusable entries, then the entry; so many at the end -/
def gap : Nat → List CpInfo → List CpInfo
  | 0, r => r
  | n + 1, r => .unusable :: gap n r
def poolList (es : List (Nat × CpInfo)) (last : Nat) : List CpInfo := es.foldr (fun e r => gap e.1 (e.2 :: r)) (gap last [])
def pool (es : List (Nat × CpInfo)) (last : Nat) : Array CpInfo := ⟨poolList es last⟩
def fileOf (pool : Array CpInfo) (this : Nat) (attrs : Array Attribute := #[]) (ms : Array MethodInfo := #[]) (fl : Nat := 33) (sup : Nat := 0) (ifs : Array Nat := #[]) (fds : Array FieldInfo := #[]) : ClassFile where
  minorVersion := 0
  majorVersion := 65
  constantPool := pool
  accessFlags := fl
  thisClass := this
  superClass := sup
  interfaces := ifs
  fields := fds
  methods := ms
  attributes := attrs
def plain (name : String) (sup : Option ClassId) : Class where
  name := name
  kind := .ordinary
  loader := none
  accessFlags := 33
  super := sup
  interfaces := #[]
  cf := none
  fields := #[]
  methods := #[]
  instanceTypes := #[]
  staticTypes := #[]
  resolved := #[]
  callSites := []
  init := .initialized
  statics := none
  mirror := none

def pool0 : Array CpInfo := pool [(5, u "<init>"), (0, u "()V"), (1, .class_ 10), (1, u "java/lang/Object")] 113

def k0c0 : Code := { maxStack := 0, maxLocals := 1, code := object_method_1_code, exceptionTable := #[], attributes := #[] }
def k0m0 : Method := { name := "<init>", desc := "()V", sig := { parameters := [], returnType := none }, accessFlags := 1, code := some k0c0 }
/-- java/lang/Object -/
def k0 : Class := { plain "java/lang/Object" none with
  accessFlags := 33
  interfaces := #[]
  cf := some (fileOf pool0 8 #[] #[{ accessFlags := 1, nameIndex := 5, descriptorIndex := 6, attributes := #[] }] 33 0 #[] #[])
  fields := #[]
  methods := #[k0m0]
  instanceTypes := #[]
  staticTypes := #[]
  resolved := Array.replicate 124 none
  statics := none }

def pool1 : Array CpInfo := pool [(2, .class_ 4), (1, u "java/lang/Object"), (0, u "<init>"), (0, u "()V"), (0, .methodref 8 9), (0, .class_ 10), (0, .nameAndType 11 12), (0, u "com/example/orql/orql/SyntaxIsObjectPinLaw"), (0, u "startsObject"), (0, u "(C)Z"), (0, .class_ 14), (0, u "java/lang/String"), (0, .methodref 13 16), (0, .nameAndType 5 17), (0, u "([C)V"), (0, .methodref 8 19), (0, .nameAndType 20 12), (0, u "continuesWord"), (0, .methodref 22 23), (0, .class_ 24), (0, .nameAndType 25 26), (0, u "com/example/orql/orql/Syntax"), (0, u "isObject"), (0, u "(Ljava/lang/String;)Z"), (3, u "law"), (0, u "(IIII)Z")] 4

def k1m0 : Method := { name := "<init>", desc := "()V", sig := { parameters := [], returnType := none }, accessFlags := 1, code := none }
def k1c1 : Code := { maxStack := 2, maxLocals := 1, code := method_2_code, exceptionTable := #[], attributes := #[] }
def k1m1 : Method := { name := "startsObject", desc := "(C)Z", sig := { parameters := [.char], returnType := some .boolean }, accessFlags := 10, code := some k1c1 }
def k1c2 : Code := { maxStack := 2, maxLocals := 1, code := method_3_code, exceptionTable := #[], attributes := #[] }
def k1m2 : Method := { name := "continuesWord", desc := "(C)Z", sig := { parameters := [.char], returnType := some .boolean }, accessFlags := 10, code := some k1c2 }
def k1c3 : Code := { maxStack := 4, maxLocals := 11, code := code, exceptionTable := #[], attributes := #[] }
def k1m3 : Method := { name := "law", desc := "(IIII)Z", sig := { parameters := [.int, .int, .int, .int], returnType := some .boolean }, accessFlags := 9, code := some k1c3 }
/-- com/example/orql/orql/SyntaxIsObjectPinLaw -/
def k1 : Class := { plain "com/example/orql/orql/SyntaxIsObjectPinLaw" (some 0) with
  accessFlags := 49
  interfaces := #[]
  cf := some (fileOf pool1 8 #[] #[{ accessFlags := 1, nameIndex := 5, descriptorIndex := 6, attributes := #[] }, { accessFlags := 10, nameIndex := 11, descriptorIndex := 12, attributes := #[] }, { accessFlags := 10, nameIndex := 20, descriptorIndex := 12, attributes := #[] }, { accessFlags := 9, nameIndex := 30, descriptorIndex := 31, attributes := #[] }] 49 2 #[] #[])
  fields := #[]
  methods := #[k1m0, k1m1, k1m2, k1m3]
  instanceTypes := #[]
  staticTypes := #[]
  resolved := Array.replicate 36 none
  statics := none }

def pool2 : Array CpInfo := pool [(1, .class_ 2), (0, u "java/io/Serializable"), (0, .class_ 4), (0, u "java/lang/Object")] 2

/-- java/io/Serializable -/
def k2 : Class := { plain "java/io/Serializable" (some 0) with
  accessFlags := 1537
  interfaces := #[]
  cf := some (fileOf pool2 1 #[] #[] 1537 3 #[] #[])
  fields := #[]
  methods := #[]
  instanceTypes := #[]
  staticTypes := #[]
  resolved := Array.replicate 7 none
  statics := none }

def pool3 : Array CpInfo := pool [(1, .class_ 2), (0, u "java/lang/Comparable"), (0, .class_ 4), (0, u "java/lang/Object")] 7

/-- java/lang/Comparable -/
def k3 : Class := { plain "java/lang/Comparable" (some 0) with
  accessFlags := 1537
  interfaces := #[]
  cf := some (fileOf pool3 1 #[] #[] 1537 3 #[] #[])
  fields := #[]
  methods := #[]
  instanceTypes := #[]
  staticTypes := #[]
  resolved := Array.replicate 12 none
  statics := none }

def pool4 : Array CpInfo := pool [(2, .class_ 4), (1, u "java/lang/CharSequence"), (42, .class_ 48), (0, u "java/lang/CharSequence$1CodePointIterator"), (10, .class_ 60), (0, u "java/lang/CharSequence$1CharIterator"), (5, .class_ 67), (0, u "java/lang/Object")] 63

/-- java/lang/CharSequence -/
def k4 : Class := { plain "java/lang/CharSequence" (some 0) with
  accessFlags := 1537
  interfaces := #[]
  cf := some (fileOf pool4 2 #[.nestMembers #[47, 59]] #[] 1537 66 #[] #[])
  fields := #[]
  methods := #[]
  instanceTypes := #[]
  staticTypes := #[]
  resolved := Array.replicate 131 none
  statics := none }

def pool5 : Array CpInfo := pool [(1, .class_ 2), (0, u "java/lang/constant/Constable"), (0, .class_ 4), (0, u "java/lang/Object")] 6

/-- java/lang/constant/Constable -/
def k5 : Class := { plain "java/lang/constant/Constable" (some 0) with
  accessFlags := 1537
  interfaces := #[]
  cf := some (fileOf pool5 1 #[] #[] 1537 3 #[] #[])
  fields := #[]
  methods := #[]
  instanceTypes := #[]
  staticTypes := #[]
  resolved := Array.replicate 11 none
  statics := none }

def pool6 : Array CpInfo := pool [(1, .class_ 2), (0, u "java/lang/constant/ConstantDesc"), (0, .class_ 4), (0, u "java/lang/Object")] 32

/-- java/lang/constant/ConstantDesc -/
def k6 : Class := { plain "java/lang/constant/ConstantDesc" (some 0) with
  accessFlags := 1537
  interfaces := #[]
  cf := some (fileOf pool6 1 #[] #[] 1537 3 #[] #[])
  fields := #[]
  methods := #[]
  instanceTypes := #[]
  staticTypes := #[]
  resolved := Array.replicate 37 none
  statics := none }

def pool7 : Array CpInfo := pool [(1, .methodref 2 3), (0, .class_ 4), (0, .nameAndType 5 6), (0, u "java/lang/Object"), (0, u "<init>"), (0, u "()V"), (0, .string 8), (0, u ""), (0, .fieldref 10 11), (0, .class_ 12), (0, .nameAndType 13 14), (0, u "java/lang/String"), (0, u "value"), (0, u "[B"), (0, .fieldref 10 16), (0, .nameAndType 17 18), (0, u "coder"), (0, u "B"), (2, u "hash"), (0, u "I"), (2, u "hashIsZero"), (0, u "Z"), (0, .methodref 10 28), (0, .nameAndType 5 29), (0, u "([CIILjava/lang/Void;)V"), (8, .fieldref 10 39), (0, .nameAndType 40 26), (0, u "COMPACT_STRINGS"), (1, .class_ 44), (1, u "java/lang/StringUTF16"), (0, u "compress"), (1, .methodref 42 48), (0, .nameAndType 49 50), (0, u "coderFromArrayLen"), (0, u "([BI)B"), (56, .class_ 109), (1, u "java/lang/StringLatin1"), (32, u "()Z"), (34, .methodref 42 178), (0, .nameAndType 45 179), (0, u "([CII)[B"), (154, u "()I"), (0, .methodref 10 336), (0, .nameAndType 17 337), (0, u "()B"), (25, u "([BI)C"), (27, u "(II)V"), (35, u "(I)C"), (64, .methodref 10 493), (0, .nameAndType 494 142), (0, u "isLatin1"), (0, .methodref 107 496), (0, .nameAndType 497 363), (0, u "charAt"), (0, .methodref 42 496), (2, u "checkIndex"), (5, u "length"), (67, .class_ 576), (0, u "java/lang/CharSequence"), (22, u "CASE_INSENSITIVE_ORDER"), (0, u "Ljava/util/Comparator;"), (91, u "isEmpty"), (317, u "([C)V"), (42, .fieldref 1054 1055), (0, .class_ 1056), (0, .nameAndType 1057 1058), (0, u "jdk/internal/util/Preconditions"), (0, u "SIOOBE_FORMATTER"), (0, u "Ljava/util/function/BiFunction;"), (0, .methodref 1054 1060), (0, .nameAndType 501 1061), (0, u "(IILjava/util/function/BiFunction;)I"), (39, u "serialPersistentFields"), (0, u "[Ljava/io/ObjectStreamField;"), (0, .class_ 1104), (0, u "java/lang/String$CaseInsensitiveComparator"), (1, .class_ 1107), (0, u "java/io/Serializable"), (0, .class_ 1109), (0, u "java/lang/Comparable"), (0, .class_ 1111), (0, u "java/lang/constant/Constable"), (0, .class_ 1113), (0, u "java/lang/constant/ConstantDesc"), (2, u "serialVersionUID"), (0, u "J"), (3, u "REPL"), (0, u "C"), (2, u "LATIN1"), (1, u "UTF16")] 323

def k7m0 : Method := { name := "<init>", desc := "()V", sig := { parameters := [], returnType := none }, accessFlags := 1, code := none }
def k7c1 : Code := { maxStack := 5, maxLocals := 2, code := jdk_42_method_3_code, exceptionTable := #[], attributes := #[] }
def k7m1 : Method := { name := "<init>", desc := "([C)V", sig := { parameters := [(.array .char)], returnType := none }, accessFlags := 1, code := some k7c1 }
def k7c2 : Code := { maxStack := 2, maxLocals := 1, code := jdk_42_method_54_code, exceptionTable := #[], attributes := #[] }
def k7m2 : Method := { name := "length", desc := "()I", sig := { parameters := [], returnType := some .int }, accessFlags := 1, code := some k7c2 }
def k7c3 : Code := { maxStack := 1, maxLocals := 1, code := jdk_42_method_55_code, exceptionTable := #[], attributes := #[] }
def k7m3 : Method := { name := "isEmpty", desc := "()Z", sig := { parameters := [], returnType := some .boolean }, accessFlags := 1, code := some k7c3 }
def k7c4 : Code := { maxStack := 2, maxLocals := 2, code := jdk_42_method_56_code, exceptionTable := #[], attributes := #[] }
def k7m4 : Method := { name := "charAt", desc := "(I)C", sig := { parameters := [.int], returnType := some .char }, accessFlags := 1, code := some k7c4 }
def k7c5 : Code := { maxStack := 4, maxLocals := 6, code := jdk_42_method_149_code, exceptionTable := #[], attributes := #[] }
def k7m5 : Method := { name := "<init>", desc := "([CIILjava/lang/Void;)V", sig := { parameters := [(.array .char), .int, .int, (.object "java/lang/Void")], returnType := none }, accessFlags := 2, code := some k7c5 }
def k7c6 : Code := { maxStack := 1, maxLocals := 1, code := jdk_42_method_152_code, exceptionTable := #[], attributes := #[] }
def k7m6 : Method := { name := "coder", desc := "()B", sig := { parameters := [], returnType := some .byte }, accessFlags := 0, code := some k7c6 }
def k7c7 : Code := { maxStack := 1, maxLocals := 1, code := jdk_42_method_154_code, exceptionTable := #[], attributes := #[] }
def k7m7 : Method := { name := "isLatin1", desc := "()Z", sig := { parameters := [], returnType := some .boolean }, accessFlags := 0, code := some k7c7 }
def k7c8 : Code := { maxStack := 3, maxLocals := 2, code := jdk_42_method_155_code, exceptionTable := #[], attributes := #[] }
def k7m8 : Method := { name := "checkIndex", desc := "(II)V", sig := { parameters := [.int, .int], returnType := none }, accessFlags := 8, code := some k7c8 }
/-- java/lang/String -/
def k7 : Class := { plain "java/lang/String" (some 0) with
  accessFlags := 49
  interfaces := #[2, 3, 4, 5, 6]
  cf := some (fileOf pool7 10 #[.nestMembers #[1103]] #[{ accessFlags := 1, nameIndex := 5, descriptorIndex := 6, attributes := #[] }, { accessFlags := 1, nameIndex := 5, descriptorIndex := 1010, attributes := #[] }, { accessFlags := 1, nameIndex := 507, descriptorIndex := 334, attributes := #[] }, { accessFlags := 1, nameIndex := 692, descriptorIndex := 142, attributes := #[] }, { accessFlags := 1, nameIndex := 497, descriptorIndex := 427, attributes := #[] }, { accessFlags := 2, nameIndex := 5, descriptorIndex := 29, attributes := #[] }, { accessFlags := 0, nameIndex := 17, descriptorIndex := 337, attributes := #[] }, { accessFlags := 0, nameIndex := 494, descriptorIndex := 142, attributes := #[] }, { accessFlags := 8, nameIndex := 501, descriptorIndex := 391, attributes := #[] }] 49 2 #[1106, 1108, 575, 1110, 1112] #[{ accessFlags := 18, nameIndex := 13, descriptorIndex := 14, attributes := #[] }, { accessFlags := 18, nameIndex := 17, descriptorIndex := 18, attributes := #[] }, { accessFlags := 2, nameIndex := 21, descriptorIndex := 22, attributes := #[] }, { accessFlags := 2, nameIndex := 25, descriptorIndex := 26, attributes := #[] }, { accessFlags := 26, nameIndex := 1116, descriptorIndex := 1117, attributes := #[] }, { accessFlags := 24, nameIndex := 40, descriptorIndex := 26, attributes := #[] }, { accessFlags := 26, nameIndex := 1101, descriptorIndex := 1102, attributes := #[] }, { accessFlags := 26, nameIndex := 1121, descriptorIndex := 1122, attributes := #[] }, { accessFlags := 25, nameIndex := 599, descriptorIndex := 600, attributes := #[] }, { accessFlags := 24, nameIndex := 1125, descriptorIndex := 18, attributes := #[] }, { accessFlags := 24, nameIndex := 1127, descriptorIndex := 18, attributes := #[] }])
  fields := #[{ name := "value", type := (.array .byte), accessFlags := 18, slot := 0, constantValue := 0 }, { name := "coder", type := .byte, accessFlags := 18, slot := 1, constantValue := 0 }, { name := "hash", type := .int, accessFlags := 2, slot := 2, constantValue := 0 }, { name := "hashIsZero", type := .boolean, accessFlags := 2, slot := 3, constantValue := 0 }, { name := "serialVersionUID", type := .long, accessFlags := 26, slot := 0, constantValue := 0 }, { name := "COMPACT_STRINGS", type := .boolean, accessFlags := 24, slot := 1, constantValue := 0 }, { name := "serialPersistentFields", type := (.array (.object "java/io/ObjectStreamField")), accessFlags := 26, slot := 2, constantValue := 0 }, { name := "REPL", type := .char, accessFlags := 26, slot := 3, constantValue := 0 }, { name := "CASE_INSENSITIVE_ORDER", type := (.object "java/util/Comparator"), accessFlags := 25, slot := 4, constantValue := 0 }, { name := "LATIN1", type := .byte, accessFlags := 24, slot := 5, constantValue := 0 }, { name := "UTF16", type := .byte, accessFlags := 24, slot := 6, constantValue := 0 }]
  methods := #[k7m0, k7m1, k7m2, k7m3, k7m4, k7m5, k7m6, k7m7, k7m8]
  instanceTypes := #[(.array .byte), .byte, .int, .boolean]
  staticTypes := #[.long, .boolean, (.array (.object "java/io/ObjectStreamField")), .char, (.object "java/util/Comparator"), .byte, .byte]
  resolved := Array.replicate 1451 none
  statics := some 0 }

def pool8 : Array CpInfo := pool [(2, .class_ 4), (1, u "java/lang/Object"), (0, u "<init>"), (0, u "()V"), (0, .methodref 8 9), (0, .class_ 10), (0, .nameAndType 11 12), (0, u "com/example/orql/orql/Syntax"), (0, u "isLowerCase"), (0, u "(C)Z"), (0, .methodref 8 14), (0, .nameAndType 15 12), (0, u "isUpperCase"), (0, .methodref 8 17), (0, .nameAndType 18 12), (0, u "isDigit"), (0, .methodref 20 21), (0, .class_ 22), (0, .nameAndType 23 24), (0, u "java/lang/String"), (0, u "isEmpty"), (0, u "()Z"), (0, .methodref 20 26), (0, .nameAndType 27 28), (0, u "charAt"), (0, u "(I)C"), (0, .methodref 8 30), (0, .nameAndType 31 32), (0, u "continuesAsWord"), (0, u "(Ljava/lang/String;)Z"), (0, .methodref 20 34), (0, .nameAndType 35 36), (0, u "length"), (0, u "()I"), (0, .methodref 8 38), (0, .nameAndType 39 12), (0, u "isWordChar"), (5, u "isObject")] 2

def k8m0 : Method := { name := "<init>", desc := "()V", sig := { parameters := [], returnType := none }, accessFlags := 2, code := none }
def k8c1 : Code := { maxStack := 2, maxLocals := 1, code := prog_38_method_2_code, exceptionTable := #[], attributes := #[] }
def k8m1 : Method := { name := "isWordChar", desc := "(C)Z", sig := { parameters := [.char], returnType := some .boolean }, accessFlags := 8, code := some k8c1 }
def k8c2 : Code := { maxStack := 2, maxLocals := 1, code := prog_38_method_5_code, exceptionTable := #[], attributes := #[] }
def k8m2 : Method := { name := "isObject", desc := "(Ljava/lang/String;)Z", sig := { parameters := [(.object "java/lang/String")], returnType := some .boolean }, accessFlags := 8, code := some k8c2 }
def k8c3 : Code := { maxStack := 2, maxLocals := 2, code := prog_38_method_6_code, exceptionTable := #[], attributes := #[] }
def k8m3 : Method := { name := "continuesAsWord", desc := "(Ljava/lang/String;)Z", sig := { parameters := [(.object "java/lang/String")], returnType := some .boolean }, accessFlags := 10, code := some k8c3 }
def k8c4 : Code := { maxStack := 2, maxLocals := 1, code := prog_38_method_7_code, exceptionTable := #[], attributes := #[] }
def k8m4 : Method := { name := "isLowerCase", desc := "(C)Z", sig := { parameters := [.char], returnType := some .boolean }, accessFlags := 10, code := some k8c4 }
def k8c5 : Code := { maxStack := 2, maxLocals := 1, code := prog_38_method_8_code, exceptionTable := #[], attributes := #[] }
def k8m5 : Method := { name := "isUpperCase", desc := "(C)Z", sig := { parameters := [.char], returnType := some .boolean }, accessFlags := 10, code := some k8c5 }
def k8c6 : Code := { maxStack := 2, maxLocals := 1, code := prog_38_method_9_code, exceptionTable := #[], attributes := #[] }
def k8m6 : Method := { name := "isDigit", desc := "(C)Z", sig := { parameters := [.char], returnType := some .boolean }, accessFlags := 10, code := some k8c6 }
/-- com/example/orql/orql/Syntax -/
def k8 : Class := { plain "com/example/orql/orql/Syntax" (some 0) with
  accessFlags := 32
  interfaces := #[]
  cf := some (fileOf pool8 8 #[] #[{ accessFlags := 2, nameIndex := 5, descriptorIndex := 6, attributes := #[] }, { accessFlags := 8, nameIndex := 39, descriptorIndex := 12, attributes := #[] }, { accessFlags := 8, nameIndex := 45, descriptorIndex := 32, attributes := #[] }, { accessFlags := 10, nameIndex := 31, descriptorIndex := 32, attributes := #[] }, { accessFlags := 10, nameIndex := 11, descriptorIndex := 12, attributes := #[] }, { accessFlags := 10, nameIndex := 15, descriptorIndex := 12, attributes := #[] }, { accessFlags := 10, nameIndex := 18, descriptorIndex := 12, attributes := #[] }] 32 2 #[] #[])
  fields := #[]
  methods := #[k8m0, k8m1, k8m2, k8m3, k8m4, k8m5, k8m6]
  instanceTypes := #[]
  staticTypes := #[]
  resolved := Array.replicate 48 none
  statics := none }

def pool9 : Array CpInfo := pool [(3, .class_ 4), (0, u "java/lang/String"), (1, .class_ 8), (1, u "java/lang/Object"), (0, u "<init>"), (0, u "()V"), (0, .methodref 12 13), (0, .class_ 14), (0, .nameAndType 15 16), (0, u "java/lang/StringUTF16"), (0, u "newBytesLength"), (0, u "(I)I"), (3, .integer 1073741823), (23, .fieldref 12 45), (0, .nameAndType 46 47), (0, u "$assertionsDisabled"), (0, u "Z"), (0, .methodref 12 49), (0, .nameAndType 50 51), (0, u "length"), (0, u "([B)I"), (7, .fieldref 12 60), (0, .nameAndType 61 62), (0, u "HI_BYTE_SHIFT"), (0, u "I"), (0, .fieldref 12 64), (0, .nameAndType 65 62), (0, u "LO_BYTE_SHIFT"), (1, .methodref 12 68), (0, .nameAndType 69 70), (0, u "checkIndex"), (0, u "(I[B)V"), (0, .methodref 12 72), (0, .nameAndType 73 74), (0, u "getChar"), (0, u "([BI)C"), (32, .methodref 12 108), (0, .nameAndType 109 110), (0, u "newBytesFor"), (0, u "(I)[B"), (0, .methodref 12 112), (0, .nameAndType 113 114), (0, u "putChar"), (0, u "([BII)V"), (0, .methodref 12 116), (0, .nameAndType 117 118), (0, u "compress"), (0, u "([CI[BII)I"), (0, .methodref 12 120), (0, .nameAndType 121 122), (0, u "toBytes"), (0, u "([CII)[B"), (138, u "coderFromArrayLen"), (0, u "([BI)B"), (106, .class_ 371), (1, u "java/lang/StringUTF16$LinesSpliterator"), (20, u "charAt"), (21, .methodref 3 415), (0, .nameAndType 69 416), (0, u "(II)V"), (13, u "MAX_LENGTH"), (196, .class_ 628), (0, u "java/lang/StringUTF16$CodePointsSpliterator"), (0, .class_ 630), (0, u "java/lang/StringUTF16$CharsSpliterator")] 4

def k9m0 : Method := { name := "<init>", desc := "()V", sig := { parameters := [], returnType := none }, accessFlags := 0, code := none }
def k9c1 : Code := { maxStack := 1, maxLocals := 1, code := jdk_52_method_2_code, exceptionTable := #[], attributes := #[] }
def k9m1 : Method := { name := "newBytesFor", desc := "(I)[B", sig := { parameters := [.int], returnType := some (.array .byte) }, accessFlags := 9, code := some k9c1 }
def k9c2 : Code := { maxStack := 4, maxLocals := 1, code := jdk_52_method_3_code, exceptionTable := #[], attributes := #[] }
def k9m2 : Method := { name := "newBytesLength", desc := "(I)I", sig := { parameters := [.int], returnType := some .int }, accessFlags := 9, code := some k9c2 }
def k9c3 : Code := { maxStack := 4, maxLocals := 3, code := jdk_52_method_4_code, exceptionTable := #[], attributes := #[] }
def k9m3 : Method := { name := "putChar", desc := "([BII)V", sig := { parameters := [(.array .byte), .int, .int], returnType := none }, accessFlags := 8, code := some k9c3 }
def k9c4 : Code := { maxStack := 3, maxLocals := 2, code := jdk_52_method_5_code, exceptionTable := #[], attributes := #[] }
def k9m4 : Method := { name := "getChar", desc := "([BI)C", sig := { parameters := [(.array .byte), .int], returnType := some .char }, accessFlags := 8, code := some k9c4 }
def k9c5 : Code := { maxStack := 2, maxLocals := 1, code := jdk_52_method_6_code, exceptionTable := #[], attributes := #[] }
def k9m5 : Method := { name := "length", desc := "([B)I", sig := { parameters := [(.array .byte)], returnType := some .int }, accessFlags := 9, code := some k9c5 }
def k9c6 : Code := { maxStack := 4, maxLocals := 5, code := jdk_52_method_14_code, exceptionTable := #[], attributes := #[] }
def k9m6 : Method := { name := "toBytes", desc := "([CII)[B", sig := { parameters := [(.array .char), .int, .int], returnType := some (.array .byte) }, accessFlags := 9, code := some k9c6 }
def k9c7 : Code := { maxStack := 2, maxLocals := 2, code := jdk_52_method_15_code, exceptionTable := #[], attributes := #[] }
def k9m7 : Method := { name := "coderFromArrayLen", desc := "([BI)B", sig := { parameters := [(.array .byte), .int], returnType := some .byte }, accessFlags := 8, code := some k9c7 }
def k9c8 : Code := { maxStack := 5, maxLocals := 6, code := jdk_52_method_16_code, exceptionTable := #[], attributes := #[] }
def k9m8 : Method := { name := "compress", desc := "([CII)[B", sig := { parameters := [(.array .char), .int, .int], returnType := some (.array .byte) }, accessFlags := 9, code := some k9c8 }
def k9c9 : Code := { maxStack := 3, maxLocals := 7, code := jdk_52_method_21_code, exceptionTable := #[], attributes := #[] }
def k9m9 : Method := { name := "compress", desc := "([CI[BII)I", sig := { parameters := [(.array .char), .int, (.array .byte), .int, .int], returnType := some .int }, accessFlags := 9, code := some k9c9 }
def k9c10 : Code := { maxStack := 2, maxLocals := 2, code := jdk_52_method_83_code, exceptionTable := #[], attributes := #[] }
def k9m10 : Method := { name := "charAt", desc := "([BI)C", sig := { parameters := [(.array .byte), .int], returnType := some .char }, accessFlags := 9, code := some k9c10 }
def k9c11 : Code := { maxStack := 2, maxLocals := 2, code := jdk_52_method_91_code, exceptionTable := #[], attributes := #[] }
def k9m11 : Method := { name := "checkIndex", desc := "(I[B)V", sig := { parameters := [.int, (.array .byte)], returnType := none }, accessFlags := 9, code := some k9c11 }
/-- java/lang/StringUTF16 -/
def k9 : Class := { plain "java/lang/StringUTF16" (some 0) with
  accessFlags := 48
  interfaces := #[]
  cf := some (fileOf pool9 12 #[.nestMembers #[627, 629, 369]] #[{ accessFlags := 0, nameIndex := 9, descriptorIndex := 10, attributes := #[] }, { accessFlags := 9, nameIndex := 109, descriptorIndex := 110, attributes := #[] }, { accessFlags := 9, nameIndex := 15, descriptorIndex := 16, attributes := #[] }, { accessFlags := 8, nameIndex := 113, descriptorIndex := 114, attributes := #[] }, { accessFlags := 8, nameIndex := 73, descriptorIndex := 74, attributes := #[] }, { accessFlags := 9, nameIndex := 50, descriptorIndex := 51, attributes := #[] }, { accessFlags := 9, nameIndex := 121, descriptorIndex := 122, attributes := #[] }, { accessFlags := 8, nameIndex := 261, descriptorIndex := 262, attributes := #[] }, { accessFlags := 9, nameIndex := 117, descriptorIndex := 122, attributes := #[] }, { accessFlags := 9, nameIndex := 117, descriptorIndex := 118, attributes := #[] }, { accessFlags := 9, nameIndex := 392, descriptorIndex := 74, attributes := #[] }, { accessFlags := 9, nameIndex := 69, descriptorIndex := 70, attributes := #[] }] 48 6 #[] #[{ accessFlags := 26, nameIndex := 61, descriptorIndex := 62, attributes := #[] }, { accessFlags := 26, nameIndex := 65, descriptorIndex := 62, attributes := #[] }, { accessFlags := 24, nameIndex := 430, descriptorIndex := 62, attributes := #[] }, { accessFlags := 4120, nameIndex := 46, descriptorIndex := 47, attributes := #[] }])
  fields := #[{ name := "HI_BYTE_SHIFT", type := .int, accessFlags := 26, slot := 0, constantValue := 0 }, { name := "LO_BYTE_SHIFT", type := .int, accessFlags := 26, slot := 1, constantValue := 0 }, { name := "MAX_LENGTH", type := .int, accessFlags := 24, slot := 2, constantValue := 0 }, { name := "$assertionsDisabled", type := .boolean, accessFlags := 4120, slot := 3, constantValue := 0 }]
  methods := #[k9m0, k9m1, k9m2, k9m3, k9m4, k9m5, k9m6, k9m7, k9m8, k9m9, k9m10, k9m11]
  instanceTypes := #[]
  staticTypes := #[.int, .int, .int, .boolean]
  resolved := Array.replicate 635 none
  statics := some 1 }

def pool10 : Array CpInfo := pool [(1, .class_ 2), (0, u "java/lang/String"), (1, .class_ 6), (1, u "java/lang/Object"), (0, u "<init>"), (0, u "()V"), (0, .methodref 1 10), (0, .nameAndType 11 12), (0, u "checkIndex"), (0, u "(II)V"), (1, .class_ 16), (1, u "java/lang/StringLatin1"), (36, u "([BI)C"), (67, u "$assertionsDisabled"), (0, u "Z"), (98, .class_ 223), (1, u "java/lang/StringLatin1$LinesSpliterator"), (28, u "charAt"), (137, .class_ 391), (0, u "java/lang/StringLatin1$CharsSpliterator")] 3

def k10m0 : Method := { name := "<init>", desc := "()V", sig := { parameters := [], returnType := none }, accessFlags := 0, code := none }
def k10c1 : Code := { maxStack := 2, maxLocals := 2, code := jdk_43_method_2_code, exceptionTable := #[], attributes := #[] }
def k10m1 : Method := { name := "charAt", desc := "([BI)C", sig := { parameters := [(.array .byte), .int], returnType := some .char }, accessFlags := 9, code := some k10c1 }
/-- java/lang/StringLatin1 -/
def k10 : Class := { plain "java/lang/StringLatin1" (some 0) with
  accessFlags := 48
  interfaces := #[]
  cf := some (fileOf pool10 14 #[.nestMembers #[390, 221]] #[{ accessFlags := 0, nameIndex := 7, descriptorIndex := 8, attributes := #[] }, { accessFlags := 9, nameIndex := 252, descriptorIndex := 53, attributes := #[] }] 48 4 #[] #[{ accessFlags := 4120, nameIndex := 121, descriptorIndex := 122, attributes := #[] }])
  fields := #[{ name := "$assertionsDisabled", type := .boolean, accessFlags := 4120, slot := 0, constantValue := 0 }]
  methods := #[k10m0, k10m1]
  instanceTypes := #[]
  staticTypes := #[.boolean]
  resolved := Array.replicate 395 none
  statics := none }

def pool11 : Array CpInfo := pool [(2, .class_ 4), (1, u "java/lang/Object"), (0, u "<init>"), (0, u "()V"), (17, .class_ 26), (1, u "jdk/internal/util/Preconditions"), (6, u "checkIndex"), (21, .class_ 56), (0, u "jdk/internal/util/Preconditions$4"), (57, .class_ 115), (0, u "jdk/internal/util/Preconditions$1"), (7, u "SIOOBE_FORMATTER"), (0, u "Ljava/util/function/BiFunction;"), (0, .class_ 126), (0, u "jdk/internal/util/Preconditions$2"), (3, u "AIOOBE_FORMATTER"), (0, .class_ 132), (0, u "jdk/internal/util/Preconditions$3"), (3, u "IOOBE_FORMATTER"), (41, u "(IILjava/util/function/BiFunction;)I")] 15

def k11m0 : Method := { name := "<init>", desc := "()V", sig := { parameters := [], returnType := none }, accessFlags := 1, code := none }
def k11c1 : Code := { maxStack := 3, maxLocals := 3, code := jdk_41_method_11_code, exceptionTable := #[], attributes := #[] }
def k11m1 : Method := { name := "checkIndex", desc := "(IILjava/util/function/BiFunction;)I", sig := { parameters := [.int, .int, (.object "java/util/function/BiFunction")], returnType := some .int }, accessFlags := 9, code := some k11c1 }
/-- jdk/internal/util/Preconditions -/
def k11 : Class := { plain "jdk/internal/util/Preconditions" (some 0) with
  accessFlags := 33
  interfaces := #[]
  cf := some (fileOf pool11 24 #[.nestMembers #[55, 131, 125, 114]] #[{ accessFlags := 1, nameIndex := 5, descriptorIndex := 6, attributes := #[] }, { accessFlags := 9, nameIndex := 33, descriptorIndex := 178, attributes := #[] }] 33 2 #[] #[{ accessFlags := 25, nameIndex := 123, descriptorIndex := 124, attributes := #[] }, { accessFlags := 25, nameIndex := 130, descriptorIndex := 124, attributes := #[] }, { accessFlags := 25, nameIndex := 136, descriptorIndex := 124, attributes := #[] }])
  fields := #[{ name := "SIOOBE_FORMATTER", type := (.object "java/util/function/BiFunction"), accessFlags := 25, slot := 0, constantValue := 0 }, { name := "AIOOBE_FORMATTER", type := (.object "java/util/function/BiFunction"), accessFlags := 25, slot := 1, constantValue := 0 }, { name := "IOOBE_FORMATTER", type := (.object "java/util/function/BiFunction"), accessFlags := 25, slot := 2, constantValue := 0 }]
  methods := #[k11m0, k11m1]
  instanceTypes := #[]
  staticTypes := #[(.object "java/util/function/BiFunction"), (.object "java/util/function/BiFunction"), (.object "java/util/function/BiFunction")]
  resolved := Array.replicate 194 none
  statics := some 2 }

def pool12 : Array CpInfo := pool [(9, u "<init>"), (6, .class_ 18), (1, u "java/lang/Object"), (0, u "()V"), (1, .class_ 23), (1, u "jdk/internal/util/ArraysSupport"), (0, u "LOG2_ARRAY_LONG_INDEX_SCALE"), (0, u "I"), (2, u "U"), (0, u "Ljdk/internal/misc/Unsafe;"), (8, u "BIG_ENDIAN"), (0, u "Z"), (8, u "LOG2_BYTE_BIT_SIZE"), (4, u "LOG2_ARRAY_INT_INDEX_SCALE"), (54, u "JLA"), (0, u "Ljdk/internal/access/JavaLangAccess;"), (11, u "LOG2_ARRAY_BOOLEAN_INDEX_SCALE"), (9, u "LOG2_ARRAY_BYTE_INDEX_SCALE"), (5, u "LOG2_ARRAY_CHAR_INDEX_SCALE"), (5, u "LOG2_ARRAY_SHORT_INDEX_SCALE"), (18, u "LOG2_ARRAY_FLOAT_INDEX_SCALE"), (24, u "LOG2_ARRAY_DOUBLE_INDEX_SCALE"), (89, u "T_BOOLEAN"), (2, u "T_CHAR"), (1, u "T_FLOAT"), (1, u "T_DOUBLE"), (1, u "T_BYTE"), (1, u "T_SHORT"), (1, u "T_INT"), (1, u "T_LONG"), (1, u "SOFT_MAX_ARRAY_LENGTH")] 83

def k12m0 : Method := { name := "<init>", desc := "()V", sig := { parameters := [], returnType := none }, accessFlags := 2, code := none }
/-- jdk/internal/util/ArraysSupport -/
def k12 : Class := { plain "jdk/internal/util/ArraysSupport" (some 0) with
  accessFlags := 33
  interfaces := #[]
  cf := some (fileOf pool12 21 #[] #[{ accessFlags := 2, nameIndex := 9, descriptorIndex := 19, attributes := #[] }] 33 16 #[] #[{ accessFlags := 24, nameIndex := 28, descriptorIndex := 29, attributes := #[] }, { accessFlags := 26, nameIndex := 38, descriptorIndex := 39, attributes := #[] }, { accessFlags := 25, nameIndex := 121, descriptorIndex := 25, attributes := #[] }, { accessFlags := 25, nameIndex := 131, descriptorIndex := 25, attributes := #[] }, { accessFlags := 25, nameIndex := 137, descriptorIndex := 25, attributes := #[] }, { accessFlags := 25, nameIndex := 143, descriptorIndex := 25, attributes := #[] }, { accessFlags := 25, nameIndex := 53, descriptorIndex := 25, attributes := #[] }, { accessFlags := 25, nameIndex := 24, descriptorIndex := 25, attributes := #[] }, { accessFlags := 25, nameIndex := 162, descriptorIndex := 25, attributes := #[] }, { accessFlags := 25, nameIndex := 187, descriptorIndex := 25, attributes := #[] }, { accessFlags := 26, nameIndex := 48, descriptorIndex := 25, attributes := #[] }, { accessFlags := 25, nameIndex := 277, descriptorIndex := 25, attributes := #[] }, { accessFlags := 25, nameIndex := 280, descriptorIndex := 25, attributes := #[] }, { accessFlags := 25, nameIndex := 282, descriptorIndex := 25, attributes := #[] }, { accessFlags := 25, nameIndex := 284, descriptorIndex := 25, attributes := #[] }, { accessFlags := 25, nameIndex := 286, descriptorIndex := 25, attributes := #[] }, { accessFlags := 25, nameIndex := 288, descriptorIndex := 25, attributes := #[] }, { accessFlags := 25, nameIndex := 290, descriptorIndex := 25, attributes := #[] }, { accessFlags := 25, nameIndex := 292, descriptorIndex := 25, attributes := #[] }, { accessFlags := 26, nameIndex := 108, descriptorIndex := 109, attributes := #[] }, { accessFlags := 25, nameIndex := 294, descriptorIndex := 25, attributes := #[] }])
  fields := #[{ name := "U", type := (.object "jdk/internal/misc/Unsafe"), accessFlags := 24, slot := 0, constantValue := 0 }, { name := "BIG_ENDIAN", type := .boolean, accessFlags := 26, slot := 1, constantValue := 0 }, { name := "LOG2_ARRAY_BOOLEAN_INDEX_SCALE", type := .int, accessFlags := 25, slot := 2, constantValue := 0 }, { name := "LOG2_ARRAY_BYTE_INDEX_SCALE", type := .int, accessFlags := 25, slot := 3, constantValue := 0 }, { name := "LOG2_ARRAY_CHAR_INDEX_SCALE", type := .int, accessFlags := 25, slot := 4, constantValue := 0 }, { name := "LOG2_ARRAY_SHORT_INDEX_SCALE", type := .int, accessFlags := 25, slot := 5, constantValue := 0 }, { name := "LOG2_ARRAY_INT_INDEX_SCALE", type := .int, accessFlags := 25, slot := 6, constantValue := 0 }, { name := "LOG2_ARRAY_LONG_INDEX_SCALE", type := .int, accessFlags := 25, slot := 7, constantValue := 0 }, { name := "LOG2_ARRAY_FLOAT_INDEX_SCALE", type := .int, accessFlags := 25, slot := 8, constantValue := 0 }, { name := "LOG2_ARRAY_DOUBLE_INDEX_SCALE", type := .int, accessFlags := 25, slot := 9, constantValue := 0 }, { name := "LOG2_BYTE_BIT_SIZE", type := .int, accessFlags := 26, slot := 10, constantValue := 0 }, { name := "T_BOOLEAN", type := .int, accessFlags := 25, slot := 11, constantValue := 0 }, { name := "T_CHAR", type := .int, accessFlags := 25, slot := 12, constantValue := 0 }, { name := "T_FLOAT", type := .int, accessFlags := 25, slot := 13, constantValue := 0 }, { name := "T_DOUBLE", type := .int, accessFlags := 25, slot := 14, constantValue := 0 }, { name := "T_BYTE", type := .int, accessFlags := 25, slot := 15, constantValue := 0 }, { name := "T_SHORT", type := .int, accessFlags := 25, slot := 16, constantValue := 0 }, { name := "T_INT", type := .int, accessFlags := 25, slot := 17, constantValue := 0 }, { name := "T_LONG", type := .int, accessFlags := 25, slot := 18, constantValue := 0 }, { name := "JLA", type := (.object "jdk/internal/access/JavaLangAccess"), accessFlags := 26, slot := 19, constantValue := 0 }, { name := "SOFT_MAX_ARRAY_LENGTH", type := .int, accessFlags := 25, slot := 20, constantValue := 0 }]
  methods := #[k12m0]
  instanceTypes := #[]
  staticTypes := #[(.object "jdk/internal/misc/Unsafe"), .boolean, .int, .int, .int, .int, .int, .int, .int, .int, .int, .int, .int, .int, .int, .int, .int, .int, .int, (.object "jdk/internal/access/JavaLangAccess"), .int]
  resolved := Array.replicate 378 none
  statics := none }

def pool13 : Array CpInfo := pool [(1, u "java/lang/Cloneable"), (0, .class_ 1), (0, u "java/lang/Object"), (0, .class_ 3)] 3

/-- java/lang/Cloneable -/
def k13 : Class := { plain "java/lang/Cloneable" (some 0) with
  accessFlags := 1537
  interfaces := #[]
  cf := some (fileOf pool13 2 #[] #[] 1537 4 #[] #[])
  fields := #[]
  methods := #[]
  instanceTypes := #[]
  staticTypes := #[]
  resolved := Array.replicate 8 none
  statics := none }

/-- the primitive byte -/
def k14 : Class := { plain "byte" none with kind := .primitive 'B', accessFlags := 0x411 }
/-- [B -/
def k15 : Class := { plain "[B" (some 0) with kind := .array 14 .byte, interfaces := #[13, 2], accessFlags := 1041 }

/-- the primitive char -/
def k16 : Class := { plain "char" none with kind := .primitive 'C', accessFlags := 0x411 }
/-- [C -/
def k17 : Class := { plain "[C" (some 0) with kind := .array 16 .char, interfaces := #[13, 2], accessFlags := 1041 }

/-- the primitive int -/
def k18 : Class := { plain "int" none with kind := .primitive 'I', accessFlags := 0x411 }
/-- [I -/
def k19 : Class := { plain "[I" (some 0) with kind := .array 18 .int, interfaces := #[13, 2], accessFlags := 1041 }

def heap : Heap := #[{ cls := 7, slots := #[.long 0, .int 1, .null, .int 0, .null, .int 0, .int 0], vm := .statics 7 },
  { cls := 9, slots := #[.int 0, .int 8, .int 0, .int 1], vm := .statics 9 },
  { cls := 11, slots := #[.null, .null, .null], vm := .statics 11 }]
def classes : Array Class := #[k0, k1, k2, k3, k4, k5, k6, k7, k8, k9, k10, k11, k12, k13, k14, k15, k16, k17, k18, k19]
def interned : List (Array UInt16 × Addr) := []
def slotsUsed : Nat := 14
def theMethod : MethodId := ⟨1, 3⟩
def args0 : Array Value := #[.int 0, .int 0, .int 0, .int 0]
def aboutOver (below : List Frame) : State where
  vm := { classes := classes, interned := interned.toArray }
  heap := heap
  slotsUsed := slotsUsed
  threads := #[{ frames := .invoking theMethod args0 :: below }]
def below0 : List Frame := [.native { method := ⟨0, 0⟩, args := #[] }]
def about1 : State := aboutOver below0
def p0 : Program := .bare "" "" ""
def e0 : Env := launch0.env 0 0 0
theorem w_frames : about1.frames = Frame.invoking theMethod args0 :: below0 := rfl
set_option maxRecDepth 65536 in
theorem w_args : argsFit about1.vm theMethod args0 = true := by decide +kernel
set_option maxRecDepth 65536 in
theorem w_heap : heapFits about1 = true := by decide +kernel
set_option maxRecDepth 65536 in
theorem w_runnable : about1.curStatus? = some .runnable := by decide +kernel
set_option maxRecDepth 65536 in
theorem w_alone : about1.alone = true := by decide +kernel
set_option maxRecDepth 65536 in
theorem w_named : about1.methodNamed? x = some theMethod := by decide +kernel
set_option maxRecDepth 65536 in
theorem w_hears : about1.hears theMethod below0 = true := by decide +kernel
set_option maxRecDepth 65536 in
theorem w_ripe : about1.ripe theMethod args0 below0 = true := by decide +kernel
theorem w_running : about1.status = .running := rfl
set_option maxRecDepth 65536 in
theorem w_room : about1.hasRoom e0.platform room_1 = true :=
  launch0.hasRoom_least _ room_1 (by decide +kernel) (by decide +kernel) (by decide +kernel) (by decide +kernel) (by decide +kernel) (by decide +kernel)
theorem allAtoms_all (ts : List Jvm.Cond) (a : Array Jvm.Value) (st : Jvm.State) : (allAtoms ts).before a st = ts.all (fun c => c.before a st) := by
  induction ts with
  | nil => rfl
  | cons c t ih =>
    show (Jvm.Cond.and c (allAtoms t)).before a st = _
    rw [Jvm.Cond.before_and, ih, List.all_cons]
def words1 : List Jvm.Cond := Jvm.Cond.code x code maxLocals ret :: tables_1
/-- a 'code' word, met by the world's own term for the bytes: nothing is compared byte by byte -/
theorem code_word {y : MethodName} {bytes : ByteArray} {mx : Nat} {rt : Option FieldType} {a : Array Value} {s : State} {m : MethodId} {meth : Method} {c : Code} (h1 : s.methodNamed? y = some m) (h2 : s.vm.method? m = some meth) (h3 : meth.code = some c) (h4 : c.code = bytes)
    (h5 : (c.maxLocals == mx && c.exceptionTable.isEmpty && decide (c.maxStack ≤ mostOperands) && decide (meth.sig.returnType = rt) && !meth.locks && decide (parseMethodDescriptor y.desc = some meth.sig)) = true) : (Jvm.Cond.code y bytes mx rt).before a s = true := by
  simp only [Bool.and_eq_true, beq_iff_eq, Bool.not_eq_true', decide_eq_true_eq] at h5
  obtain ⟨⟨⟨⟨⟨g1, g2⟩, g3⟩, g4⟩, g5⟩, g6⟩ := h5
  simp [Cond.before, Cond.holds, Cond.value, h1, h2, h3, h4, g1, g2, g3, g4, g5, g6]
def isCode : Jvm.Cond → Bool
  | .code _ _ _ _ => true
  | _ => false
theorem all_split {L : List Jvm.Cond} {P : Jvm.Cond → Bool} (h1 : L.all (fun c => isCode c || P c) = true) (h2 : ∀ c ∈ L.filter isCode, P c = true) : L.all P = true := by
  refine List.all_eq_true.mpr fun c hc => ?_
  have h := List.all_eq_true.mp h1 c hc
  rcases Bool.eq_false_or_eq_true (isCode c) with hi | hi
  · exact h2 c (List.mem_filter.mpr ⟨hc, hi⟩)
  · simpa [hi] using h
set_option maxRecDepth 65536 in
theorem w_c0 : (Jvm.Cond.code x code maxLocals ret).before args0 about1 = true := code_word (m := ⟨1, 3⟩) (meth := k1m3) (c := k1c3) (by decide +kernel) rfl rfl rfl (by decide +kernel)
set_option maxRecDepth 65536 in
theorem w_c1 : (Jvm.Cond.code ({ cls := "java/lang/String", name := "<init>", desc := "([C)V" } : Jvm.MethodName) jdk_42_method_3_code (2 : Nat) (Option.none : Option Jvm.ClassFile.FieldType)).before args0 about1 = true := code_word (m := ⟨7, 1⟩) (meth := k7m1) (c := k7c1) (by decide +kernel) rfl rfl rfl (by decide +kernel)
set_option maxRecDepth 65536 in
theorem w_c2 : (Jvm.Cond.code ({ cls := "java/lang/String", name := "<init>", desc := "([CIILjava/lang/Void;)V" } : Jvm.MethodName) jdk_42_method_149_code (6 : Nat) (Option.none : Option Jvm.ClassFile.FieldType)).before args0 about1 = true := code_word (m := ⟨7, 5⟩) (meth := k7m5) (c := k7c5) (by decide +kernel) rfl rfl rfl (by decide +kernel)
set_option maxRecDepth 65536 in
theorem w_c3 : (Jvm.Cond.code ({ cls := "java/lang/Object", name := "<init>", desc := "()V" } : Jvm.MethodName) object_method_1_code (1 : Nat) (Option.none : Option Jvm.ClassFile.FieldType)).before args0 about1 = true := code_word (m := ⟨0, 0⟩) (meth := k0m0) (c := k0c0) (by decide +kernel) rfl rfl rfl (by decide +kernel)
set_option maxRecDepth 65536 in
theorem w_c4 : (Jvm.Cond.code ({ cls := "com/example/orql/orql/Syntax", name := "isObject", desc := "(Ljava/lang/String;)Z" } : Jvm.MethodName) prog_38_method_5_code (1 : Nat) (Option.some Jvm.ClassFile.FieldType.boolean)).before args0 about1 = true := code_word (m := ⟨8, 2⟩) (meth := k8m2) (c := k8c2) (by decide +kernel) rfl rfl rfl (by decide +kernel)
set_option maxRecDepth 65536 in
theorem w_c5 : (Jvm.Cond.code ({ cls := "java/lang/String", name := "isEmpty", desc := "()Z" } : Jvm.MethodName) jdk_42_method_55_code (1 : Nat) (Option.some Jvm.ClassFile.FieldType.boolean)).before args0 about1 = true := code_word (m := ⟨7, 3⟩) (meth := k7m3) (c := k7c3) (by decide +kernel) rfl rfl rfl (by decide +kernel)
set_option maxRecDepth 65536 in
theorem w_c6 : (Jvm.Cond.code ({ cls := "java/lang/StringUTF16", name := "compress", desc := "([CII)[B" } : Jvm.MethodName) jdk_52_method_16_code (6 : Nat) (Option.some (Jvm.ClassFile.FieldType.array Jvm.ClassFile.FieldType.byte))).before args0 about1 = true := code_word (m := ⟨9, 8⟩) (meth := k9m8) (c := k9c8) (by decide +kernel) rfl rfl rfl (by decide +kernel)
set_option maxRecDepth 65536 in
theorem w_c7 : (Jvm.Cond.code ({ cls := "java/lang/StringUTF16", name := "compress", desc := "([CI[BII)I" } : Jvm.MethodName) jdk_52_method_21_code (7 : Nat) (Option.some Jvm.ClassFile.FieldType.int)).before args0 about1 = true := code_word (m := ⟨9, 9⟩) (meth := k9m9) (c := k9c9) (by decide +kernel) rfl rfl rfl (by decide +kernel)
set_option maxRecDepth 65536 in
theorem w_c8 : (Jvm.Cond.code ({ cls := "java/lang/StringUTF16", name := "coderFromArrayLen", desc := "([BI)B" } : Jvm.MethodName) jdk_52_method_15_code (2 : Nat) (Option.some Jvm.ClassFile.FieldType.byte)).before args0 about1 = true := code_word (m := ⟨9, 7⟩) (meth := k9m7) (c := k9c7) (by decide +kernel) rfl rfl rfl (by decide +kernel)
set_option maxRecDepth 65536 in
theorem w_c9 : (Jvm.Cond.code ({ cls := "com/example/orql/orql/SyntaxIsObjectPinLaw", name := "startsObject", desc := "(C)Z" } : Jvm.MethodName) method_2_code (1 : Nat) (Option.some Jvm.ClassFile.FieldType.boolean)).before args0 about1 = true := code_word (m := ⟨1, 1⟩) (meth := k1m1) (c := k1c1) (by decide +kernel) rfl rfl rfl (by decide +kernel)
set_option maxRecDepth 65536 in
theorem w_c10 : (Jvm.Cond.code ({ cls := "java/lang/String", name := "charAt", desc := "(I)C" } : Jvm.MethodName) jdk_42_method_56_code (2 : Nat) (Option.some Jvm.ClassFile.FieldType.char)).before args0 about1 = true := code_word (m := ⟨7, 4⟩) (meth := k7m4) (c := k7c4) (by decide +kernel) rfl rfl rfl (by decide +kernel)
set_option maxRecDepth 65536 in
theorem w_c11 : (Jvm.Cond.code ({ cls := "java/lang/String", name := "isLatin1", desc := "()Z" } : Jvm.MethodName) jdk_42_method_154_code (1 : Nat) (Option.some Jvm.ClassFile.FieldType.boolean)).before args0 about1 = true := code_word (m := ⟨7, 7⟩) (meth := k7m7) (c := k7c7) (by decide +kernel) rfl rfl rfl (by decide +kernel)
set_option maxRecDepth 65536 in
theorem w_c12 : (Jvm.Cond.code ({ cls := "java/lang/StringLatin1", name := "charAt", desc := "([BI)C" } : Jvm.MethodName) jdk_43_method_2_code (2 : Nat) (Option.some Jvm.ClassFile.FieldType.char)).before args0 about1 = true := code_word (m := ⟨10, 1⟩) (meth := k10m1) (c := k10c1) (by decide +kernel) rfl rfl rfl (by decide +kernel)
set_option maxRecDepth 65536 in
theorem w_c13 : (Jvm.Cond.code ({ cls := "java/lang/String", name := "checkIndex", desc := "(II)V" } : Jvm.MethodName) jdk_42_method_155_code (2 : Nat) (Option.none : Option Jvm.ClassFile.FieldType)).before args0 about1 = true := code_word (m := ⟨7, 8⟩) (meth := k7m8) (c := k7c8) (by decide +kernel) rfl rfl rfl (by decide +kernel)
set_option maxRecDepth 65536 in
theorem w_c14 : (Jvm.Cond.code ({ cls := "jdk/internal/util/Preconditions", name := "checkIndex", desc := "(IILjava/util/function/BiFunction;)I" } : Jvm.MethodName) jdk_41_method_11_code (3 : Nat) (Option.some Jvm.ClassFile.FieldType.int)).before args0 about1 = true := code_word (m := ⟨11, 1⟩) (meth := k11m1) (c := k11c1) (by decide +kernel) rfl rfl rfl (by decide +kernel)
set_option maxRecDepth 65536 in
theorem w_c15 : (Jvm.Cond.code ({ cls := "com/example/orql/orql/Syntax", name := "isLowerCase", desc := "(C)Z" } : Jvm.MethodName) prog_38_method_7_code (1 : Nat) (Option.some Jvm.ClassFile.FieldType.boolean)).before args0 about1 = true := code_word (m := ⟨8, 4⟩) (meth := k8m4) (c := k8c4) (by decide +kernel) rfl rfl rfl (by decide +kernel)
set_option maxRecDepth 65536 in
theorem w_c16 : (Jvm.Cond.code ({ cls := "com/example/orql/orql/Syntax", name := "isDigit", desc := "(C)Z" } : Jvm.MethodName) prog_38_method_9_code (1 : Nat) (Option.some Jvm.ClassFile.FieldType.boolean)).before args0 about1 = true := code_word (m := ⟨8, 6⟩) (meth := k8m6) (c := k8c6) (by decide +kernel) rfl rfl rfl (by decide +kernel)
set_option maxRecDepth 65536 in
theorem w_c17 : (Jvm.Cond.code ({ cls := "java/lang/StringUTF16", name := "toBytes", desc := "([CII)[B" } : Jvm.MethodName) jdk_52_method_14_code (5 : Nat) (Option.some (Jvm.ClassFile.FieldType.array Jvm.ClassFile.FieldType.byte))).before args0 about1 = true := code_word (m := ⟨9, 6⟩) (meth := k9m6) (c := k9c6) (by decide +kernel) rfl rfl rfl (by decide +kernel)
set_option maxRecDepth 65536 in
theorem w_c18 : (Jvm.Cond.code ({ cls := "java/lang/StringUTF16", name := "newBytesFor", desc := "(I)[B" } : Jvm.MethodName) jdk_52_method_2_code (1 : Nat) (Option.some (Jvm.ClassFile.FieldType.array Jvm.ClassFile.FieldType.byte))).before args0 about1 = true := code_word (m := ⟨9, 1⟩) (meth := k9m1) (c := k9c1) (by decide +kernel) rfl rfl rfl (by decide +kernel)
set_option maxRecDepth 65536 in
theorem w_c19 : (Jvm.Cond.code ({ cls := "java/lang/StringUTF16", name := "newBytesLength", desc := "(I)I" } : Jvm.MethodName) jdk_52_method_3_code (1 : Nat) (Option.some Jvm.ClassFile.FieldType.int)).before args0 about1 = true := code_word (m := ⟨9, 2⟩) (meth := k9m2) (c := k9c2) (by decide +kernel) rfl rfl rfl (by decide +kernel)
set_option maxRecDepth 65536 in
theorem w_c20 : (Jvm.Cond.code ({ cls := "java/lang/StringUTF16", name := "putChar", desc := "([BII)V" } : Jvm.MethodName) jdk_52_method_4_code (3 : Nat) (Option.none : Option Jvm.ClassFile.FieldType)).before args0 about1 = true := code_word (m := ⟨9, 3⟩) (meth := k9m3) (c := k9c3) (by decide +kernel) rfl rfl rfl (by decide +kernel)
set_option maxRecDepth 65536 in
theorem w_c21 : (Jvm.Cond.code ({ cls := "java/lang/StringUTF16", name := "getChar", desc := "([BI)C" } : Jvm.MethodName) jdk_52_method_5_code (2 : Nat) (Option.some Jvm.ClassFile.FieldType.char)).before args0 about1 = true := code_word (m := ⟨9, 4⟩) (meth := k9m4) (c := k9c4) (by decide +kernel) rfl rfl rfl (by decide +kernel)
set_option maxRecDepth 65536 in
theorem w_c22 : (Jvm.Cond.code ({ cls := "java/lang/StringUTF16", name := "charAt", desc := "([BI)C" } : Jvm.MethodName) jdk_52_method_83_code (2 : Nat) (Option.some Jvm.ClassFile.FieldType.char)).before args0 about1 = true := code_word (m := ⟨9, 10⟩) (meth := k9m10) (c := k9c10) (by decide +kernel) rfl rfl rfl (by decide +kernel)
set_option maxRecDepth 65536 in
theorem w_c23 : (Jvm.Cond.code ({ cls := "java/lang/StringUTF16", name := "checkIndex", desc := "(I[B)V" } : Jvm.MethodName) jdk_52_method_91_code (2 : Nat) (Option.none : Option Jvm.ClassFile.FieldType)).before args0 about1 = true := code_word (m := ⟨9, 11⟩) (meth := k9m11) (c := k9c11) (by decide +kernel) rfl rfl rfl (by decide +kernel)
set_option maxRecDepth 65536 in
theorem w_c24 : (Jvm.Cond.code ({ cls := "java/lang/StringUTF16", name := "length", desc := "([B)I" } : Jvm.MethodName) jdk_52_method_6_code (1 : Nat) (Option.some Jvm.ClassFile.FieldType.int)).before args0 about1 = true := code_word (m := ⟨9, 5⟩) (meth := k9m5) (c := k9c5) (by decide +kernel) rfl rfl rfl (by decide +kernel)
set_option maxRecDepth 65536 in
theorem w_c25 : (Jvm.Cond.code ({ cls := "com/example/orql/orql/Syntax", name := "continuesAsWord", desc := "(Ljava/lang/String;)Z" } : Jvm.MethodName) prog_38_method_6_code (2 : Nat) (Option.some Jvm.ClassFile.FieldType.boolean)).before args0 about1 = true := code_word (m := ⟨8, 3⟩) (meth := k8m3) (c := k8c3) (by decide +kernel) rfl rfl rfl (by decide +kernel)
set_option maxRecDepth 65536 in
theorem w_c26 : (Jvm.Cond.code ({ cls := "java/lang/String", name := "length", desc := "()I" } : Jvm.MethodName) jdk_42_method_54_code (1 : Nat) (Option.some Jvm.ClassFile.FieldType.int)).before args0 about1 = true := code_word (m := ⟨7, 2⟩) (meth := k7m2) (c := k7c2) (by decide +kernel) rfl rfl rfl (by decide +kernel)
set_option maxRecDepth 65536 in
theorem w_c27 : (Jvm.Cond.code ({ cls := "java/lang/String", name := "coder", desc := "()B" } : Jvm.MethodName) jdk_42_method_152_code (1 : Nat) (Option.some Jvm.ClassFile.FieldType.byte)).before args0 about1 = true := code_word (m := ⟨7, 6⟩) (meth := k7m6) (c := k7c6) (by decide +kernel) rfl rfl rfl (by decide +kernel)
set_option maxRecDepth 65536 in
theorem w_c28 : (Jvm.Cond.code ({ cls := "com/example/orql/orql/SyntaxIsObjectPinLaw", name := "continuesWord", desc := "(C)Z" } : Jvm.MethodName) method_3_code (1 : Nat) (Option.some Jvm.ClassFile.FieldType.boolean)).before args0 about1 = true := code_word (m := ⟨1, 2⟩) (meth := k1m2) (c := k1c2) (by decide +kernel) rfl rfl rfl (by decide +kernel)
set_option maxRecDepth 65536 in
theorem w_c29 : (Jvm.Cond.code ({ cls := "com/example/orql/orql/Syntax", name := "isWordChar", desc := "(C)Z" } : Jvm.MethodName) prog_38_method_2_code (1 : Nat) (Option.some Jvm.ClassFile.FieldType.boolean)).before args0 about1 = true := code_word (m := ⟨8, 1⟩) (meth := k8m1) (c := k8c1) (by decide +kernel) rfl rfl rfl (by decide +kernel)
set_option maxRecDepth 65536 in
theorem w_c30 : (Jvm.Cond.code ({ cls := "com/example/orql/orql/Syntax", name := "isUpperCase", desc := "(C)Z" } : Jvm.MethodName) prog_38_method_8_code (1 : Nat) (Option.some Jvm.ClassFile.FieldType.boolean)).before args0 about1 = true := code_word (m := ⟨8, 5⟩) (meth := k8m5) (c := k8c5) (by decide +kernel) rfl rfl rfl (by decide +kernel)
def codes1 : List Jvm.Cond := [Jvm.Cond.code x code maxLocals ret, Jvm.Cond.code ({ cls := "java/lang/String", name := "<init>", desc := "([C)V" } : Jvm.MethodName) jdk_42_method_3_code (2 : Nat) (Option.none : Option Jvm.ClassFile.FieldType), Jvm.Cond.code ({ cls := "java/lang/String", name := "<init>", desc := "([CIILjava/lang/Void;)V" } : Jvm.MethodName) jdk_42_method_149_code (6 : Nat) (Option.none : Option Jvm.ClassFile.FieldType), Jvm.Cond.code ({ cls := "java/lang/Object", name := "<init>", desc := "()V" } : Jvm.MethodName) object_method_1_code (1 : Nat) (Option.none : Option Jvm.ClassFile.FieldType), Jvm.Cond.code ({ cls := "com/example/orql/orql/Syntax", name := "isObject", desc := "(Ljava/lang/String;)Z" } : Jvm.MethodName) prog_38_method_5_code (1 : Nat) (Option.some Jvm.ClassFile.FieldType.boolean), Jvm.Cond.code ({ cls := "java/lang/String", name := "isEmpty", desc := "()Z" } : Jvm.MethodName) jdk_42_method_55_code (1 : Nat) (Option.some Jvm.ClassFile.FieldType.boolean), Jvm.Cond.code ({ cls := "java/lang/StringUTF16", name := "compress", desc := "([CII)[B" } : Jvm.MethodName) jdk_52_method_16_code (6 : Nat) (Option.some (Jvm.ClassFile.FieldType.array Jvm.ClassFile.FieldType.byte)), Jvm.Cond.code ({ cls := "java/lang/StringUTF16", name := "compress", desc := "([CI[BII)I" } : Jvm.MethodName) jdk_52_method_21_code (7 : Nat) (Option.some Jvm.ClassFile.FieldType.int), Jvm.Cond.code ({ cls := "java/lang/StringUTF16", name := "coderFromArrayLen", desc := "([BI)B" } : Jvm.MethodName) jdk_52_method_15_code (2 : Nat) (Option.some Jvm.ClassFile.FieldType.byte), Jvm.Cond.code ({ cls := "com/example/orql/orql/SyntaxIsObjectPinLaw", name := "startsObject", desc := "(C)Z" } : Jvm.MethodName) method_2_code (1 : Nat) (Option.some Jvm.ClassFile.FieldType.boolean), Jvm.Cond.code ({ cls := "java/lang/String", name := "charAt", desc := "(I)C" } : Jvm.MethodName) jdk_42_method_56_code (2 : Nat) (Option.some Jvm.ClassFile.FieldType.char), Jvm.Cond.code ({ cls := "java/lang/String", name := "isLatin1", desc := "()Z" } : Jvm.MethodName) jdk_42_method_154_code (1 : Nat) (Option.some Jvm.ClassFile.FieldType.boolean), Jvm.Cond.code ({ cls := "java/lang/StringLatin1", name := "charAt", desc := "([BI)C" } : Jvm.MethodName) jdk_43_method_2_code (2 : Nat) (Option.some Jvm.ClassFile.FieldType.char), Jvm.Cond.code ({ cls := "java/lang/String", name := "checkIndex", desc := "(II)V" } : Jvm.MethodName) jdk_42_method_155_code (2 : Nat) (Option.none : Option Jvm.ClassFile.FieldType), Jvm.Cond.code ({ cls := "jdk/internal/util/Preconditions", name := "checkIndex", desc := "(IILjava/util/function/BiFunction;)I" } : Jvm.MethodName) jdk_41_method_11_code (3 : Nat) (Option.some Jvm.ClassFile.FieldType.int), Jvm.Cond.code ({ cls := "com/example/orql/orql/Syntax", name := "isLowerCase", desc := "(C)Z" } : Jvm.MethodName) prog_38_method_7_code (1 : Nat) (Option.some Jvm.ClassFile.FieldType.boolean), Jvm.Cond.code ({ cls := "com/example/orql/orql/Syntax", name := "isDigit", desc := "(C)Z" } : Jvm.MethodName) prog_38_method_9_code (1 : Nat) (Option.some Jvm.ClassFile.FieldType.boolean), Jvm.Cond.code ({ cls := "java/lang/StringUTF16", name := "toBytes", desc := "([CII)[B" } : Jvm.MethodName) jdk_52_method_14_code (5 : Nat) (Option.some (Jvm.ClassFile.FieldType.array Jvm.ClassFile.FieldType.byte)), Jvm.Cond.code ({ cls := "java/lang/StringUTF16", name := "newBytesFor", desc := "(I)[B" } : Jvm.MethodName) jdk_52_method_2_code (1 : Nat) (Option.some (Jvm.ClassFile.FieldType.array Jvm.ClassFile.FieldType.byte)), Jvm.Cond.code ({ cls := "java/lang/StringUTF16", name := "newBytesLength", desc := "(I)I" } : Jvm.MethodName) jdk_52_method_3_code (1 : Nat) (Option.some Jvm.ClassFile.FieldType.int), Jvm.Cond.code ({ cls := "java/lang/StringUTF16", name := "putChar", desc := "([BII)V" } : Jvm.MethodName) jdk_52_method_4_code (3 : Nat) (Option.none : Option Jvm.ClassFile.FieldType), Jvm.Cond.code ({ cls := "java/lang/StringUTF16", name := "getChar", desc := "([BI)C" } : Jvm.MethodName) jdk_52_method_5_code (2 : Nat) (Option.some Jvm.ClassFile.FieldType.char), Jvm.Cond.code ({ cls := "java/lang/StringUTF16", name := "charAt", desc := "([BI)C" } : Jvm.MethodName) jdk_52_method_83_code (2 : Nat) (Option.some Jvm.ClassFile.FieldType.char), Jvm.Cond.code ({ cls := "java/lang/StringUTF16", name := "checkIndex", desc := "(I[B)V" } : Jvm.MethodName) jdk_52_method_91_code (2 : Nat) (Option.none : Option Jvm.ClassFile.FieldType), Jvm.Cond.code ({ cls := "java/lang/StringUTF16", name := "length", desc := "([B)I" } : Jvm.MethodName) jdk_52_method_6_code (1 : Nat) (Option.some Jvm.ClassFile.FieldType.int), Jvm.Cond.code ({ cls := "com/example/orql/orql/Syntax", name := "continuesAsWord", desc := "(Ljava/lang/String;)Z" } : Jvm.MethodName) prog_38_method_6_code (2 : Nat) (Option.some Jvm.ClassFile.FieldType.boolean), Jvm.Cond.code ({ cls := "java/lang/String", name := "length", desc := "()I" } : Jvm.MethodName) jdk_42_method_54_code (1 : Nat) (Option.some Jvm.ClassFile.FieldType.int), Jvm.Cond.code ({ cls := "java/lang/String", name := "coder", desc := "()B" } : Jvm.MethodName) jdk_42_method_152_code (1 : Nat) (Option.some Jvm.ClassFile.FieldType.byte), Jvm.Cond.code ({ cls := "com/example/orql/orql/SyntaxIsObjectPinLaw", name := "continuesWord", desc := "(C)Z" } : Jvm.MethodName) method_3_code (1 : Nat) (Option.some Jvm.ClassFile.FieldType.boolean), Jvm.Cond.code ({ cls := "com/example/orql/orql/Syntax", name := "isWordChar", desc := "(C)Z" } : Jvm.MethodName) prog_38_method_2_code (1 : Nat) (Option.some Jvm.ClassFile.FieldType.boolean), Jvm.Cond.code ({ cls := "com/example/orql/orql/Syntax", name := "isUpperCase", desc := "(C)Z" } : Jvm.MethodName) prog_38_method_8_code (1 : Nat) (Option.some Jvm.ClassFile.FieldType.boolean)]
set_option maxRecDepth 65536 in
theorem codes_eq : words1.filter isCode = codes1 := rfl
theorem w_codes : ∀ c ∈ words1.filter isCode, c.before args0 about1 = true := by
  rw [codes_eq]
  intro c hc
  simp only [codes1, List.mem_cons, List.not_mem_nil, or_false] at hc
  rcases hc with rfl | rfl | rfl | rfl | rfl | rfl | rfl | rfl | rfl | rfl | rfl | rfl | rfl | rfl | rfl | rfl | rfl | rfl | rfl | rfl | rfl | rfl | rfl | rfl | rfl | rfl | rfl | rfl | rfl | rfl | rfl
  · exact w_c0
  · exact w_c1
  · exact w_c2
  · exact w_c3
  · exact w_c4
  · exact w_c5
  · exact w_c6
  · exact w_c7
  · exact w_c8
  · exact w_c9
  · exact w_c10
  · exact w_c11
  · exact w_c12
  · exact w_c13
  · exact w_c14
  · exact w_c15
  · exact w_c16
  · exact w_c17
  · exact w_c18
  · exact w_c19
  · exact w_c20
  · exact w_c21
  · exact w_c22
  · exact w_c23
  · exact w_c24
  · exact w_c25
  · exact w_c26
  · exact w_c27
  · exact w_c28
  · exact w_c29
  · exact w_c30
set_option maxRecDepth 65536 in
theorem w_t1 : (words1.take 24).all (fun c => isCode c || c.before args0 about1) = true := by decide +kernel
set_option maxRecDepth 65536 in
theorem w_t2 : ((words1.drop 24).take 24).all (fun c => isCode c || c.before args0 about1) = true := by decide +kernel
set_option maxRecDepth 65536 in
theorem w_t3 : (((words1.drop 24).drop 24).take 24).all (fun c => isCode c || c.before args0 about1) = true := by decide +kernel
set_option maxRecDepth 65536 in
theorem w_t4 : ((((words1.drop 24).drop 24).drop 24).take 24).all (fun c => isCode c || c.before args0 about1) = true := by decide +kernel
set_option maxRecDepth 65536 in
theorem w_t5 : (((((words1.drop 24).drop 24).drop 24).drop 24).take 24).all (fun c => isCode c || c.before args0 about1) = true := by decide +kernel
set_option maxRecDepth 65536 in
theorem w_t6 : (((((words1.drop 24).drop 24).drop 24).drop 24).drop 24).all (fun c => isCode c || c.before args0 about1) = true := by decide +kernel
theorem w_tables : (allAtoms (Jvm.Cond.code x code maxLocals ret :: tables_1)).before args0 about1 = true := by
  rw [allAtoms_all]
  show words1.all (fun c => c.before args0 about1) = true
  refine all_split ?_ w_codes
  rw [← List.take_append_drop 24 words1, List.all_append, w_t1, ← List.take_append_drop 24 (words1.drop 24), List.all_append, w_t2, ← List.take_append_drop 24 ((words1.drop 24).drop 24), List.all_append, w_t3, ← List.take_append_drop 24 (((words1.drop 24).drop 24).drop 24), List.all_append, w_t4, ← List.take_append_drop 24 ((((words1.drop 24).drop 24).drop 24).drop 24), List.all_append, w_t5, w_t6]
  rfl
set_option maxRecDepth 65536 in
theorem w_rest : rest_1_c.before args0 about1 = true := by decide +kernel
set_option maxRecDepth 65536 in
theorem w_case : (Jvm.Cond.and given_1 narrow_1).before args0 about1 = true := by decide +kernel
set_option maxRecDepth 65536 in
theorem w_consts : constsHeld consts_1 about1 := Jvm.Lit.constsHeldB_iff.mp (by decide +kernel)
theorem w_applies : (headSpec (Jvm.Cond.code x code maxLocals ret :: tables_1) room_1).applies x e0.platform about1 = true :=
  (Spec.applies_iff w_frames).mpr ⟨w_running, w_runnable, w_alone, w_named, w_hears, w_ripe, w_room, w_tables⟩
theorem atStart : AtStart classFile x code maxLocals ret World_1 tables_1 room_1 Calls_1 rest_1 Pre_1 launch0 p0 e0 about1 theMethod args0 below0 :=
  ⟨lists_1, trivial, launch0.admits_env _ _ _, launch0.least_env, fairChoices_fair.cas, fairChoices_fair.clock, w_frames, w_args, w_heap, w_applies, ⟨w_consts, trivial⟩, w_rest, w_case⟩
end start1
theorem witness_1 : WitnessClaimed_1 := ⟨start1.p0, start1.e0, start1.about1, start1.theMethod, start1.args0, start1.below0, start1.atStart⟩
end Jvm.Pilot.@@N@@
