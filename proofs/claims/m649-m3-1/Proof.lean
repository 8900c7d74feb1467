import JvmDerived
import JvmDerived.Pilot.@@N@@Statement
import JvmDerived.Pilot.@@N@@Code
set_option linter.unusedVariables false
set_option linter.unusedSimpArgs false
namespace Jvm.Pilot.@@N@@
open Jvm Jvm.ClassFile Sem Op Lib Jvm.Free Jvm.Stand Jvm.LawKit Jvm.RoadKit Bundle Jvm.Pilot.@@N@@.Jvm.D
/-! a run from here comes to the end of the invocation, and Q holds there -/
section OwnWp
variable {p : Program} {l : Launch} {e : Env} {R : Room} {s : State} {m : MethodId} {args : Array Value} {below : List Frame} {meth : Method} {c : Code} {T : State} {locs : List Loc} {cells slots : Nat}
def Wp (p : Program) (e : Env) (below : List Frame) (Q : Outcome → State → Prop) (A : State) : Prop := ∃ s₂ o, Steps p.tables e below A s₂ ∧ s₂.status = .running ∧ Ended s₂ below o ∧ Q o s₂
def Out (s : State) (Q : Option Value → Heap → List Loc → Prop) (k n : Nat) (o : Outcome) (t : State) : Prop := ∃ v L, o = .returned v ∧ Q v t.heap L ∧ FrameEnd s o t L k n
theorem Wp.step {Q : Outcome → State → Prop} {A B : State} (h : ∀ t, Steps p.tables e below B t → Steps p.tables e below A t) (k : Wp p e below Q B) : Wp p e below Q A := by
  obtain ⟨s₂, o, h1, h2⟩ := k; exact ⟨s₂, o, h _ h1, h2⟩
theorem Wp.go {Q : Outcome → State → Prop} {A B : State} (h : Steps p.tables e below A B) (k : Wp p e below Q B) : Wp p e below Q A := Wp.step (fun _ q => h.trans q) k
theorem Wp.out (X : Stand p l e R s m args below meth c T locs cells slots) {A : State} {v : Option Value} {Q : Option Value → Heap → List Loc → Prop} {k n : Nat} (hv : meth.sig.returnType = none → v = none) (hlk : meth.locks = false)
    (hs : ∀ fs, (∀ (f : JFrame) (acts : List Action), f.method = m → f.locked = none → f.entered = [] → (doReturn e (T.setTop f) acts v).1 = T.setFrames fs) → Steps p.tables e below A (T.setFrames fs)) (hQ : Q v T.heap locs) (hk : cells ≤ k) (hn : slots ≤ n) : Wp p e below (Out s Q k n) A := by
  obtain ⟨fs, hr, hrun, hended, hW, hsame⟩ := X.leave (v := v) hv hlk
  exact ⟨_, _, hs fs hr, hrun, hended, _, _, rfl, hQ, ⟨_, rfl⟩, hW, hsame.mono hk hn⟩
theorem Wp.retV (X : Stand p l e R s m args below meth c T locs cells slots) (hx : p.tables.exec = Jvm.exec) {pc : Nat} {Ls : Array Slot} {Q : Option Value → Heap → List Loc → Prop} {k n : Nat} (hret : meth.sig.returnType = none) (hd : decode c.code pc = .ok (.return_, 1)) (hlk : meth.locks = false)
    (hQ : Q none T.heap locs) (hk : cells ≤ k) (hn : slots ≤ n) : Wp p e below (Out s Q k n) (T.setTop (mkF m pc Ls [])) := Wp.out X (fun _ => rfl) hlk (fun fs hr => X.returnOut hx hret hd hr) hQ hk hn
theorem Wp.retN (X : Stand p l e R s m args below meth c T locs cells slots) (hx : p.tables.exec = Jvm.exec) {pc : Nat} {Ls : Array Slot} {z : Int32} {rest : List Value} {t : FieldType} {Q : Option Value → Heap → List Loc → Prop} {k n : Nat} (hret : meth.sig.returnType = some t) (ht : t = .boolean ∨ t = .byte ∨ t = .char ∨ t = .short) (hd : decode c.code pc = .ok (.ireturn, 1)) (hlk : meth.locks = false)
    (hQ : Q (some (.int (nar t z))) T.heap locs) (hk : cells ≤ k) (hn : slots ≤ n) : Wp p e below (Out s Q k n) (T.setTop (mkF m pc Ls (.int z :: rest))) := Wp.out X (fun h => by rw [hret] at h; cases h) hlk (fun fs hr => Jvm.RoadKit.retN X hx hret ht hd hr) hQ hk hn
theorem Wp.retI (X : Stand p l e R s m args below meth c T locs cells slots) (hx : p.tables.exec = Jvm.exec) {pc : Nat} {Ls : Array Slot} {z : Int32} {rest : List Value} {Q : Option Value → Heap → List Loc → Prop} {k n : Nat} (hret : meth.sig.returnType = some .int) (hd : decode c.code pc = .ok (.ireturn, 1)) (hlk : meth.locks = false)
    (hQ : Q (some (.int z)) T.heap locs) (hk : cells ≤ k) (hn : slots ≤ n) : Wp p e below (Out s Q k n) (T.setTop (mkF m pc Ls (.int z :: rest))) := Wp.out X (fun h => by rw [hret] at h; cases h) hlk (fun fs hr => Jvm.RoadKit.retOut X hx hret rfl (Or.inl ⟨rfl, Or.inl rfl, z, rfl⟩) hd hr) hQ hk hn
theorem Wp.retJ (X : Stand p l e R s m args below meth c T locs cells slots) (hx : p.tables.exec = Jvm.exec) {pc : Nat} {Ls : Array Slot} {z : Int64} {rest : List Value} {Q : Option Value → Heap → List Loc → Prop} {k n : Nat} (hret : meth.sig.returnType = some .long) (hd : decode c.code pc = .ok (.lreturn, 1)) (hlk : meth.locks = false)
    (hQ : Q (some (.long z)) T.heap locs) (hk : cells ≤ k) (hn : slots ≤ n) : Wp p e below (Out s Q k n) (T.setTop (mkF m pc Ls (.long z :: rest))) := Wp.out X (fun h => by rw [hret] at h; cases h) hlk (fun fs hr => Jvm.RoadKit.retOut X hx hret rfl (Or.inr (Or.inl ⟨rfl, rfl, z, rfl⟩)) hd hr) hQ hk hn
theorem Wp.retA (X : Stand p l e R s m args below meth c T locs cells slots) (hx : p.tables.exec = Jvm.exec) {pc : Nat} {Ls : Array Slot} {w : Value} {rest : List Value} {t : FieldType} {Q : Option Value → Heap → List Loc → Prop} {k n : Nat} (hret : meth.sig.returnType = some t) (hw : w.isRef = true) (hd : decode c.code pc = .ok (.areturn, 1)) (hlk : meth.locks = false)
    (hQ : Q (some w) T.heap locs) (hk : cells ≤ k) (hn : slots ≤ n) (ht : t.isReference = true := by rfl) : Wp p e below (Out s Q k n) (T.setTop (mkF m pc Ls (w :: rest))) := Wp.out X (fun h => by rw [hret] at h; cases h) hlk (fun fs hr => Jvm.RoadKit.retOut X hx hret (by cases t <;> first | (cases ht; done) | (cases w <;> first | (cases hw; done) | rfl)) (Or.inr (Or.inr (Or.inr (Or.inr ⟨rfl, ht, hw⟩)))) hd hr) hQ hk hn
end OwnWp
def own_LQ (Z : State) (h : Heap) (q arr : Addr) (hd tl : Int32) : Prop := Exa Z h q "com/example/erotema/erotema/model/LongQueue" ∧ Fld Z h q "com/example/erotema/erotema/model/LongQueue" "head" "I" (.int hd) ∧ Fld Z h q "com/example/erotema/erotema/model/LongQueue" "tail" "I" (.int tl) ∧ Fld Z h q "com/example/erotema/erotema/model/LongQueue" "numbers" "[J" (.ref arr) ∧ arr ≠ q ∧ ∃ cl : Cell, Arr Z h arr cl .long ∧ cl.slots.size = (1024 : Int32).toNatClampNeg ∧ ∀ j : Nat, j < 1024 → ∃ y : Int64, cl.slots[j]? = some (.long y)
def own_emp (hd tl : Int32) : Int32 := if hd = tl then 1 else 0
theorem own_sz : (1024 : Int32).toNatClampNeg = 1024 := by decide
theorem own_in {j : Int32} (h1 : 0 ≤ j.toInt) (h2 : j.toInt < 1000) : ¬ j < 0 ∧ j < (1024 : Int32) := by
  rw [Int32.lt_iff_toInt_lt, Int32.lt_iff_toInt_lt]
  have e : (1024 : Int32).toInt = 1024 := by decide
  have e0 : (0 : Int32).toInt = 0 := by decide
  omega
theorem own_nat {j : Int32} (h1 : 0 ≤ j.toInt) (h2 : j.toInt < 1000) : j.toNatClampNeg < 1024 := by
  have e : (j.toNatClampNeg : Int) = j.toInt := (nat_of (own_in h1 h2).1).symm
  omega
theorem own_ne {j : Int32} (h2 : j.toInt < 1000) : ¬ j = (1024 : Int32) := fun q => by
  rw [q] at h2; have e : (1024 : Int32).toInt = 1024 := by decide
  omega
theorem own_inc {j : Int32} (h1 : 0 ≤ j.toInt) (h2 : j.toInt < 1000) : (j + 1).toInt = j.toInt + 1 := by
  have q := c_iadd j 1; have e : (1 : Int32).toInt = 1 := by decide
  have r := rng32 (j + 1)
  omega
theorem own_sub {x y : Int32} (h0 : 0 ≤ y.toInt) (h1 : y.toInt ≤ x.toInt) (h2 : x.toInt < 1000) : (x - y).toInt = x.toInt - y.toInt := by
  have q := c_isub x y; have r := rng32 (x - y)
  omega
theorem own_new (k : ClassId) : ∀ j : Nat, j < 1024 → ∃ y : Int64, (newA k .long (1024 : Int32)).slots[j]? = some (.long y) := fun j hj => ⟨0, by
  have e : (1024 : Int32).toNatClampNeg = 1024 := by decide
  simp [newA, e, hj, Array.getElem?_replicate, defaultValue]⟩
theorem own_set {cl : Cell} {i : Nat} {u : Int64} (h : ∀ j : Nat, j < 1024 → ∃ y : Int64, cl.slots[j]? = some (.long y)) : ∀ j : Nat, j < 1024 → ∃ y : Int64, (cl.setSlot i (.long u)).slots[j]? = some (.long y) := fun j hj => by
  obtain ⟨y, hy⟩ := h j hj
  by_cases q : i = j
  · subst q; exact ⟨u, by simp [Cell.setSlot, (Array.getElem?_eq_some_iff.mp hy).1]⟩
  · exact ⟨y, by rw [slot_ne cl (.long u) q]; exact hy⟩
theorem own_emp_eq {hd tl n : Int32} (h0 : 0 ≤ hd.toInt) (h1 : hd.toInt ≤ tl.toInt) (h2 : tl.toInt < 1000) (e : n = tl - hd) (q : n = 0) : own_emp hd tl = 1 := by
  have r := own_sub h0 h1 h2
  rw [← e, q] at r
  have z : (0 : Int32).toInt = 0 := by decide
  exact if_pos (Int32.toInt_inj.mp (by omega))
theorem own_emp_ne {hd tl n : Int32} (h0 : 0 ≤ hd.toInt) (h1 : hd.toInt ≤ tl.toInt) (h2 : tl.toInt < 1000) (e : n = tl - hd) (q : ¬ n = 0) : own_emp hd tl = 0 := by
  refine if_neg fun c => q ?_
  subst c; rw [e]; exact Int32.toInt_inj.mp (by have r := own_sub h0 h1 h2; rw [r]; have z : (0 : Int32).toInt = 0 := by decide
                                                omega)
theorem d1_0 : decode prog_14_method_1_code 0 = .ok (.aload_n 0, 1) := by decide +kernel
theorem d1_1 : decode prog_14_method_1_code 1 = .ok (.invokespecial 1, 3) := by decide +kernel
theorem d1_4 : decode prog_14_method_1_code 4 = .ok (.aload_n 0, 1) := by decide +kernel
theorem d1_5 : decode prog_14_method_1_code 5 = .ok (.sipush 1024, 3) := by decide +kernel
theorem d1_8 : decode prog_14_method_1_code 8 = .ok (.newarray .long, 2) := by decide +kernel
theorem d1_10 : decode prog_14_method_1_code 10 = .ok (.putfield 7, 3) := by decide +kernel
theorem d1_13 : decode prog_14_method_1_code 13 = .ok (.return_, 1) := by decide +kernel
theorem pn_com_example_erotema_erotema_model_LongQueue : plainName "com/example/erotema/erotema/model/LongQueue" = true := by first | (simp [plainName, overriddenIn]; done) | decide +kernel
theorem ef_1_0 (m : MethodId) (x0 : Addr) : entryFrame m #[(.ref x0)] 1 = mkF m 0 #[.val (.ref x0)] [] := by first | (simp [entryFrame, mkF, argsToLocals, Value.category]; done) | rfl
def Q1 (Z : State) (d0 : Addr) (h0 : Heap) (n0 : Nat) (v : Option Value) (h : Heap) (L : List Loc) : Prop := v = none ∧ Fr n0 L ∧ Keep h0 h [d0] ∧ ∃ arr : Addr, h0.size ≤ arr ∧ n0 ≤ arr ∧ own_LQ Z h d0 arr 0 0
set_option maxRecDepth 65536 in
set_option maxHeartbeats 40000000 in
theorem rm1 (l : Launch) (Z : State) (a0 : Array Value) (hw : ∀ d ∈ tables_1, d.before a0 Z = true) (ws : List Jvm.Cond) (d0 : Addr) (h0 : Heap) (n0 : Nat) (Z0 : n0 ≤ h0.size) (g_d0 : n0 ≤ d0) (E_d0 : Exa Z h0 d0 "com/example/erotema/erotema/model/LongQueue") (F_head_d0 : Fld Z h0 d0 "com/example/erotema/erotema/model/LongQueue" "head" "I" (.int (0 : Int32))) (F_tail_d0 : Fld Z h0 d0 "com/example/erotema/erotema/model/LongQueue" "tail" "I" (.int (0 : Int32))) (F_numbers_d0 : Fld Z h0 d0 "com/example/erotema/erotema/model/LongQueue" "numbers" "[J" .null) :
    MetFree l (⟨"com/example/erotema/erotema/model/LongQueue", "<init>", "()V"⟩ : MethodName) (head1 (Jvm.Cond.code (⟨"com/example/erotema/erotema/model/LongQueue", "<init>", "()V"⟩ : MethodName) prog_14_method_1_code 1 none :: ws) ({ frames := 1, cells := 1, slots := 1024, locals := 12 } : Room)) (fun a U => a = #[(.ref d0)] ∧ Z.Warmed39 U.vm ∧ U.heap = h0) (fun _ _ _ _ _ => True) (fun _ U o U' => ∃ v L, o = .returned v ∧ Q1 Z d0 h0 n0 v U'.heap L ∧ FrameEnd U o U' L ({ frames := 1, cells := 1, slots := 1024, locals := 12 } : Room).cells ({ frames := 1, cells := 1, slots := 1024, locals := 12 } : Room).slots) := by
  refine MetFree.of_bodySF (plainFor_of_name pn_com_example_erotema_erotema_model_LongQueue) hisR ?_
  intro p e s m args below meth c s₁ Bd hml0 hP hK
  obtain ⟨rfl, hZ, hh⟩ := hP
  have hx := Bd.exec
  have hby := Bd.bytes
  have hlk : meth.locks = false := Bd.notSynchronized
  have hml : c.maxLocals = 1 := hml0
  have hown : s.vm.findClass "com/example/erotema/erotema/model/LongQueue" = some m.cls := findClass_of_methodNamed Bd.named
  have hnm := (name_of_methodNamed Bd.named Bd.method).1
  have X0 : Stand p l e ({ frames := 1, cells := 1, slots := 1024, locals := 12 } : Room) s m #[(.ref d0)] below meth c s₁ [] 0 0 := Stand.of_body Bd
  have e0 : s₁.heap = h0 := by rw [← hh, Bd.state]; rfl
  have N0 := Fr.nil n0
  have K0 : Keep h0 h0 [d0] := Keep.refl h0 _
  show Wp p e below (Out s (Q1 Z d0 h0 n0) ({ frames := 1, cells := 1, slots := 1024, locals := 12 } : Room).cells ({ frames := 1, cells := 1, slots := 1024, locals := 12 } : Room).slots) (s₁.setTop (entryFrame m #[(.ref d0)] 1))
  rw [ef_1_0]
  show Wp p e below _ (s₁.setTop (mkF m 0 #[.val (.ref d0)] []))
  refine Wp.step (fun t k => XS.aloadN X0.here hx rfl (hb hby d1_0) rfl rfl k) ?_
  show Wp p e below _ (s₁.setTop (mkF m 1 #[.val (.ref d0)] [(.ref d0)]))
  obtain ⟨T1, X1, e1, st1⟩ := initO X0 hx hZ hown (hw _ (List.mem_of_getElem? (i := 6) rfl)) (hw _ (List.mem_of_getElem? (i := 7) rfl)) (hw _ (List.mem_of_getElem? (i := 8) rfl)) e0 (g := (mkF m 1 #[.val (.ref d0)] [(.ref d0)])) rfl (by rw [hml]; rfl) rfl (hb hby d1_1) (by decide) (W := 0) (by show 2 * 0 + _ ≤ _; exact Nat.le_of_eq rfl) (by decide)
  refine Wp.step st1 ?_
  show Wp p e below _ (T1.setTop (mkF m 4 #[.val (.ref d0)] []))
  refine Wp.step (fun t k => XS.aloadN X1.here hx rfl (hb hby d1_4) rfl rfl k) ?_
  show Wp p e below _ (T1.setTop (mkF m 5 #[.val (.ref d0)] [(.ref d0)]))
  refine Wp.step (fun t k => XS.sipush X1.here hx rfl (hb hby d1_5) k) ?_
  show Wp p e below _ (T1.setTop (mkF m 8 #[.val (.ref d0)] [(.int (1024 : Int32)), (.ref d0)]))
  obtain ⟨T2, h2, k2, X2, e2, E2, A2, st2⟩ := newP X1 hx hZ (hw _ (List.mem_of_getElem? (i := 9) rfl)) e1 (g := (mkF m 8 #[.val (.ref d0)] [(.int (1024 : Int32)), (.ref d0)])) rfl (hb hby d1_8) rfl (by decide) (cap := 1024) (by decide) (by decide) (by decide) (by decide)
  obtain ⟨b2, g2⟩ : ∃ z, z = h0.size := ⟨_, rfl⟩
  rw [← g2] at A2 st2
  have g_b2 : n0 ≤ b2 := Nat.le_trans (Nat.le_trans Z0 K0.1) (Nat.le_of_eq g2.symm)
  have sz_b2 : h0.size ≤ b2 := Nat.le_trans K0.1 (Nat.le_of_eq g2.symm)
  have ne_d0_b2 : d0 ≠ b2 := Nat.ne_of_lt (Nat.lt_of_lt_of_le E_d0.lt (Nat.le_of_eq g2.symm))
  have c3 := E_d0.ext E2
  have c4 := F_head_d0.ext E2
  have c5 := F_tail_d0.ext E2
  have c6 := F_numbers_d0.ext E2
  have K7 := K0.ext E2
  have Z2 : (newA k2 .long (1024 : Int32)).slots.size = ((1024 : Int32)).toNatClampNeg := sz_new _ _ _
  have nn2 : ¬ (1024 : Int32) < 0 := (by decide)
  refine Wp.step st2 ?_
  show Wp p e below _ (T2.setTop (mkF m 10 #[.val (.ref d0)] [(.ref b2), (.ref d0)]))
  obtain ⟨T8, h8, X8, e8, W8, st8⟩ := putF X2 hx hZ hown (host := "") (Or.inl (hw _ (List.mem_of_getElem? (i := 10) rfl))) Via.refl e2 c6 c3 (Or.inl (hw _ (List.mem_of_getElem? (i := 11) rfl))) (hw _ (List.mem_of_getElem? (i := 1) rfl)) (ty := (.array .long)) (by decide) rfl rfl (g := (mkF m 10 #[.val (.ref d0)] [(.ref b2), (.ref d0)])) rfl rfl (hb hby d1_10)
  have c9 := c3.wr W8
  have c10 := c4.other W8 (Or.inr (slot_ne (Or.inl (hw _ (List.mem_of_getElem? (i := 18) rfl))) (Or.inl (hw _ (List.mem_of_getElem? (i := 11) rfl))) (by decide) (t := .int) (t' := (.array .long)) (by decide) (by decide)))
  have c11 := c5.other W8 (Or.inr (slot_ne (Or.inl (hw _ (List.mem_of_getElem? (i := 20) rfl))) (Or.inl (hw _ (List.mem_of_getElem? (i := 11) rfl))) (by decide) (t := .int) (t' := (.array .long)) (by decide) (by decide)))
  have A12 := A2.other W8 (Ne.symm ne_d0_b2)
  have c13 := c6.same W8
  have K14 := K7.wr W8 (Or.inl (List.mem_of_getElem? (i := 0) rfl))
  have N8 := Fr.snoc X8 N0 g_d0
  refine Wp.step st8 ?_
  show Wp p e below _ (T8.setTop (mkF m 13 #[.val (.ref d0)] []))
  refine Wp.retV X8 hx Bd.returns (hb hby d1_13) hlk ?_ (by decide) (by decide)
  show Q1 Z d0 h0 n0 none T8.heap _
  rw [e8]
  exact ⟨rfl, N8, K14, b2, sz_b2, g_b2, ⟨c9, c10, c11, c13, (Ne.symm ne_d0_b2), (newA k2 .long (1024 : Int32)), A12, Z2, (own_new k2)⟩⟩
theorem d3_0 : decode prog_14_method_3_code 0 = .ok (.aload_n 0, 1) := by decide +kernel
theorem d3_1 : decode prog_14_method_3_code 1 = .ok (.getfield 17, 3) := by decide +kernel
theorem d3_4 : decode prog_14_method_3_code 4 = .ok (.aload_n 0, 1) := by decide +kernel
theorem d3_5 : decode prog_14_method_3_code 5 = .ok (.getfield 13, 3) := by decide +kernel
theorem d3_8 : decode prog_14_method_3_code 8 = .ok (.if_icmp .ne 7, 3) := by decide +kernel
theorem d3_11 : decode prog_14_method_3_code 11 = .ok (.iconst 1, 1) := by decide +kernel
theorem d3_12 : decode prog_14_method_3_code 12 = .ok (.goto 4, 3) := by decide +kernel
theorem d3_15 : decode prog_14_method_3_code 15 = .ok (.iconst 0, 1) := by decide +kernel
theorem d3_16 : decode prog_14_method_3_code 16 = .ok (.ireturn, 1) := by decide +kernel
theorem ef_3_0 (m : MethodId) (x0 : Addr) : entryFrame m #[(.ref x0)] 1 = mkF m 0 #[.val (.ref x0)] [] := by first | (simp [entryFrame, mkF, argsToLocals, Value.category]; done) | rfl
def Q3 (Z : State) (d0 : Addr) (hd : Int32) (tl : Int32) (h0 : Heap) (n0 : Nat) (v : Option Value) (h : Heap) (L : List Loc) : Prop := v = some (.int (own_emp hd tl)) ∧ Fr n0 L ∧ h = h0
set_option maxRecDepth 65536 in
set_option maxHeartbeats 40000000 in
theorem rm3 (l : Launch) (Z : State) (a0 : Array Value) (hw : ∀ d ∈ tables_1, d.before a0 Z = true) (ws : List Jvm.Cond) (d0 : Addr) (hd : Int32) (tl : Int32) (h0 : Heap) (n0 : Nat) (Z0 : n0 ≤ h0.size) (F_head : Fld Z h0 d0 "com/example/erotema/erotema/model/LongQueue" "head" "I" (.int hd)) (F_tail : Fld Z h0 d0 "com/example/erotema/erotema/model/LongQueue" "tail" "I" (.int tl)) :
    MetFree l (⟨"com/example/erotema/erotema/model/LongQueue", "isEmpty", "()Z"⟩ : MethodName) (head1 (Jvm.Cond.code (⟨"com/example/erotema/erotema/model/LongQueue", "isEmpty", "()Z"⟩ : MethodName) prog_14_method_3_code 1 (some .boolean) :: ws) ({ frames := 0, cells := 0, slots := 0, locals := 0 } : Room)) (fun a U => a = #[(.ref d0)] ∧ Z.Warmed39 U.vm ∧ U.heap = h0) (fun _ _ _ _ _ => True) (fun _ U o U' => ∃ v L, o = .returned v ∧ Q3 Z d0 hd tl h0 n0 v U'.heap L ∧ FrameEnd U o U' L ({ frames := 0, cells := 0, slots := 0, locals := 0 } : Room).cells ({ frames := 0, cells := 0, slots := 0, locals := 0 } : Room).slots) := by
  refine MetFree.of_bodySF (plainFor_of_name pn_com_example_erotema_erotema_model_LongQueue) hisR ?_
  intro p e s m args below meth c s₁ Bd hml0 hP hK
  obtain ⟨rfl, hZ, hh⟩ := hP
  have hx := Bd.exec
  have hby := Bd.bytes
  have hlk : meth.locks = false := Bd.notSynchronized
  have hml : c.maxLocals = 1 := hml0
  have hown : s.vm.findClass "com/example/erotema/erotema/model/LongQueue" = some m.cls := findClass_of_methodNamed Bd.named
  have hnm := (name_of_methodNamed Bd.named Bd.method).1
  have X0 : Stand p l e ({ frames := 0, cells := 0, slots := 0, locals := 0 } : Room) s m #[(.ref d0)] below meth c s₁ [] 0 0 := Stand.of_body Bd
  have e0 : s₁.heap = h0 := by rw [← hh, Bd.state]; rfl
  have N0 := Fr.nil n0
  have K0 : Keep h0 h0 [] := Keep.refl h0 _
  show Wp p e below (Out s (Q3 Z d0 hd tl h0 n0) ({ frames := 0, cells := 0, slots := 0, locals := 0 } : Room).cells ({ frames := 0, cells := 0, slots := 0, locals := 0 } : Room).slots) (s₁.setTop (entryFrame m #[(.ref d0)] 1))
  rw [ef_3_0]
  show Wp p e below _ (s₁.setTop (mkF m 0 #[.val (.ref d0)] []))
  refine Wp.step (fun t k => XS.aloadN X0.here hx rfl (hb hby d3_0) rfl rfl k) ?_
  show Wp p e below _ (s₁.setTop (mkF m 1 #[.val (.ref d0)] [(.ref d0)]))
  obtain ⟨T1, X1, e1, st1⟩ := getF X0 hx hZ hown (host := "") (Or.inl (hw _ (List.mem_of_getElem? (i := 17) rfl))) Via.refl e0 F_head (g := (mkF m 1 #[.val (.ref d0)] [(.ref d0)])) rfl rfl (hb hby d3_1)
  refine Wp.step st1 ?_
  show Wp p e below _ (T1.setTop (mkF m 4 #[.val (.ref d0)] [(.int hd)]))
  refine Wp.step (fun t k => XS.aloadN X1.here hx rfl (hb hby d3_4) rfl rfl k) ?_
  show Wp p e below _ (T1.setTop (mkF m 5 #[.val (.ref d0)] [(.ref d0), (.int hd)]))
  obtain ⟨T2, X2, e2, st2⟩ := getF X1 hx hZ hown (host := "") (Or.inl (hw _ (List.mem_of_getElem? (i := 19) rfl))) Via.refl e1 F_tail (g := (mkF m 5 #[.val (.ref d0)] [(.ref d0), (.int hd)])) rfl rfl (hb hby d3_5)
  refine Wp.step st2 ?_
  show Wp p e below _ (T2.setTop (mkF m 8 #[.val (.ref d0)] [(.int tl), (.int hd)]))
  by_cases hc3 : hd = tl
  · refine Wp.step (fun t k => XS.icmpNo X2.here hx rfl (hb hby d3_8) rfl (teq hc3).2 k) ?_
    show Wp p e below _ (T2.setTop (mkF m 11 #[.val (.ref d0)] []))
    refine Wp.step (fun t k => XS.iconst X2.here hx rfl (hb hby d3_11) k) ?_
    show Wp p e below _ (T2.setTop (mkF m 12 #[.val (.ref d0)] [(.int (1 : Int32))]))
    refine Wp.step (fun t k => XS.goto X2.here hx rfl (pc0 := 12) (pc' := 16) rfl (hb hby d3_12) (by decide) (by decide) k) ?_
    show Wp p e below _ (T2.setTop (mkF m 16 #[.val (.ref d0)] [(.int (1 : Int32))]))
    refine Wp.retN X2 hx (t := .boolean) Bd.returns (by simp) (hb hby d3_16) hlk ?_ (by decide) (by decide)
    show Q3 Z d0 hd tl h0 n0 (some (.int (nar .boolean (1 : Int32)))) T2.heap _
    rw [e2]
    exact ⟨by simp only [own_emp, hc3, if_true, if_false]; rfl, N0, rfl⟩
  · refine Wp.step (fun t k => XS.icmpYes X2.here hx rfl (pc0 := 8) (pc' := 15) rfl (hb hby d3_8) rfl (feq hc3).2 (by decide) (by decide) k) ?_
    show Wp p e below _ (T2.setTop (mkF m 15 #[.val (.ref d0)] []))
    refine Wp.step (fun t k => XS.iconst X2.here hx rfl (hb hby d3_15) k) ?_
    show Wp p e below _ (T2.setTop (mkF m 16 #[.val (.ref d0)] [(.int (0 : Int32))]))
    refine Wp.retN X2 hx (t := .boolean) Bd.returns (by simp) (hb hby d3_16) hlk ?_ (by decide) (by decide)
    show Q3 Z d0 hd tl h0 n0 (some (.int (nar .boolean (0 : Int32)))) T2.heap _
    rw [e2]
    exact ⟨by simp only [own_emp, hc3, if_true, if_false]; rfl, N0, rfl⟩
theorem d5_0 : decode prog_14_method_2_code 0 = .ok (.aload_n 0, 1) := by decide +kernel
theorem d5_1 : decode prog_14_method_2_code 1 = .ok (.getfield 13, 3) := by decide +kernel
theorem d5_4 : decode prog_14_method_2_code 4 = .ok (.aload_n 0, 1) := by decide +kernel
theorem d5_5 : decode prog_14_method_2_code 5 = .ok (.getfield 7, 3) := by decide +kernel
theorem d5_8 : decode prog_14_method_2_code 8 = .ok (.arraylength, 1) := by decide +kernel
theorem d5_9 : decode prog_14_method_2_code 9 = .ok (.if_icmp .ne 81, 3) := by decide +kernel
theorem d5_90 : decode prog_14_method_2_code 90 = .ok (.aload_n 0, 1) := by decide +kernel
theorem d5_91 : decode prog_14_method_2_code 91 = .ok (.getfield 7, 3) := by decide +kernel
theorem d5_94 : decode prog_14_method_2_code 94 = .ok (.aload_n 0, 1) := by decide +kernel
theorem d5_95 : decode prog_14_method_2_code 95 = .ok (.dup, 1) := by decide +kernel
theorem d5_96 : decode prog_14_method_2_code 96 = .ok (.getfield 13, 3) := by decide +kernel
theorem d5_99 : decode prog_14_method_2_code 99 = .ok (.dup_x1, 1) := by decide +kernel
theorem d5_100 : decode prog_14_method_2_code 100 = .ok (.iconst 1, 1) := by decide +kernel
theorem d5_101 : decode prog_14_method_2_code 101 = .ok (.iadd, 1) := by decide +kernel
theorem d5_102 : decode prog_14_method_2_code 102 = .ok (.putfield 13, 3) := by decide +kernel
theorem d5_105 : decode prog_14_method_2_code 105 = .ok (.lload_n 1, 1) := by decide +kernel
theorem d5_106 : decode prog_14_method_2_code 106 = .ok (.lastore, 1) := by decide +kernel
theorem d5_107 : decode prog_14_method_2_code 107 = .ok (.return_, 1) := by decide +kernel
theorem ef_5_00 (m : MethodId) (x0 : Addr) (x1 : Int64) : entryFrame m #[(.ref x0), (.long x1)] 3 = mkF m 0 #[.val (.ref x0), .val (.long x1), .second] [] := by first | (simp [entryFrame, mkF, argsToLocals, Value.category]; done) | rfl
def Q5 (Z : State) (d0 : Addr) (u0 : Int64) (arr : Addr) (hd : Int32) (tl : Int32) (h0 : Heap) (n0 : Nat) (v : Option Value) (h : Heap) (L : List Loc) : Prop := v = none ∧ Fr n0 L ∧ Keep h0 h [d0, arr] ∧ own_LQ Z h d0 arr hd (tl + 1)
set_option maxRecDepth 65536 in
set_option maxHeartbeats 40000000 in
theorem rm5 (l : Launch) (Z : State) (a0 : Array Value) (hw : ∀ d ∈ tables_1, d.before a0 Z = true) (ws : List Jvm.Cond) (d0 : Addr) (u0 : Int64) (arr : Addr) (hd : Int32) (tl : Int32) (h0 : Heap) (n0 : Nat) (Z0 : n0 ≤ h0.size) (g_d0 : n0 ≤ d0) (g_arr : n0 ≤ arr) (hLQ : own_LQ Z h0 d0 arr hd tl) (b0 : 0 ≤ hd.toInt) (b1 : hd.toInt ≤ tl.toInt) (b2 : tl.toInt < 1000) :
    MetFree l (⟨"com/example/erotema/erotema/model/LongQueue", "add", "(J)V"⟩ : MethodName) (head1 (Jvm.Cond.code (⟨"com/example/erotema/erotema/model/LongQueue", "add", "(J)V"⟩ : MethodName) prog_14_method_2_code 3 none :: ws) ({ frames := 0, cells := 0, slots := 0, locals := 0 } : Room)) (fun a U => a = #[(.ref d0), (.long u0)] ∧ Z.Warmed39 U.vm ∧ U.heap = h0) (fun _ _ _ _ _ => True) (fun _ U o U' => ∃ v L, o = .returned v ∧ Q5 Z d0 u0 arr hd tl h0 n0 v U'.heap L ∧ FrameEnd U o U' L ({ frames := 0, cells := 0, slots := 0, locals := 0 } : Room).cells ({ frames := 0, cells := 0, slots := 0, locals := 0 } : Room).slots) := by
  refine MetFree.of_bodySF (plainFor_of_name pn_com_example_erotema_erotema_model_LongQueue) hisR ?_
  intro p e s m args below meth c s₁ Bd hml0 hP hK
  obtain ⟨rfl, hZ, hh⟩ := hP
  have hx := Bd.exec
  have hby := Bd.bytes
  have hlk : meth.locks = false := Bd.notSynchronized
  have hml : c.maxLocals = 3 := hml0
  have hown : s.vm.findClass "com/example/erotema/erotema/model/LongQueue" = some m.cls := findClass_of_methodNamed Bd.named
  have hnm := (name_of_methodNamed Bd.named Bd.method).1
  have X0 : Stand p l e ({ frames := 0, cells := 0, slots := 0, locals := 0 } : Room) s m #[(.ref d0), (.long u0)] below meth c s₁ [] 0 0 := Stand.of_body Bd
  have e0 : s₁.heap = h0 := by rw [← hh, Bd.state]; rfl
  have N0 := Fr.nil n0
  have K0 : Keep h0 h0 [d0, arr] := Keep.refl h0 _
  show Wp p e below (Out s (Q5 Z d0 u0 arr hd tl h0 n0) ({ frames := 0, cells := 0, slots := 0, locals := 0 } : Room).cells ({ frames := 0, cells := 0, slots := 0, locals := 0 } : Room).slots) (s₁.setTop (entryFrame m #[(.ref d0), (.long u0)] 3))
  rw [ef_5_00]
  obtain ⟨E_d0, F_head, F_tail, F_num, ne_arr, cl, A_arr, sz_arr, el_arr⟩ := hLQ
  have nn_arr : ¬ (1024 : Int32) < 0 := by decide
  show Wp p e below _ (s₁.setTop (mkF m 0 #[.val (.ref d0), .val (.long u0), .second] []))
  refine Wp.step (fun t k => XS.aloadN X0.here hx rfl (hb hby d5_0) rfl rfl k) ?_
  show Wp p e below _ (s₁.setTop (mkF m 1 #[.val (.ref d0), .val (.long u0), .second] [(.ref d0)]))
  obtain ⟨T1, X1, e1, st1⟩ := getF X0 hx hZ hown (host := "") (Or.inl (hw _ (List.mem_of_getElem? (i := 19) rfl))) Via.refl e0 F_tail (g := (mkF m 1 #[.val (.ref d0), .val (.long u0), .second] [(.ref d0)])) rfl rfl (hb hby d5_1)
  refine Wp.step st1 ?_
  show Wp p e below _ (T1.setTop (mkF m 4 #[.val (.ref d0), .val (.long u0), .second] [(.int tl)]))
  refine Wp.step (fun t k => XS.aloadN X1.here hx rfl (hb hby d5_4) rfl rfl k) ?_
  show Wp p e below _ (T1.setTop (mkF m 5 #[.val (.ref d0), .val (.long u0), .second] [(.ref d0), (.int tl)]))
  obtain ⟨T2, X2, e2, st2⟩ := getF X1 hx hZ hown (host := "") (Or.inl (hw _ (List.mem_of_getElem? (i := 10) rfl))) Via.refl e1 F_num (g := (mkF m 5 #[.val (.ref d0), .val (.long u0), .second] [(.ref d0), (.int tl)])) rfl rfl (hb hby d5_5)
  refine Wp.step st2 ?_
  show Wp p e below _ (T2.setTop (mkF m 8 #[.val (.ref d0), .val (.long u0), .second] [(.ref arr), (.int tl)]))
  refine Wp.step (X2.arraylength hx (by rw [e2]; exact A_arr.1) (State.isArrayOf_alike hZ.alike A_arr.2.1) (g := (mkF m 8 #[.val (.ref d0), .val (.long u0), .second] [(.ref arr), (.int tl)])) rfl rfl (hb hby d5_8)) ?_
  rw [len_of sz_arr nn_arr]
  show Wp p e below _ (T2.setTop (mkF m 9 #[.val (.ref d0), .val (.long u0), .second] [(.int (1024 : Int32)), (.int tl)]))
  refine Wp.step (fun t k => XS.icmpYes X2.here hx rfl (pc0 := 9) (pc' := 90) rfl (hb hby d5_9) rfl (feq (show ¬ (tl = (1024 : Int32)) from own_ne b2)).2 (by decide) (by decide) k) ?_
  show Wp p e below _ (T2.setTop (mkF m 90 #[.val (.ref d0), .val (.long u0), .second] []))
  refine Wp.step (fun t k => XS.aloadN X2.here hx rfl (hb hby d5_90) rfl rfl k) ?_
  show Wp p e below _ (T2.setTop (mkF m 91 #[.val (.ref d0), .val (.long u0), .second] [(.ref d0)]))
  obtain ⟨T4, X4, e4, st4⟩ := getF X2 hx hZ hown (host := "") (Or.inl (hw _ (List.mem_of_getElem? (i := 10) rfl))) Via.refl e2 F_num (g := (mkF m 91 #[.val (.ref d0), .val (.long u0), .second] [(.ref d0)])) rfl rfl (hb hby d5_91)
  refine Wp.step st4 ?_
  show Wp p e below _ (T4.setTop (mkF m 94 #[.val (.ref d0), .val (.long u0), .second] [(.ref arr)]))
  refine Wp.step (fun t k => XS.aloadN X4.here hx rfl (hb hby d5_94) rfl rfl k) ?_
  show Wp p e below _ (T4.setTop (mkF m 95 #[.val (.ref d0), .val (.long u0), .second] [(.ref d0), (.ref arr)]))
  refine Wp.step (fun t k => XS.dup X4.here hx rfl (hb hby d5_95) rfl rfl k) ?_
  show Wp p e below _ (T4.setTop (mkF m 96 #[.val (.ref d0), .val (.long u0), .second] [(.ref d0), (.ref d0), (.ref arr)]))
  obtain ⟨T5, X5, e5, st5⟩ := getF X4 hx hZ hown (host := "") (Or.inl (hw _ (List.mem_of_getElem? (i := 19) rfl))) Via.refl e4 F_tail (g := (mkF m 96 #[.val (.ref d0), .val (.long u0), .second] [(.ref d0), (.ref d0), (.ref arr)])) rfl rfl (hb hby d5_96)
  refine Wp.step st5 ?_
  show Wp p e below _ (T5.setTop (mkF m 99 #[.val (.ref d0), .val (.long u0), .second] [(.int tl), (.ref d0), (.ref arr)]))
  refine Wp.step (fun t k => XS.dupX1 X5.here hx rfl (hb hby d5_99) rfl rfl rfl k) ?_
  show Wp p e below _ (T5.setTop (mkF m 100 #[.val (.ref d0), .val (.long u0), .second] [(.int tl), (.ref d0), (.int tl), (.ref arr)]))
  refine Wp.step (fun t k => XS.iconst X5.here hx rfl (hb hby d5_100) k) ?_
  show Wp p e below _ (T5.setTop (mkF m 101 #[.val (.ref d0), .val (.long u0), .second] [(.int (1 : Int32)), (.int tl), (.ref d0), (.int tl), (.ref arr)]))
  refine Wp.step (fun t k => XS.iadd X5.here hx rfl (hb hby d5_101) rfl k) ?_
  show Wp p e below _ (T5.setTop (mkF m 102 #[.val (.ref d0), .val (.long u0), .second] [(.int (tl + (1 : Int32))), (.ref d0), (.int tl), (.ref arr)]))
  obtain ⟨T6, h6, X6, e6, W6, st6⟩ := putF X5 hx hZ hown (host := "") (Or.inl (hw _ (List.mem_of_getElem? (i := 19) rfl))) Via.refl e5 F_tail E_d0 (Or.inl (hw _ (List.mem_of_getElem? (i := 20) rfl))) (hw _ (List.mem_of_getElem? (i := 1) rfl)) (ty := .int) (by decide) rfl rfl (g := (mkF m 102 #[.val (.ref d0), .val (.long u0), .second] [(.int (tl + (1 : Int32))), (.ref d0), (.int tl), (.ref arr)])) rfl rfl (hb hby d5_102)
  have c7 := E_d0.wr W6
  have c8 := F_head.other W6 (Or.inr (slot_ne (Or.inl (hw _ (List.mem_of_getElem? (i := 18) rfl))) (Or.inl (hw _ (List.mem_of_getElem? (i := 20) rfl))) (by decide) (t := .int) (t' := .int) (by decide) (by decide)))
  have c9 := F_num.other W6 (Or.inr (slot_ne (Or.inl (hw _ (List.mem_of_getElem? (i := 11) rfl))) (Or.inl (hw _ (List.mem_of_getElem? (i := 20) rfl))) (by decide) (t := (.array .long)) (t' := .int) (by decide) (by decide)))
  have A10 := A_arr.other W6 ne_arr
  have c11 := F_tail.same W6
  have K12 := K0.wr W6 (Or.inl (List.mem_of_getElem? (i := 0) rfl))
  have N6 := Fr.snoc X6 N0 g_d0
  refine Wp.step st6 ?_
  show Wp p e below _ (T6.setTop (mkF m 105 #[.val (.ref d0), .val (.long u0), .second] [(.int tl), (.ref arr)]))
  refine Wp.step (fun t k => XS.lloadN X6.here hx rfl (hb hby d5_105) rfl k) ?_
  show Wp p e below _ (T6.setTop (mkF m 106 #[.val (.ref d0), .val (.long u0), .second] [(.long u0), (.int tl), (.ref arr)]))
  have hin13 : ¬ (tl < 0 ∨ cl.slots.size ≤ (tl).toNatClampNeg) := (inb_of sz_arr (own_in (Int.le_trans b0 b1) b2))
  obtain ⟨T13, h13, X13, e13, W13, st13⟩ := stJ X6 hx hZ e6 A10 (j := tl) hin13 (g := (mkF m 106 #[.val (.ref d0), .val (.long u0), .second] [(.long u0), (.int tl), (.ref arr)])) rfl rfl (hb hby d5_106)
  have c14 := c7.wr W13
  have c15 := c8.other W13 (Or.inl (Ne.symm ne_arr))
  have c16 := c11.other W13 (Or.inl (Ne.symm ne_arr))
  have c17 := c9.other W13 (Or.inl (Ne.symm ne_arr))
  have K18 := K12.wr W13 (Or.inl (List.mem_of_getElem? (i := 1) rfl))
  have N13 := Fr.snoc X13 N6 g_arr
  have A13 := A10.same W13
  have Z13 := (sz_set cl (tl).toNatClampNeg (.long u0)).trans sz_arr
  have el13 := own_set (i := (tl).toNatClampNeg) (u := u0) el_arr
  refine Wp.step st13 ?_
  show Wp p e below _ (T13.setTop (mkF m 107 #[.val (.ref d0), .val (.long u0), .second] []))
  refine Wp.retV X13 hx Bd.returns (hb hby d5_107) hlk ?_ (by decide) (by decide)
  show Q5 Z d0 u0 arr hd tl h0 n0 none T13.heap _
  rw [e13]
  exact ⟨rfl, N13, K18, ⟨c14, c15, c16, c17, ne_arr, (cl.setSlot (tl).toNatClampNeg (.long u0)), A13, Z13, el13⟩⟩
theorem d6_0 : decode prog_14_method_4_code 0 = .ok (.aload_n 0, 1) := by decide +kernel
theorem d6_1 : decode prog_14_method_4_code 1 = .ok (.getfield 7, 3) := by decide +kernel
theorem d6_4 : decode prog_14_method_4_code 4 = .ok (.aload_n 0, 1) := by decide +kernel
theorem d6_5 : decode prog_14_method_4_code 5 = .ok (.dup, 1) := by decide +kernel
theorem d6_6 : decode prog_14_method_4_code 6 = .ok (.getfield 17, 3) := by decide +kernel
theorem d6_9 : decode prog_14_method_4_code 9 = .ok (.dup_x1, 1) := by decide +kernel
theorem d6_10 : decode prog_14_method_4_code 10 = .ok (.iconst 1, 1) := by decide +kernel
theorem d6_11 : decode prog_14_method_4_code 11 = .ok (.iadd, 1) := by decide +kernel
theorem d6_12 : decode prog_14_method_4_code 12 = .ok (.putfield 17, 3) := by decide +kernel
theorem d6_15 : decode prog_14_method_4_code 15 = .ok (.laload, 1) := by decide +kernel
theorem d6_16 : decode prog_14_method_4_code 16 = .ok (.lreturn, 1) := by decide +kernel
theorem ef_6_0 (m : MethodId) (x0 : Addr) : entryFrame m #[(.ref x0)] 1 = mkF m 0 #[.val (.ref x0)] [] := by first | (simp [entryFrame, mkF, argsToLocals, Value.category]; done) | rfl
def Q6 (Z : State) (d0 : Addr) (arr : Addr) (hd : Int32) (tl : Int32) (h0 : Heap) (n0 : Nat) (v : Option Value) (h : Heap) (L : List Loc) : Prop := ∃ y : Int64, v = some (.long y) ∧ Fr n0 L ∧ Keep h0 h [d0, arr] ∧ own_LQ Z h d0 arr (hd + 1) tl
set_option maxRecDepth 65536 in
set_option maxHeartbeats 40000000 in
theorem rm6 (l : Launch) (Z : State) (a0 : Array Value) (hw : ∀ d ∈ tables_1, d.before a0 Z = true) (ws : List Jvm.Cond) (d0 : Addr) (arr : Addr) (hd : Int32) (tl : Int32) (h0 : Heap) (n0 : Nat) (Z0 : n0 ≤ h0.size) (g_d0 : n0 ≤ d0) (g_arr : n0 ≤ arr) (hLQ : own_LQ Z h0 d0 arr hd tl) (b0 : 0 ≤ hd.toInt) (b1 : hd.toInt ≤ tl.toInt) (b2 : tl.toInt < 1000) :
    MetFree l (⟨"com/example/erotema/erotema/model/LongQueue", "poll", "()J"⟩ : MethodName) (head1 (Jvm.Cond.code (⟨"com/example/erotema/erotema/model/LongQueue", "poll", "()J"⟩ : MethodName) prog_14_method_4_code 1 (some .long) :: ws) ({ frames := 0, cells := 0, slots := 0, locals := 0 } : Room)) (fun a U => a = #[(.ref d0)] ∧ Z.Warmed39 U.vm ∧ U.heap = h0) (fun _ _ _ _ _ => True) (fun _ U o U' => ∃ v L, o = .returned v ∧ Q6 Z d0 arr hd tl h0 n0 v U'.heap L ∧ FrameEnd U o U' L ({ frames := 0, cells := 0, slots := 0, locals := 0 } : Room).cells ({ frames := 0, cells := 0, slots := 0, locals := 0 } : Room).slots) := by
  refine MetFree.of_bodySF (plainFor_of_name pn_com_example_erotema_erotema_model_LongQueue) hisR ?_
  intro p e s m args below meth c s₁ Bd hml0 hP hK
  obtain ⟨rfl, hZ, hh⟩ := hP
  have hx := Bd.exec
  have hby := Bd.bytes
  have hlk : meth.locks = false := Bd.notSynchronized
  have hml : c.maxLocals = 1 := hml0
  have hown : s.vm.findClass "com/example/erotema/erotema/model/LongQueue" = some m.cls := findClass_of_methodNamed Bd.named
  have hnm := (name_of_methodNamed Bd.named Bd.method).1
  have X0 : Stand p l e ({ frames := 0, cells := 0, slots := 0, locals := 0 } : Room) s m #[(.ref d0)] below meth c s₁ [] 0 0 := Stand.of_body Bd
  have e0 : s₁.heap = h0 := by rw [← hh, Bd.state]; rfl
  have N0 := Fr.nil n0
  have K0 : Keep h0 h0 [d0, arr] := Keep.refl h0 _
  show Wp p e below (Out s (Q6 Z d0 arr hd tl h0 n0) ({ frames := 0, cells := 0, slots := 0, locals := 0 } : Room).cells ({ frames := 0, cells := 0, slots := 0, locals := 0 } : Room).slots) (s₁.setTop (entryFrame m #[(.ref d0)] 1))
  rw [ef_6_0]
  obtain ⟨E_d0, F_head, F_tail, F_num, ne_arr, cl, A_arr, sz_arr, el_arr⟩ := hLQ
  have nn_arr : ¬ (1024 : Int32) < 0 := by decide
  show Wp p e below _ (s₁.setTop (mkF m 0 #[.val (.ref d0)] []))
  refine Wp.step (fun t k => XS.aloadN X0.here hx rfl (hb hby d6_0) rfl rfl k) ?_
  show Wp p e below _ (s₁.setTop (mkF m 1 #[.val (.ref d0)] [(.ref d0)]))
  obtain ⟨T1, X1, e1, st1⟩ := getF X0 hx hZ hown (host := "") (Or.inl (hw _ (List.mem_of_getElem? (i := 10) rfl))) Via.refl e0 F_num (g := (mkF m 1 #[.val (.ref d0)] [(.ref d0)])) rfl rfl (hb hby d6_1)
  refine Wp.step st1 ?_
  show Wp p e below _ (T1.setTop (mkF m 4 #[.val (.ref d0)] [(.ref arr)]))
  refine Wp.step (fun t k => XS.aloadN X1.here hx rfl (hb hby d6_4) rfl rfl k) ?_
  show Wp p e below _ (T1.setTop (mkF m 5 #[.val (.ref d0)] [(.ref d0), (.ref arr)]))
  refine Wp.step (fun t k => XS.dup X1.here hx rfl (hb hby d6_5) rfl rfl k) ?_
  show Wp p e below _ (T1.setTop (mkF m 6 #[.val (.ref d0)] [(.ref d0), (.ref d0), (.ref arr)]))
  obtain ⟨T2, X2, e2, st2⟩ := getF X1 hx hZ hown (host := "") (Or.inl (hw _ (List.mem_of_getElem? (i := 17) rfl))) Via.refl e1 F_head (g := (mkF m 6 #[.val (.ref d0)] [(.ref d0), (.ref d0), (.ref arr)])) rfl rfl (hb hby d6_6)
  refine Wp.step st2 ?_
  show Wp p e below _ (T2.setTop (mkF m 9 #[.val (.ref d0)] [(.int hd), (.ref d0), (.ref arr)]))
  refine Wp.step (fun t k => XS.dupX1 X2.here hx rfl (hb hby d6_9) rfl rfl rfl k) ?_
  show Wp p e below _ (T2.setTop (mkF m 10 #[.val (.ref d0)] [(.int hd), (.ref d0), (.int hd), (.ref arr)]))
  refine Wp.step (fun t k => XS.iconst X2.here hx rfl (hb hby d6_10) k) ?_
  show Wp p e below _ (T2.setTop (mkF m 11 #[.val (.ref d0)] [(.int (1 : Int32)), (.int hd), (.ref d0), (.int hd), (.ref arr)]))
  refine Wp.step (fun t k => XS.iadd X2.here hx rfl (hb hby d6_11) rfl k) ?_
  show Wp p e below _ (T2.setTop (mkF m 12 #[.val (.ref d0)] [(.int (hd + (1 : Int32))), (.ref d0), (.int hd), (.ref arr)]))
  obtain ⟨T3, h3, X3, e3, W3, st3⟩ := putF X2 hx hZ hown (host := "") (Or.inl (hw _ (List.mem_of_getElem? (i := 17) rfl))) Via.refl e2 F_head E_d0 (Or.inl (hw _ (List.mem_of_getElem? (i := 18) rfl))) (hw _ (List.mem_of_getElem? (i := 1) rfl)) (ty := .int) (by decide) rfl rfl (g := (mkF m 12 #[.val (.ref d0)] [(.int (hd + (1 : Int32))), (.ref d0), (.int hd), (.ref arr)])) rfl rfl (hb hby d6_12)
  have c4 := E_d0.wr W3
  have c5 := F_tail.other W3 (Or.inr (slot_ne (Or.inl (hw _ (List.mem_of_getElem? (i := 20) rfl))) (Or.inl (hw _ (List.mem_of_getElem? (i := 18) rfl))) (by decide) (t := .int) (t' := .int) (by decide) (by decide)))
  have c6 := F_num.other W3 (Or.inr (slot_ne (Or.inl (hw _ (List.mem_of_getElem? (i := 11) rfl))) (Or.inl (hw _ (List.mem_of_getElem? (i := 18) rfl))) (by decide) (t := (.array .long)) (t' := .int) (by decide) (by decide)))
  have A7 := A_arr.other W3 ne_arr
  have c8 := F_head.same W3
  have K9 := K0.wr W3 (Or.inl (List.mem_of_getElem? (i := 0) rfl))
  have N3 := Fr.snoc X3 N0 g_d0
  refine Wp.step st3 ?_
  show Wp p e below _ (T3.setTop (mkF m 15 #[.val (.ref d0)] [(.int hd), (.ref arr)]))
  obtain ⟨y0, hy0⟩ := el_arr _ (own_nat b0 (Int.lt_of_le_of_lt b1 b2))
  have hin10 : ¬ (hd < 0 ∨ cl.slots.size ≤ (hd).toNatClampNeg) := (inb_of sz_arr (own_in b0 (Int.lt_of_le_of_lt b1 b2)))
  have hat10 : cl.slots[(hd).toNatClampNeg]? = some (.long y0) := hy0
  refine Wp.step (X3.laload hx (j := hd) (v := (.long y0)) (by rw [e3]; exact A7.1) (State.isArrayOf_alike hZ.alike A7.2.1) A7.2.2 hin10 hat10 (g := (mkF m 15 #[.val (.ref d0)] [(.int hd), (.ref arr)])) rfl rfl (hb hby d6_15)) ?_
  show Wp p e below _ (T3.setTop (mkF m 16 #[.val (.ref d0)] [(.long y0)]))
  refine Wp.retJ X3 hx Bd.returns (hb hby d6_16) hlk ?_ (by decide) (by decide)
  show Q6 Z d0 arr hd tl h0 n0 (some (.long y0)) T3.heap _
  rw [e3]
  exact ⟨_, rfl, N3, K9, ⟨c4, c8, c5, c6, ne_arr, cl, A7, sz_arr, el_arr⟩⟩
theorem own_pollN {hd tl n1 : Int32} (b0 : 0 ≤ hd.toInt) (b1 : hd.toInt ≤ tl.toInt) (b2 : tl.toInt < 1000) (e : n1 = tl - hd) (q : (0 : Int32) < n1) : n1 - 1 = tl - (hd + 1) := by
  rw [e, ← Int32.toInt_inj]
  have r := own_sub b0 b1 b2
  have i := own_inc b0 (Int.lt_of_le_of_lt b1 b2)
  rw [Int32.lt_iff_toInt_lt, e] at q
  have z : (0 : Int32).toInt = 0 := by decide
  have z1 : (1 : Int32).toInt = 1 := by decide
  have w := c_isub (tl - hd) 1; have w2 := c_isub tl (hd + 1); have w3 := rng32 (tl - hd - 1); have w4 := rng32 (tl - (hd + 1))
  omega
theorem own_pollA {hd tl : Int32} (b0 : 0 ≤ hd.toInt) (b1 : hd.toInt ≤ tl.toInt) (b2 : tl.toInt < 1000) : 0 ≤ (hd + 1).toInt := by
  have i := own_inc b0 (Int.lt_of_le_of_lt b1 b2); omega
theorem own_pollB {hd tl n1 : Int32} (b0 : 0 ≤ hd.toInt) (b1 : hd.toInt ≤ tl.toInt) (b2 : tl.toInt < 1000) (e : n1 = tl - hd) (q : (0 : Int32) < n1) : (hd + 1).toInt ≤ tl.toInt := by
  have r := own_sub b0 b1 b2
  have i := own_inc b0 (Int.lt_of_le_of_lt b1 b2)
  rw [Int32.lt_iff_toInt_lt, e] at q
  have z : (0 : Int32).toInt = 0 := by decide
  omega
theorem own_addN {hd tl n1 : Int32} (b0 : 0 ≤ hd.toInt) (b1 : hd.toInt ≤ tl.toInt) (b2 : tl.toInt < 1000) (e : n1 = tl - hd) : n1 + 1 = tl + 1 - hd := by
  rw [e, ← Int32.toInt_inj]
  have r := own_sub b0 b1 b2
  have i := own_inc (Int.le_trans b0 b1) b2
  have z1 : (1 : Int32).toInt = 1 := by decide
  have w := c_iadd (tl - hd) 1; have w2 := c_isub (tl + 1) hd; have w3 := rng32 (tl - hd + 1); have w4 := rng32 (tl + 1 - hd)
  omega
theorem own_addA {hd tl : Int32} (b0 : 0 ≤ hd.toInt) (b1 : hd.toInt ≤ tl.toInt) (b2 : tl.toInt < 1000) : hd.toInt ≤ (tl + 1).toInt := by
  have i := own_inc (Int.le_trans b0 b1) b2; omega
theorem own_addB {hd tl : Int32} {k0 : Int} (b0 : 0 ≤ hd.toInt) (b1 : hd.toInt ≤ tl.toInt) (b2 : tl.toInt < 1000) (hk : tl.toInt ≤ k0) : (tl + 1).toInt ≤ k0 + 1 := by
  have i := own_inc (Int.le_trans b0 b1) b2; omega
theorem pd_28J29V : parseMethodDescriptor "(J)V" = some ⟨[.long], none⟩ := by decide +kernel
theorem pd_2829J : parseMethodDescriptor "()J" = some ⟨[], some .long⟩ := by decide +kernel
theorem d4_0 : decode method_2_code 0 = .ok (.iload_n 1, 1) := by decide +kernel
theorem d4_1 : decode method_2_code 1 = .ok (.ifCond .eq 18, 3) := by decide +kernel
theorem d4_4 : decode method_2_code 4 = .ok (.iload 4, 2) := by decide +kernel
theorem d4_6 : decode method_2_code 6 = .ok (.ifCond .le 13, 3) := by decide +kernel
theorem d4_9 : decode method_2_code 9 = .ok (.aload_n 0, 1) := by decide +kernel
theorem d4_10 : decode method_2_code 10 = .ok (.invokevirtual 7, 3) := by decide +kernel
theorem d4_13 : decode method_2_code 13 = .ok (.pop2, 1) := by decide +kernel
theorem d4_14 : decode method_2_code 14 = .ok (.iload 4, 2) := by decide +kernel
theorem d4_16 : decode method_2_code 16 = .ok (.iconst 1, 1) := by decide +kernel
theorem d4_17 : decode method_2_code 17 = .ok (.isub, 1) := by decide +kernel
theorem d4_18 : decode method_2_code 18 = .ok (.ireturn, 1) := by decide +kernel
theorem d4_19 : decode method_2_code 19 = .ok (.aload_n 0, 1) := by decide +kernel
theorem d4_20 : decode method_2_code 20 = .ok (.lload_n 2, 1) := by decide +kernel
theorem d4_21 : decode method_2_code 21 = .ok (.invokevirtual 13, 3) := by decide +kernel
theorem d4_24 : decode method_2_code 24 = .ok (.iload 4, 2) := by decide +kernel
theorem d4_26 : decode method_2_code 26 = .ok (.iconst 1, 1) := by decide +kernel
theorem d4_27 : decode method_2_code 27 = .ok (.iadd, 1) := by decide +kernel
theorem d4_28 : decode method_2_code 28 = .ok (.ireturn, 1) := by decide +kernel
theorem pn_com_example_erotema_erotema_model_LongQueueIsEmptyPinLaw : plainName "com/example/erotema/erotema/model/LongQueueIsEmptyPinLaw" = true := by first | (simp [plainName, overriddenIn]; done) | decide +kernel
theorem ef_4_0000 (m : MethodId) (x0 : Addr) (x1 : Int32) (x2 : Int64) (x3 : Int32) : entryFrame m #[(.ref x0), (.int x1), (.long x2), (.int x3)] 5 = mkF m 0 #[.val (.ref x0), .val (.int x1), .val (.long x2), .second, .val (.int x3)] [] := by first | (simp [entryFrame, mkF, argsToLocals, Value.category]; done) | rfl
def Q4 (Z : State) (d0 : Addr) (bit : Int32) (u0 : Int64) (n1 : Int32) (arr : Addr) (hd : Int32) (tl : Int32) (k0 : Int) (h0 : Heap) (n0 : Nat) (v : Option Value) (h : Heap) (L : List Loc) : Prop := ∃ hd' tl' n' : Int32, v = some (.int n') ∧ Fr n0 L ∧ Keep h0 h [d0, arr] ∧ own_LQ Z h d0 arr hd' tl' ∧ n' = tl' - hd' ∧ 0 ≤ hd'.toInt ∧ hd'.toInt ≤ tl'.toInt ∧ tl'.toInt ≤ k0 + 1
set_option maxRecDepth 65536 in
set_option maxHeartbeats 40000000 in
theorem rm4 (l : Launch) (Z : State) (a0 : Array Value) (hw : ∀ d ∈ tables_1, d.before a0 Z = true) (ws : List Jvm.Cond) (d0 : Addr) (bit : Int32) (u0 : Int64) (n1 : Int32) (arr : Addr) (hd : Int32) (tl : Int32) (k0 : Int) (h0 : Heap) (n0 : Nat) (Z0 : n0 ≤ h0.size) (g_d0 : n0 ≤ d0) (g_arr : n0 ≤ arr) (hLQ : own_LQ Z h0 d0 arr hd tl) (b0 : 0 ≤ hd.toInt) (b1 : hd.toInt ≤ tl.toInt) (b2 : tl.toInt < 1000) (hn1 : n1 = tl - hd) (hk : tl.toInt ≤ k0) :
    MetFree l (⟨"com/example/erotema/erotema/model/LongQueueIsEmptyPinLaw", "step", "(Lcom/example/erotema/erotema/model/LongQueue;IJI)I"⟩ : MethodName) (head1 (Jvm.Cond.code (⟨"com/example/erotema/erotema/model/LongQueueIsEmptyPinLaw", "step", "(Lcom/example/erotema/erotema/model/LongQueue;IJI)I"⟩ : MethodName) method_2_code 5 (some .int) :: ws) ({ frames := 1, cells := 0, slots := 0, locals := 14 } : Room)) (fun a U => a = #[(.ref d0), (.int bit), (.long u0), (.int n1)] ∧ Z.Warmed39 U.vm ∧ U.heap = h0) (fun _ _ _ _ _ => True) (fun _ U o U' => ∃ v L, o = .returned v ∧ Q4 Z d0 bit u0 n1 arr hd tl k0 h0 n0 v U'.heap L ∧ FrameEnd U o U' L ({ frames := 1, cells := 0, slots := 0, locals := 14 } : Room).cells ({ frames := 1, cells := 0, slots := 0, locals := 14 } : Room).slots) := by
  refine MetFree.of_bodySF (plainFor_of_name pn_com_example_erotema_erotema_model_LongQueueIsEmptyPinLaw) hisR ?_
  intro p e s m args below meth c s₁ Bd hml0 hP hK
  obtain ⟨rfl, hZ, hh⟩ := hP
  have hx := Bd.exec
  have hby := Bd.bytes
  have hlk : meth.locks = false := Bd.notSynchronized
  have hml : c.maxLocals = 5 := hml0
  have hown : s.vm.findClass "com/example/erotema/erotema/model/LongQueueIsEmptyPinLaw" = some m.cls := findClass_of_methodNamed Bd.named
  have hnm := (name_of_methodNamed Bd.named Bd.method).1
  have X0 : Stand p l e ({ frames := 1, cells := 0, slots := 0, locals := 14 } : Room) s m #[(.ref d0), (.int bit), (.long u0), (.int n1)] below meth c s₁ [] 0 0 := Stand.of_body Bd
  have e0 : s₁.heap = h0 := by rw [← hh, Bd.state]; rfl
  have N0 := Fr.nil n0
  have K0 : Keep h0 h0 [d0, arr] := Keep.refl h0 _
  show Wp p e below (Out s (Q4 Z d0 bit u0 n1 arr hd tl k0 h0 n0) ({ frames := 1, cells := 0, slots := 0, locals := 14 } : Room).cells ({ frames := 1, cells := 0, slots := 0, locals := 14 } : Room).slots) (s₁.setTop (entryFrame m #[(.ref d0), (.int bit), (.long u0), (.int n1)] 5))
  rw [ef_4_0000]
  obtain ⟨E_d0, F_head, F_tail, F_num, ne_arr, cl, A_arr, sz_arr, el_arr⟩ := hLQ
  have nn_arr : ¬ (1024 : Int32) < 0 := by decide
  show Wp p e below _ (s₁.setTop (mkF m 0 #[.val (.ref d0), .val (.int bit), .val (.long u0), .second, .val (.int n1)] []))
  refine Wp.step (fun t k => XS.iloadN X0.here hx rfl (hb hby d4_0) rfl k) ?_
  show Wp p e below _ (s₁.setTop (mkF m 1 #[.val (.ref d0), .val (.int bit), .val (.long u0), .second, .val (.int n1)] [(.int bit)]))
  by_cases hc1 : bit = (0 : Int32)
  · refine Wp.step (fun t k => XS.ifYes X0.here hx rfl (pc0 := 1) (pc' := 19) rfl (hb hby d4_1) rfl ((if0 _ _).trans (teq hc1).1) (by decide) (by decide) k) ?_
    show Wp p e below _ (s₁.setTop (mkF m 19 #[.val (.ref d0), .val (.int bit), .val (.long u0), .second, .val (.int n1)] []))
    refine Wp.step (fun t k => XS.aloadN X0.here hx rfl (hb hby d4_19) rfl rfl k) ?_
    show Wp p e below _ (s₁.setTop (mkF m 20 #[.val (.ref d0), .val (.int bit), .val (.long u0), .second, .val (.int n1)] [(.ref d0)]))
    refine Wp.step (fun t k => XS.lloadN X0.here hx rfl (hb hby d4_20) rfl k) ?_
    show Wp p e below _ (s₁.setTop (mkF m 21 #[.val (.ref d0), .val (.int bit), .val (.long u0), .second, .val (.int n1)] [(.long u0), (.ref d0)]))
    obtain ⟨cq2, kq2, q2a, q2b, q2c⟩ := isOf hZ e0 E_d0
    obtain ⟨_, _, ⟨T2, L2, k2, n2⟩, -, X2, ⟨Lc2, hQ2, l2, y2, z2⟩, st2⟩ := X0.virtualBack hx (y := (⟨"com/example/erotema/erotema/model/LongQueue", "add", "(J)V"⟩ : MethodName)) (z := (⟨"com/example/erotema/erotema/model/LongQueue", "add", "(J)V"⟩ : MethodName)) hown (mvT hZ (hw _ (List.mem_of_getElem? (i := 25) rfl))) (mvT hZ (hw _ (List.mem_of_getElem? (i := 26) rfl))) (notFace_of_selects (args := #[]) (mvT hZ (hw _ (List.mem_of_getElem? (i := 28) rfl)))) (mvT hZ (hw _ (List.mem_of_getElem? (i := 28) rfl))) (mvT hZ (hw _ (List.mem_of_getElem? (i := 27) rfl))) (by decide) (backOf (W := 0) (rm5 l Z a0 hw [] d0 u0 arr hd tl h0 n0 (Nat.le_trans Z0 K0.1) g_d0 g_arr ⟨E_d0, F_head, F_tail, F_num, ne_arr, cl, A_arr, sz_arr, el_arr⟩ b0 b1 b2) hZ (hw _ (List.mem_of_getElem? (i := 29) rfl)) (hw _ (List.mem_of_getElem? (i := 2) rfl)) (by decide) (by decide)) q2a q2c (g := (mkF m 21 #[.val (.ref d0), .val (.int bit), .val (.long u0), .second, .val (.int n1)] [(.long u0), (.ref d0)])) rfl (by rw [hml]; rfl) (Steps.refl _) (argsL := [(.long u0)]) (rest := []) (lenOf pd_28J29V rfl) rfl (by show 2 * 0 + _ ≤ _; exact Nat.le_of_eq rfl) (hb hby d4_21) (fun _ _ => ⟨rfl, e0, (by decide : 0 + 0 ≤ _), (by decide : 0 + 0 ≤ _)⟩)
    dsimp only [Pt.U, Pt.locs, Pt.cells, Pt.slots] at X2 l2 y2 z2 st2 hQ2
    subst l2 y2 z2
    obtain ⟨h2, e2⟩ : ∃ z, T2.heap = z := ⟨_, rfl⟩
    rw [e2] at hQ2
    obtain ⟨rfl, N2q, Kc2, LQ2⟩ := hQ2
    have N2 := Fr.app N0 N2q
    refine Wp.go st2 ?_
    show Wp p e below _ (T2.setTop (mkF m 24 #[.val (.ref d0), .val (.int bit), .val (.long u0), .second, .val (.int n1)] []))
    refine Wp.step (fun t k => XS.iload X2.here hx rfl (hb hby d4_24) rfl k) ?_
    show Wp p e below _ (T2.setTop (mkF m 26 #[.val (.ref d0), .val (.int bit), .val (.long u0), .second, .val (.int n1)] [(.int n1)]))
    refine Wp.step (fun t k => XS.iconst X2.here hx rfl (hb hby d4_26) k) ?_
    show Wp p e below _ (T2.setTop (mkF m 27 #[.val (.ref d0), .val (.int bit), .val (.long u0), .second, .val (.int n1)] [(.int (1 : Int32)), (.int n1)]))
    refine Wp.step (fun t k => XS.iadd X2.here hx rfl (hb hby d4_27) rfl k) ?_
    show Wp p e below _ (T2.setTop (mkF m 28 #[.val (.ref d0), .val (.int bit), .val (.long u0), .second, .val (.int n1)] [(.int (n1 + (1 : Int32)))]))
    refine Wp.retI X2 hx Bd.returns (hb hby d4_28) hlk ?_ (by decide) (by decide)
    show Q4 Z d0 bit u0 n1 arr hd tl k0 h0 n0 (some (.int (n1 + (1 : Int32)))) T2.heap _
    rw [e2]
    exact ⟨hd, tl + 1, n1 + 1, rfl, N2, Kc2, LQ2, own_addN b0 b1 b2 hn1, b0, own_addA b0 b1 b2, own_addB b0 b1 b2 hk⟩
  · refine Wp.step (fun t k => XS.ifNo X0.here hx rfl (hb hby d4_1) rfl ((if0 _ _).trans (feq hc1).1) k) ?_
    show Wp p e below _ (s₁.setTop (mkF m 4 #[.val (.ref d0), .val (.int bit), .val (.long u0), .second, .val (.int n1)] []))
    refine Wp.step (fun t k => XS.iload X0.here hx rfl (hb hby d4_4) rfl k) ?_
    show Wp p e below _ (s₁.setTop (mkF m 6 #[.val (.ref d0), .val (.int bit), .val (.long u0), .second, .val (.int n1)] [(.int n1)]))
    by_cases hc3 : (0 : Int32) < n1
    · refine Wp.step (fun t k => XS.ifNo X0.here hx rfl (hb hby d4_6) rfl ((if0 _ _).trans (tlt hc3).2.2.2) k) ?_
      show Wp p e below _ (s₁.setTop (mkF m 9 #[.val (.ref d0), .val (.int bit), .val (.long u0), .second, .val (.int n1)] []))
      refine Wp.step (fun t k => XS.aloadN X0.here hx rfl (hb hby d4_9) rfl rfl k) ?_
      show Wp p e below _ (s₁.setTop (mkF m 10 #[.val (.ref d0), .val (.int bit), .val (.long u0), .second, .val (.int n1)] [(.ref d0)]))
      obtain ⟨cq4, kq4, q4a, q4b, q4c⟩ := isOf hZ e0 E_d0
      obtain ⟨_, _, ⟨T4, L4, k4, n4⟩, -, X4, ⟨Lc4, hQ4, l4, y4, z4⟩, st4⟩ := X0.virtualBack hx (y := (⟨"com/example/erotema/erotema/model/LongQueue", "poll", "()J"⟩ : MethodName)) (z := (⟨"com/example/erotema/erotema/model/LongQueue", "poll", "()J"⟩ : MethodName)) hown (mvT hZ (hw _ (List.mem_of_getElem? (i := 30) rfl))) (mvT hZ (hw _ (List.mem_of_getElem? (i := 31) rfl))) (notFace_of_selects (args := #[]) (mvT hZ (hw _ (List.mem_of_getElem? (i := 33) rfl)))) (mvT hZ (hw _ (List.mem_of_getElem? (i := 33) rfl))) (mvT hZ (hw _ (List.mem_of_getElem? (i := 32) rfl))) (by decide) (backOf (W := 0) (rm6 l Z a0 hw [] d0 arr hd tl h0 n0 (Nat.le_trans Z0 K0.1) g_d0 g_arr ⟨E_d0, F_head, F_tail, F_num, ne_arr, cl, A_arr, sz_arr, el_arr⟩ b0 b1 b2) hZ (hw _ (List.mem_of_getElem? (i := 34) rfl)) (hw _ (List.mem_of_getElem? (i := 2) rfl)) (by decide) (by decide)) q4a q4c (g := (mkF m 10 #[.val (.ref d0), .val (.int bit), .val (.long u0), .second, .val (.int n1)] [(.ref d0)])) rfl (by rw [hml]; rfl) (Steps.refl _) (argsL := []) (rest := []) (lenOf pd_2829J rfl) rfl (by show 2 * 0 + _ ≤ _; exact Nat.le_of_eq rfl) (hb hby d4_10) (fun _ _ => ⟨rfl, e0, (by decide : 0 + 0 ≤ _), (by decide : 0 + 0 ≤ _)⟩)
      dsimp only [Pt.U, Pt.locs, Pt.cells, Pt.slots] at X4 l4 y4 z4 st4 hQ4
      subst l4 y4 z4
      obtain ⟨h4, e4⟩ : ∃ z, T4.heap = z := ⟨_, rfl⟩
      rw [e4] at hQ4
      obtain ⟨y4, rfl, N4q, Kc4, LQ4⟩ := hQ4
      have N4 := Fr.app N0 N4q
      refine Wp.go st4 ?_
      show Wp p e below _ (T4.setTop (mkF m 13 #[.val (.ref d0), .val (.int bit), .val (.long u0), .second, .val (.int n1)] [(.long y4)]))
      refine Wp.step (B := T4.setTop (mkF m 14 #[.val (.ref d0), .val (.int bit), .val (.long u0), .second, .val (.int n1)] [])) (fun t k => by jvm_step X4.here [X4.here.top, hx, (hb hby d4_13), Value.category]; exact k) ?_
      refine Wp.step (fun t k => XS.iload X4.here hx rfl (hb hby d4_14) rfl k) ?_
      show Wp p e below _ (T4.setTop (mkF m 16 #[.val (.ref d0), .val (.int bit), .val (.long u0), .second, .val (.int n1)] [(.int n1)]))
      refine Wp.step (fun t k => XS.iconst X4.here hx rfl (hb hby d4_16) k) ?_
      show Wp p e below _ (T4.setTop (mkF m 17 #[.val (.ref d0), .val (.int bit), .val (.long u0), .second, .val (.int n1)] [(.int (1 : Int32)), (.int n1)]))
      refine Wp.step (fun t k => XS.isub X4.here hx rfl (hb hby d4_17) rfl k) ?_
      show Wp p e below _ (T4.setTop (mkF m 18 #[.val (.ref d0), .val (.int bit), .val (.long u0), .second, .val (.int n1)] [(.int (n1 - (1 : Int32)))]))
      refine Wp.retI X4 hx Bd.returns (hb hby d4_18) hlk ?_ (by decide) (by decide)
      show Q4 Z d0 bit u0 n1 arr hd tl k0 h0 n0 (some (.int (n1 - (1 : Int32)))) T4.heap _
      rw [e4]
      exact ⟨hd + 1, tl, n1 - 1, rfl, N4, Kc4, LQ4, own_pollN b0 b1 b2 hn1 hc3, own_pollA b0 b1 b2, own_pollB b0 b1 b2 hn1 hc3, Int.le_trans hk (by omega)⟩
    · refine Wp.step (fun t k => XS.ifYes X0.here hx rfl (pc0 := 6) (pc' := 19) rfl (hb hby d4_6) rfl ((if0 _ _).trans (flt hc3).2.2.2) (by decide) (by decide) k) ?_
      show Wp p e below _ (s₁.setTop (mkF m 19 #[.val (.ref d0), .val (.int bit), .val (.long u0), .second, .val (.int n1)] []))
      refine Wp.step (fun t k => XS.aloadN X0.here hx rfl (hb hby d4_19) rfl rfl k) ?_
      show Wp p e below _ (s₁.setTop (mkF m 20 #[.val (.ref d0), .val (.int bit), .val (.long u0), .second, .val (.int n1)] [(.ref d0)]))
      refine Wp.step (fun t k => XS.lloadN X0.here hx rfl (hb hby d4_20) rfl k) ?_
      show Wp p e below _ (s₁.setTop (mkF m 21 #[.val (.ref d0), .val (.int bit), .val (.long u0), .second, .val (.int n1)] [(.long u0), (.ref d0)]))
      obtain ⟨cq5, kq5, q5a, q5b, q5c⟩ := isOf hZ e0 E_d0
      obtain ⟨_, _, ⟨T5, L5, k5, n5⟩, -, X5, ⟨Lc5, hQ5, l5, y5, z5⟩, st5⟩ := X0.virtualBack hx (y := (⟨"com/example/erotema/erotema/model/LongQueue", "add", "(J)V"⟩ : MethodName)) (z := (⟨"com/example/erotema/erotema/model/LongQueue", "add", "(J)V"⟩ : MethodName)) hown (mvT hZ (hw _ (List.mem_of_getElem? (i := 25) rfl))) (mvT hZ (hw _ (List.mem_of_getElem? (i := 26) rfl))) (notFace_of_selects (args := #[]) (mvT hZ (hw _ (List.mem_of_getElem? (i := 28) rfl)))) (mvT hZ (hw _ (List.mem_of_getElem? (i := 28) rfl))) (mvT hZ (hw _ (List.mem_of_getElem? (i := 27) rfl))) (by decide) (backOf (W := 0) (rm5 l Z a0 hw [] d0 u0 arr hd tl h0 n0 (Nat.le_trans Z0 K0.1) g_d0 g_arr ⟨E_d0, F_head, F_tail, F_num, ne_arr, cl, A_arr, sz_arr, el_arr⟩ b0 b1 b2) hZ (hw _ (List.mem_of_getElem? (i := 29) rfl)) (hw _ (List.mem_of_getElem? (i := 2) rfl)) (by decide) (by decide)) q5a q5c (g := (mkF m 21 #[.val (.ref d0), .val (.int bit), .val (.long u0), .second, .val (.int n1)] [(.long u0), (.ref d0)])) rfl (by rw [hml]; rfl) (Steps.refl _) (argsL := [(.long u0)]) (rest := []) (lenOf pd_28J29V rfl) rfl (by show 2 * 0 + _ ≤ _; exact Nat.le_of_eq rfl) (hb hby d4_21) (fun _ _ => ⟨rfl, e0, (by decide : 0 + 0 ≤ _), (by decide : 0 + 0 ≤ _)⟩)
      dsimp only [Pt.U, Pt.locs, Pt.cells, Pt.slots] at X5 l5 y5 z5 st5 hQ5
      subst l5 y5 z5
      obtain ⟨h5, e5⟩ : ∃ z, T5.heap = z := ⟨_, rfl⟩
      rw [e5] at hQ5
      obtain ⟨rfl, N5q, Kc5, LQ5⟩ := hQ5
      have N5 := Fr.app N0 N5q
      refine Wp.go st5 ?_
      show Wp p e below _ (T5.setTop (mkF m 24 #[.val (.ref d0), .val (.int bit), .val (.long u0), .second, .val (.int n1)] []))
      refine Wp.step (fun t k => XS.iload X5.here hx rfl (hb hby d4_24) rfl k) ?_
      show Wp p e below _ (T5.setTop (mkF m 26 #[.val (.ref d0), .val (.int bit), .val (.long u0), .second, .val (.int n1)] [(.int n1)]))
      refine Wp.step (fun t k => XS.iconst X5.here hx rfl (hb hby d4_26) k) ?_
      show Wp p e below _ (T5.setTop (mkF m 27 #[.val (.ref d0), .val (.int bit), .val (.long u0), .second, .val (.int n1)] [(.int (1 : Int32)), (.int n1)]))
      refine Wp.step (fun t k => XS.iadd X5.here hx rfl (hb hby d4_27) rfl k) ?_
      show Wp p e below _ (T5.setTop (mkF m 28 #[.val (.ref d0), .val (.int bit), .val (.long u0), .second, .val (.int n1)] [(.int (n1 + (1 : Int32)))]))
      refine Wp.retI X5 hx Bd.returns (hb hby d4_28) hlk ?_ (by decide) (by decide)
      show Q4 Z d0 bit u0 n1 arr hd tl k0 h0 n0 (some (.int (n1 + (1 : Int32)))) T5.heap _
      rw [e5]
      exact ⟨hd, tl + 1, n1 + 1, rfl, N5, Kc5, LQ5, own_addN b0 b1 b2 hn1, b0, own_addA b0 b1 b2, own_addB b0 b1 b2 hk⟩
theorem pd_2829V : parseMethodDescriptor "()V" = some ⟨[], none⟩ := by decide +kernel
theorem pd_2829Z : parseMethodDescriptor "()Z" = some ⟨[], some .boolean⟩ := by decide +kernel
theorem pd_28Lcom2fexample2ferotema2ferotema2fmodel2fLongQueue3bIJI29I : parseMethodDescriptor "(Lcom/example/erotema/erotema/model/LongQueue;IJI)I" = some ⟨[(.object "com/example/erotema/erotema/model/LongQueue"), .int, .long, .int], some .int⟩ := by decide +kernel
theorem ef_0_00000 (m : MethodId) (x0 : Int32) (x1 : Int64) (x2 : Int64) (x3 : Int64) (x4 : Int64) : entryFrame m #[(.int x0), (.long x1), (.long x2), (.long x3), (.long x4)] maxLocals = mkF m 0 #[.val (.int x0), .val (.long x1), .second, .val (.long x2), .second, .val (.long x3), .second, .val (.long x4), .second, .unset, .unset, .unset] [] := by first | (simp [entryFrame, mkF, argsToLocals, Value.category, maxLocals]; done) | rfl
def Q0 (Z : State) (p0 : Int32) (q1 : Int64) (q3 : Int64) (q5 : Int64) (q7 : Int64) (h0 : Heap) (n0 : Nat) (v : Option Value) (h : Heap) (L : List Loc) : Prop := v = some (.int 1) ∧ Fr n0 L
set_option maxRecDepth 65536 in
set_option maxHeartbeats 40000000 in
theorem rm0 (l : Launch) (Z : State) (a0 : Array Value) (hw : ∀ d ∈ tables_1, d.before a0 Z = true) (ws : List Jvm.Cond) (p0 : Int32) (q1 : Int64) (q3 : Int64) (q5 : Int64) (q7 : Int64) (h0 : Heap) (n0 : Nat) (Z0 : n0 ≤ h0.size) :
    MetFree l x (head1 (Jvm.Cond.code x code maxLocals ret :: ws) room_1) (fun a U => a = #[(.int p0), (.long q1), (.long q3), (.long q5), (.long q7)] ∧ Z.Warmed39 U.vm ∧ U.heap = h0) (fun _ _ _ _ _ => True) (fun _ U o U' => ∃ v L, o = .returned v ∧ Q0 Z p0 q1 q3 q5 q7 h0 n0 v U'.heap L ∧ FrameEnd U o U' L room_1.cells room_1.slots) := by
  refine MetFree.of_bodySF (plainFor_of_name pn_com_example_erotema_erotema_model_LongQueueIsEmptyPinLaw) hisR ?_
  intro p e s m args below meth c s₁ Bd hml0 hP hK
  obtain ⟨rfl, hZ, hh⟩ := hP
  have hx := Bd.exec
  have hby := Bd.bytes
  have hlk : meth.locks = false := Bd.notSynchronized
  have hml : c.maxLocals = 12 := hml0
  have hown : s.vm.findClass "com/example/erotema/erotema/model/LongQueueIsEmptyPinLaw" = some m.cls := findClass_of_methodNamed Bd.named
  have hnm := (name_of_methodNamed Bd.named Bd.method).1
  have X0 : Stand p l e room_1 s m #[(.int p0), (.long q1), (.long q3), (.long q5), (.long q7)] below meth c s₁ [] 0 0 := Stand.of_body Bd
  have e0 : s₁.heap = h0 := by rw [← hh, Bd.state]; rfl
  have N0 := Fr.nil n0
  have K0 : Keep h0 h0 [] := Keep.refl h0 _
  show Wp p e below (Out s (Q0 Z p0 q1 q3 q5 q7 h0 n0) room_1.cells room_1.slots) (s₁.setTop (entryFrame m #[(.int p0), (.long q1), (.long q3), (.long q5), (.long q7)] maxLocals))
  rw [ef_0_00000]
  show Wp p e below _ (s₁.setTop (mkF m 0 #[.val (.int p0), .val (.long q1), .second, .val (.long q3), .second, .val (.long q5), .second, .val (.long q7), .second, .unset, .unset, .unset] []))
  obtain ⟨T1, h1, X1, e1, E1, A1, D1, -, st1⟩ := newO X0 hx hZ hown (hw _ (List.mem_of_getElem? (i := 0) rfl)) (hw _ (List.mem_of_getElem? (i := 1) rfl)) (hw _ (List.mem_of_getElem? (i := 2) rfl)) e0 (g := (mkF m 0 #[.val (.int p0), .val (.long q1), .second, .val (.long q3), .second, .val (.long q5), .second, .val (.long q7), .second, .unset, .unset, .unset] [])) rfl (hb hby at_0) (by decide) (by decide)
  obtain ⟨b1, g1⟩ : ∃ z, z = h0.size := ⟨_, rfl⟩
  rw [← g1] at A1 D1 st1
  have g_b1 : n0 ≤ b1 := Nat.le_trans (Nat.le_trans Z0 K0.1) (Nat.le_of_eq g1.symm)
  have sz_b1 : h0.size ≤ b1 := Nat.le_trans K0.1 (Nat.le_of_eq g1.symm)
  have K2 := K0.ext E1
  have c3 : Fld Z h1 b1 "com/example/erotema/erotema/model/LongQueue" "numbers" "[J" .null := D1 (Or.inl (hw _ (List.mem_of_getElem? (i := 11) rfl))) (ty := (.array .long)) (by decide)
  have c4 : Fld Z h1 b1 "com/example/erotema/erotema/model/LongQueue" "head" "I" (.int (0 : Int32)) := D1 (Or.inl (hw _ (List.mem_of_getElem? (i := 18) rfl))) (ty := .int) (by decide)
  have c5 : Fld Z h1 b1 "com/example/erotema/erotema/model/LongQueue" "tail" "I" (.int (0 : Int32)) := D1 (Or.inl (hw _ (List.mem_of_getElem? (i := 20) rfl))) (ty := .int) (by decide)
  refine Wp.step st1 ?_
  show Wp p e below _ (T1.setTop (mkF m 3 #[.val (.int p0), .val (.long q1), .second, .val (.long q3), .second, .val (.long q5), .second, .val (.long q7), .second, .unset, .unset, .unset] [(.ref b1)]))
  refine Wp.step (fun t k => XS.dup X1.here hx rfl (hb hby at_3) rfl rfl k) ?_
  show Wp p e below _ (T1.setTop (mkF m 4 #[.val (.int p0), .val (.long q1), .second, .val (.long q3), .second, .val (.long q5), .second, .val (.long q7), .second, .unset, .unset, .unset] [(.ref b1), (.ref b1)]))
  obtain ⟨_, _, ⟨T6, L6, k6, n6⟩, -, X6, ⟨Lc6, hQ6, l6, y6, z6⟩, st6⟩ := X1.specialBack hx (y := (⟨"com/example/erotema/erotema/model/LongQueue", "<init>", "()V"⟩ : MethodName)) rfl hown (mvT hZ (hw _ (List.mem_of_getElem? (i := 3) rfl))) (mvT hZ (hw _ (List.mem_of_getElem? (i := 4) rfl))) (mvT hZ (hw _ (List.mem_of_getElem? (i := 5) rfl))) (by decide) (backOf (W := 1) (rm1 l Z a0 hw [] b1 h1 n0 (Nat.le_trans Z0 K2.1) g_b1 A1 c4 c5 c3) hZ (hw _ (List.mem_of_getElem? (i := 5) rfl)) (hw _ (List.mem_of_getElem? (i := 2) rfl)) (by decide) (by decide)) (g := (mkF m 4 #[.val (.int p0), .val (.long q1), .second, .val (.long q3), .second, .val (.long q5), .second, .val (.long q7), .second, .unset, .unset, .unset] [(.ref b1), (.ref b1)])) rfl (by rw [hml]; rfl) (Steps.refl _) (a := b1) (argsL := []) (rest := [(.ref b1)]) (lenOf pd_2829V rfl) rfl (by show 2 * 0 + _ ≤ _; exact Nat.le_of_eq rfl) (hb hby at_4) (fun _ _ => ⟨rfl, e1, (by decide : 1 + 1 ≤ _), (by decide : 3 + 1024 ≤ _)⟩)
  dsimp only [Pt.U, Pt.locs, Pt.cells, Pt.slots] at X6 l6 y6 z6 st6 hQ6
  subst l6 y6 z6
  obtain ⟨h6, e6⟩ : ∃ z, T6.heap = z := ⟨_, rfl⟩
  rw [e6] at hQ6
  obtain ⟨rfl, N6q, Kc6, arr, sz_arr0, g_arr, LQ0⟩ := hQ6
  have N6 := Fr.app N0 N6q
  have sz_arr : h0.size ≤ arr := Nat.le_trans K2.1 sz_arr0
  have K6 := K2.trans Kc6 (allS (Or.inr sz_b1) all0)
  have b0_0 : 0 ≤ (0 : Int32).toInt := by decide
  have b1_0 : (0 : Int32).toInt ≤ (0 : Int32).toInt := by decide
  have bk_0 : (0 : Int32).toInt ≤ 0 := by decide
  have en_0 : (0 : Int32) = (0 : Int32) - (0 : Int32) := by decide
  refine Wp.go st6 ?_
  show Wp p e below _ (T6.setTop (mkF m 7 #[.val (.int p0), .val (.long q1), .second, .val (.long q3), .second, .val (.long q5), .second, .val (.long q7), .second, .unset, .unset, .unset] [(.ref b1)]))
  refine Wp.step (fun t k => XS.astore X6.here hx rfl (hb hby at_7) rfl rfl (l' := #[.val (.int p0), .val (.long q1), .second, .val (.long q3), .second, .val (.long q5), .second, .val (.long q7), .second, .val (.ref b1), .unset, .unset]) rfl k) ?_
  show Wp p e below _ (T6.setTop (mkF m 9 #[.val (.int p0), .val (.long q1), .second, .val (.long q3), .second, .val (.long q5), .second, .val (.long q7), .second, .val (.ref b1), .unset, .unset] []))
  refine Wp.step (fun t k => XS.aload X6.here hx rfl (hb hby at_9) rfl rfl k) ?_
  show Wp p e below _ (T6.setTop (mkF m 11 #[.val (.int p0), .val (.long q1), .second, .val (.long q3), .second, .val (.long q5), .second, .val (.long q7), .second, .val (.ref b1), .unset, .unset] [(.ref b1)]))
  obtain ⟨cq7, kq7, q7a, q7b, q7c⟩ := isOf hZ e6 LQ0.1
  obtain ⟨_, _, ⟨T7, L7, k7, n7⟩, -, X7, ⟨Lc7, hQ7, l7, y7, z7⟩, st7⟩ := X6.virtualBack hx (y := (⟨"com/example/erotema/erotema/model/LongQueue", "isEmpty", "()Z"⟩ : MethodName)) (z := (⟨"com/example/erotema/erotema/model/LongQueue", "isEmpty", "()Z"⟩ : MethodName)) hown (mvT hZ (hw _ (List.mem_of_getElem? (i := 12) rfl))) (mvT hZ (hw _ (List.mem_of_getElem? (i := 13) rfl))) (notFace_of_selects (args := #[]) (mvT hZ (hw _ (List.mem_of_getElem? (i := 15) rfl)))) (mvT hZ (hw _ (List.mem_of_getElem? (i := 15) rfl))) (mvT hZ (hw _ (List.mem_of_getElem? (i := 14) rfl))) (by decide) (backOf (W := 0) (rm3 l Z a0 hw [] b1 (0 : Int32) (0 : Int32) h6 n0 (Nat.le_trans Z0 K6.1) LQ0.2.1 LQ0.2.2.1) hZ (hw _ (List.mem_of_getElem? (i := 16) rfl)) (hw _ (List.mem_of_getElem? (i := 2) rfl)) (by decide) (by decide)) q7a q7c (g := (mkF m 11 #[.val (.int p0), .val (.long q1), .second, .val (.long q3), .second, .val (.long q5), .second, .val (.long q7), .second, .val (.ref b1), .unset, .unset] [(.ref b1)])) rfl (by rw [hml]; rfl) (Steps.refl _) (argsL := []) (rest := []) (lenOf pd_2829Z rfl) rfl (by show 2 * 0 + _ ≤ _; exact Nat.le_of_eq rfl) (hb hby at_11) (fun _ _ => ⟨rfl, e6, (by decide : 2 + 0 ≤ _), (by decide : 1027 + 0 ≤ _)⟩)
  dsimp only [Pt.U, Pt.locs, Pt.cells, Pt.slots] at X7 l7 y7 z7 st7 hQ7
  subst l7 y7 z7
  obtain ⟨rfl, N7q, e7⟩ := hQ7
  have N7 := Fr.app N6 N7q
  refine Wp.go st7 ?_
  show Wp p e below _ (T7.setTop (mkF m 14 #[.val (.int p0), .val (.long q1), .second, .val (.long q3), .second, .val (.long q5), .second, .val (.long q7), .second, .val (.ref b1), .unset, .unset] [(.int (own_emp (0 : Int32) (0 : Int32)))]))
  refine Wp.step (fun t k => XS.istore X7.here hx rfl (hb hby at_14) rfl (l' := #[.val (.int p0), .val (.long q1), .second, .val (.long q3), .second, .val (.long q5), .second, .val (.long q7), .second, .val (.ref b1), .val (.int (own_emp (0 : Int32) (0 : Int32))), .unset]) rfl k) ?_
  show Wp p e below _ (T7.setTop (mkF m 16 #[.val (.int p0), .val (.long q1), .second, .val (.long q3), .second, .val (.long q5), .second, .val (.long q7), .second, .val (.ref b1), .val (.int (own_emp (0 : Int32) (0 : Int32))), .unset] []))
  refine Wp.step (fun t k => XS.iconst X7.here hx rfl (hb hby at_16) k) ?_
  show Wp p e below _ (T7.setTop (mkF m 17 #[.val (.int p0), .val (.long q1), .second, .val (.long q3), .second, .val (.long q5), .second, .val (.long q7), .second, .val (.ref b1), .val (.int (own_emp (0 : Int32) (0 : Int32))), .unset] [(.int (0 : Int32))]))
  refine Wp.step (fun t k => XS.istore X7.here hx rfl (hb hby at_17) rfl (l' := #[.val (.int p0), .val (.long q1), .second, .val (.long q3), .second, .val (.long q5), .second, .val (.long q7), .second, .val (.ref b1), .val (.int (own_emp (0 : Int32) (0 : Int32))), .val (.int (0 : Int32))]) rfl k) ?_
  show Wp p e below _ (T7.setTop (mkF m 19 #[.val (.int p0), .val (.long q1), .second, .val (.long q3), .second, .val (.long q5), .second, .val (.long q7), .second, .val (.ref b1), .val (.int (own_emp (0 : Int32) (0 : Int32))), .val (.int (0 : Int32))] []))
  refine Wp.step (fun t k => XS.aload X7.here hx rfl (hb hby at_19) rfl rfl k) ?_
  show Wp p e below _ (T7.setTop (mkF m 21 #[.val (.int p0), .val (.long q1), .second, .val (.long q3), .second, .val (.long q5), .second, .val (.long q7), .second, .val (.ref b1), .val (.int (own_emp (0 : Int32) (0 : Int32))), .val (.int (0 : Int32))] [(.ref b1)]))
  refine Wp.step (fun t k => XS.iloadN X7.here hx rfl (hb hby at_21) rfl k) ?_
  show Wp p e below _ (T7.setTop (mkF m 22 #[.val (.int p0), .val (.long q1), .second, .val (.long q3), .second, .val (.long q5), .second, .val (.long q7), .second, .val (.ref b1), .val (.int (own_emp (0 : Int32) (0 : Int32))), .val (.int (0 : Int32))] [(.int p0), (.ref b1)]))
  refine Wp.step (fun t k => XS.iconst X7.here hx rfl (hb hby at_22) k) ?_
  show Wp p e below _ (T7.setTop (mkF m 23 #[.val (.int p0), .val (.long q1), .second, .val (.long q3), .second, .val (.long q5), .second, .val (.long q7), .second, .val (.ref b1), .val (.int (own_emp (0 : Int32) (0 : Int32))), .val (.int (0 : Int32))] [(.int (1 : Int32)), (.int p0), (.ref b1)]))
  refine Wp.step (fun t k => XS.iand X7.here hx rfl (hb hby at_23) rfl k) ?_
  show Wp p e below _ (T7.setTop (mkF m 24 #[.val (.int p0), .val (.long q1), .second, .val (.long q3), .second, .val (.long q5), .second, .val (.long q7), .second, .val (.ref b1), .val (.int (own_emp (0 : Int32) (0 : Int32))), .val (.int (0 : Int32))] [(.int (p0 &&& (1 : Int32))), (.ref b1)]))
  refine Wp.step (fun t k => XS.lloadN X7.here hx rfl (hb hby at_24) rfl k) ?_
  show Wp p e below _ (T7.setTop (mkF m 25 #[.val (.int p0), .val (.long q1), .second, .val (.long q3), .second, .val (.long q5), .second, .val (.long q7), .second, .val (.ref b1), .val (.int (own_emp (0 : Int32) (0 : Int32))), .val (.int (0 : Int32))] [(.long q1), (.int (p0 &&& (1 : Int32))), (.ref b1)]))
  refine Wp.step (fun t k => XS.iload X7.here hx rfl (hb hby at_25) rfl k) ?_
  show Wp p e below _ (T7.setTop (mkF m 27 #[.val (.int p0), .val (.long q1), .second, .val (.long q3), .second, .val (.long q5), .second, .val (.long q7), .second, .val (.ref b1), .val (.int (own_emp (0 : Int32) (0 : Int32))), .val (.int (0 : Int32))] [(.int (0 : Int32)), (.long q1), (.int (p0 &&& (1 : Int32))), (.ref b1)]))
  obtain ⟨_, _, ⟨T8, L8, k8, n8⟩, -, X8, ⟨Lc8, hQ8, l8, y8, z8⟩, st8⟩ := Jvm.LawKit.callS X7 hx (y := (⟨"com/example/erotema/erotema/model/LongQueueIsEmptyPinLaw", "step", "(Lcom/example/erotema/erotema/model/LongQueue;IJI)I"⟩ : MethodName)) hown (mvT hZ (hw _ (List.mem_of_getElem? (i := 21) rfl))) (mvT hZ (hw _ (List.mem_of_getElem? (i := 22) rfl))) (mvT hZ (hw _ (List.mem_of_getElem? (i := 23) rfl))) (mvT hZ (hw _ (List.mem_of_getElem? (i := 24) rfl))) (by decide) (backOf (W := 0) (rm4 l Z a0 hw [] b1 (p0 &&& (1 : Int32)) q1 (0 : Int32) arr (0 : Int32) (0 : Int32) (0) h6 n0 (Nat.le_trans Z0 K6.1) g_b1 g_arr LQ0 b0_0 b1_0 (Int.lt_of_le_of_lt bk_0 (by decide)) en_0 bk_0) hZ (hw _ (List.mem_of_getElem? (i := 24) rfl)) (hw _ (List.mem_of_getElem? (i := 23) rfl)) (by decide) (by decide)) (g := (mkF m 27 #[.val (.int p0), .val (.long q1), .second, .val (.long q3), .second, .val (.long q5), .second, .val (.long q7), .second, .val (.ref b1), .val (.int (own_emp (0 : Int32) (0 : Int32))), .val (.int (0 : Int32))] [(.int (0 : Int32)), (.long q1), (.int (p0 &&& (1 : Int32))), (.ref b1)])) rfl (by rw [hml]; rfl) (argsL := [(.ref b1), (.int (p0 &&& (1 : Int32))), (.long q1), (.int (0 : Int32))]) (rest := []) (lenOf pd_28Lcom2fexample2ferotema2ferotema2fmodel2fLongQueue3bIJI29I rfl) rfl (by show 2 * 0 + _ ≤ _; exact Nat.le_of_eq rfl) (hb hby at_27) (fun _ _ => ⟨rfl, e7, (by decide : 2 + 0 ≤ _), (by decide : 1027 + 0 ≤ _)⟩)
  dsimp only [Pt.U, Pt.locs, Pt.cells, Pt.slots] at X8 l8 y8 z8 st8 hQ8
  subst l8 y8 z8
  obtain ⟨h8, e8⟩ : ∃ z, T8.heap = z := ⟨_, rfl⟩
  rw [e8] at hQ8
  obtain ⟨hd1, tl1, nn1, rfl, N8q, Kc8, LQ1, en_1, b0_1, b1_1, bk_1⟩ := hQ8
  have N8 := Fr.app N7 N8q
  have K8 := K6.trans Kc8 (allS (Or.inr sz_b1) (allS (Or.inr sz_arr) all0))
  refine Wp.step st8 ?_
  show Wp p e below _ (T8.setTop (mkF m 30 #[.val (.int p0), .val (.long q1), .second, .val (.long q3), .second, .val (.long q5), .second, .val (.long q7), .second, .val (.ref b1), .val (.int (own_emp (0 : Int32) (0 : Int32))), .val (.int (0 : Int32))] [(.int nn1)]))
  refine Wp.step (fun t k => XS.istore X8.here hx rfl (hb hby at_30) rfl (l' := #[.val (.int p0), .val (.long q1), .second, .val (.long q3), .second, .val (.long q5), .second, .val (.long q7), .second, .val (.ref b1), .val (.int (own_emp (0 : Int32) (0 : Int32))), .val (.int nn1)]) rfl k) ?_
  show Wp p e below _ (T8.setTop (mkF m 32 #[.val (.int p0), .val (.long q1), .second, .val (.long q3), .second, .val (.long q5), .second, .val (.long q7), .second, .val (.ref b1), .val (.int (own_emp (0 : Int32) (0 : Int32))), .val (.int nn1)] []))
  refine Wp.step (fun t k => XS.iload X8.here hx rfl (hb hby at_32) rfl k) ?_
  show Wp p e below _ (T8.setTop (mkF m 34 #[.val (.int p0), .val (.long q1), .second, .val (.long q3), .second, .val (.long q5), .second, .val (.long q7), .second, .val (.ref b1), .val (.int (own_emp (0 : Int32) (0 : Int32))), .val (.int nn1)] [(.int (own_emp (0 : Int32) (0 : Int32)))]))
  refine Wp.step (fun t k => XS.ifNo X8.here hx rfl (hb hby at_34) rfl ((if0 _ _).trans (feq (show ¬ ((own_emp (0 : Int32) (0 : Int32)) = (0 : Int32)) from (by decide))).1) k) ?_
  show Wp p e below _ (T8.setTop (mkF m 37 #[.val (.int p0), .val (.long q1), .second, .val (.long q3), .second, .val (.long q5), .second, .val (.long q7), .second, .val (.ref b1), .val (.int (own_emp (0 : Int32) (0 : Int32))), .val (.int nn1)] []))
  refine Wp.step (fun t k => XS.aload X8.here hx rfl (hb hby at_37) rfl rfl k) ?_
  show Wp p e below _ (T8.setTop (mkF m 39 #[.val (.int p0), .val (.long q1), .second, .val (.long q3), .second, .val (.long q5), .second, .val (.long q7), .second, .val (.ref b1), .val (.int (own_emp (0 : Int32) (0 : Int32))), .val (.int nn1)] [(.ref b1)]))
  obtain ⟨cq10, kq10, q10a, q10b, q10c⟩ := isOf hZ e8 LQ1.1
  obtain ⟨_, _, ⟨T10, L10, k10, n10⟩, -, X10, ⟨Lc10, hQ10, l10, y10, z10⟩, st10⟩ := X8.virtualBack hx (y := (⟨"com/example/erotema/erotema/model/LongQueue", "isEmpty", "()Z"⟩ : MethodName)) (z := (⟨"com/example/erotema/erotema/model/LongQueue", "isEmpty", "()Z"⟩ : MethodName)) hown (mvT hZ (hw _ (List.mem_of_getElem? (i := 12) rfl))) (mvT hZ (hw _ (List.mem_of_getElem? (i := 13) rfl))) (notFace_of_selects (args := #[]) (mvT hZ (hw _ (List.mem_of_getElem? (i := 15) rfl)))) (mvT hZ (hw _ (List.mem_of_getElem? (i := 15) rfl))) (mvT hZ (hw _ (List.mem_of_getElem? (i := 14) rfl))) (by decide) (backOf (W := 0) (rm3 l Z a0 hw [] b1 hd1 tl1 h8 n0 (Nat.le_trans Z0 K8.1) LQ1.2.1 LQ1.2.2.1) hZ (hw _ (List.mem_of_getElem? (i := 16) rfl)) (hw _ (List.mem_of_getElem? (i := 2) rfl)) (by decide) (by decide)) q10a q10c (g := (mkF m 39 #[.val (.int p0), .val (.long q1), .second, .val (.long q3), .second, .val (.long q5), .second, .val (.long q7), .second, .val (.ref b1), .val (.int (own_emp (0 : Int32) (0 : Int32))), .val (.int nn1)] [(.ref b1)])) rfl (by rw [hml]; rfl) (Steps.refl _) (argsL := []) (rest := []) (lenOf pd_2829Z rfl) rfl (by show 2 * 0 + _ ≤ _; exact Nat.le_of_eq rfl) (hb hby at_39) (fun _ _ => ⟨rfl, e8, (by decide : 2 + 0 ≤ _), (by decide : 1027 + 0 ≤ _)⟩)
  dsimp only [Pt.U, Pt.locs, Pt.cells, Pt.slots] at X10 l10 y10 z10 st10 hQ10
  subst l10 y10 z10
  obtain ⟨rfl, N10q, e10⟩ := hQ10
  have N10 := Fr.app N8 N10q
  refine Wp.go st10 ?_
  show Wp p e below _ (T10.setTop (mkF m 42 #[.val (.int p0), .val (.long q1), .second, .val (.long q3), .second, .val (.long q5), .second, .val (.long q7), .second, .val (.ref b1), .val (.int (own_emp (0 : Int32) (0 : Int32))), .val (.int nn1)] [(.int (own_emp hd1 tl1))]))
  have kont11 : Wp p e below (Out s (Q0 Z p0 q1 q3 q5 q7 h0 n0) room_1.cells room_1.slots) (T10.setTop (mkF m 62 #[.val (.int p0), .val (.long q1), .second, .val (.long q3), .second, .val (.long q5), .second, .val (.long q7), .second, .val (.ref b1), .val (.int (1 : Int32)), .val (.int nn1)] [])) := by
    refine Wp.step (fun t k => XS.aload X10.here hx rfl (hb hby at_62) rfl rfl k) ?_
    show Wp p e below _ (T10.setTop (mkF m 64 #[.val (.int p0), .val (.long q1), .second, .val (.long q3), .second, .val (.long q5), .second, .val (.long q7), .second, .val (.ref b1), .val (.int (1 : Int32)), .val (.int nn1)] [(.ref b1)]))
    refine Wp.step (fun t k => XS.iloadN X10.here hx rfl (hb hby at_64) rfl k) ?_
    show Wp p e below _ (T10.setTop (mkF m 65 #[.val (.int p0), .val (.long q1), .second, .val (.long q3), .second, .val (.long q5), .second, .val (.long q7), .second, .val (.ref b1), .val (.int (1 : Int32)), .val (.int nn1)] [(.int p0), (.ref b1)]))
    refine Wp.step (fun t k => XS.iconst X10.here hx rfl (hb hby at_65) k) ?_
    show Wp p e below _ (T10.setTop (mkF m 66 #[.val (.int p0), .val (.long q1), .second, .val (.long q3), .second, .val (.long q5), .second, .val (.long q7), .second, .val (.ref b1), .val (.int (1 : Int32)), .val (.int nn1)] [(.int (1 : Int32)), (.int p0), (.ref b1)]))
    refine Wp.step (fun t k => XS.ishr X10.here hx rfl (hb hby at_66) rfl k) ?_
    show Wp p e below _ (T10.setTop (mkF m 67 #[.val (.int p0), .val (.long q1), .second, .val (.long q3), .second, .val (.long q5), .second, .val (.long q7), .second, .val (.ref b1), .val (.int (1 : Int32)), .val (.int nn1)] [(.int (p0 >>> ((1 : Int32) &&& 31))), (.ref b1)]))
    refine Wp.step (fun t k => XS.iconst X10.here hx rfl (hb hby at_67) k) ?_
    show Wp p e below _ (T10.setTop (mkF m 68 #[.val (.int p0), .val (.long q1), .second, .val (.long q3), .second, .val (.long q5), .second, .val (.long q7), .second, .val (.ref b1), .val (.int (1 : Int32)), .val (.int nn1)] [(.int (1 : Int32)), (.int (p0 >>> ((1 : Int32) &&& 31))), (.ref b1)]))
    refine Wp.step (fun t k => XS.iand X10.here hx rfl (hb hby at_68) rfl k) ?_
    show Wp p e below _ (T10.setTop (mkF m 69 #[.val (.int p0), .val (.long q1), .second, .val (.long q3), .second, .val (.long q5), .second, .val (.long q7), .second, .val (.ref b1), .val (.int (1 : Int32)), .val (.int nn1)] [(.int ((p0 >>> ((1 : Int32) &&& 31)) &&& (1 : Int32))), (.ref b1)]))
    refine Wp.step (fun t k => XS.lloadN X10.here hx rfl (hb hby at_69) rfl k) ?_
    show Wp p e below _ (T10.setTop (mkF m 70 #[.val (.int p0), .val (.long q1), .second, .val (.long q3), .second, .val (.long q5), .second, .val (.long q7), .second, .val (.ref b1), .val (.int (1 : Int32)), .val (.int nn1)] [(.long q3), (.int ((p0 >>> ((1 : Int32) &&& 31)) &&& (1 : Int32))), (.ref b1)]))
    refine Wp.step (fun t k => XS.iload X10.here hx rfl (hb hby at_70) rfl k) ?_
    show Wp p e below _ (T10.setTop (mkF m 72 #[.val (.int p0), .val (.long q1), .second, .val (.long q3), .second, .val (.long q5), .second, .val (.long q7), .second, .val (.ref b1), .val (.int (1 : Int32)), .val (.int nn1)] [(.int nn1), (.long q3), (.int ((p0 >>> ((1 : Int32) &&& 31)) &&& (1 : Int32))), (.ref b1)]))
    obtain ⟨_, _, ⟨T12, L12, k12, n12⟩, -, X12, ⟨Lc12, hQ12, l12, y12, z12⟩, st12⟩ := Jvm.LawKit.callS X10 hx (y := (⟨"com/example/erotema/erotema/model/LongQueueIsEmptyPinLaw", "step", "(Lcom/example/erotema/erotema/model/LongQueue;IJI)I"⟩ : MethodName)) hown (mvT hZ (hw _ (List.mem_of_getElem? (i := 21) rfl))) (mvT hZ (hw _ (List.mem_of_getElem? (i := 22) rfl))) (mvT hZ (hw _ (List.mem_of_getElem? (i := 23) rfl))) (mvT hZ (hw _ (List.mem_of_getElem? (i := 24) rfl))) (by decide) (backOf (W := 0) (rm4 l Z a0 hw [] b1 ((p0 >>> ((1 : Int32) &&& 31)) &&& (1 : Int32)) q3 nn1 arr hd1 tl1 (0 + 1) h8 n0 (Nat.le_trans Z0 K8.1) g_b1 g_arr LQ1 b0_1 b1_1 (Int.lt_of_le_of_lt bk_1 (by decide)) en_1 bk_1) hZ (hw _ (List.mem_of_getElem? (i := 24) rfl)) (hw _ (List.mem_of_getElem? (i := 23) rfl)) (by decide) (by decide)) (g := (mkF m 72 #[.val (.int p0), .val (.long q1), .second, .val (.long q3), .second, .val (.long q5), .second, .val (.long q7), .second, .val (.ref b1), .val (.int (1 : Int32)), .val (.int nn1)] [(.int nn1), (.long q3), (.int ((p0 >>> ((1 : Int32) &&& 31)) &&& (1 : Int32))), (.ref b1)])) rfl (by rw [hml]; rfl) (argsL := [(.ref b1), (.int ((p0 >>> ((1 : Int32) &&& 31)) &&& (1 : Int32))), (.long q3), (.int nn1)]) (rest := []) (lenOf pd_28Lcom2fexample2ferotema2ferotema2fmodel2fLongQueue3bIJI29I rfl) rfl (by show 2 * 0 + _ ≤ _; exact Nat.le_of_eq rfl) (hb hby at_72) (fun _ _ => ⟨rfl, e10, (by decide : 2 + 0 ≤ _), (by decide : 1027 + 0 ≤ _)⟩)
    dsimp only [Pt.U, Pt.locs, Pt.cells, Pt.slots] at X12 l12 y12 z12 st12 hQ12
    subst l12 y12 z12
    obtain ⟨h12, e12⟩ : ∃ z, T12.heap = z := ⟨_, rfl⟩
    rw [e12] at hQ12
    obtain ⟨hd2, tl2, nn2, rfl, N12q, Kc12, LQ2, en_2, b0_2, b1_2, bk_2⟩ := hQ12
    have N12 := Fr.app N10 N12q
    have K12 := K8.trans Kc12 (allS (Or.inr sz_b1) (allS (Or.inr sz_arr) all0))
    refine Wp.step st12 ?_
    show Wp p e below _ (T12.setTop (mkF m 75 #[.val (.int p0), .val (.long q1), .second, .val (.long q3), .second, .val (.long q5), .second, .val (.long q7), .second, .val (.ref b1), .val (.int (1 : Int32)), .val (.int nn1)] [(.int nn2)]))
    refine Wp.step (fun t k => XS.istore X12.here hx rfl (hb hby at_75) rfl (l' := #[.val (.int p0), .val (.long q1), .second, .val (.long q3), .second, .val (.long q5), .second, .val (.long q7), .second, .val (.ref b1), .val (.int (1 : Int32)), .val (.int nn2)]) rfl k) ?_
    show Wp p e below _ (T12.setTop (mkF m 77 #[.val (.int p0), .val (.long q1), .second, .val (.long q3), .second, .val (.long q5), .second, .val (.long q7), .second, .val (.ref b1), .val (.int (1 : Int32)), .val (.int nn2)] []))
    refine Wp.step (fun t k => XS.iload X12.here hx rfl (hb hby at_77) rfl k) ?_
    show Wp p e below _ (T12.setTop (mkF m 79 #[.val (.int p0), .val (.long q1), .second, .val (.long q3), .second, .val (.long q5), .second, .val (.long q7), .second, .val (.ref b1), .val (.int (1 : Int32)), .val (.int nn2)] [(.int (1 : Int32))]))
    refine Wp.step (fun t k => XS.ifNo X12.here hx rfl (hb hby at_79) rfl ((if0 _ _).trans (feq (show ¬ ((1 : Int32) = (0 : Int32)) by decide)).1) k) ?_
    show Wp p e below _ (T12.setTop (mkF m 82 #[.val (.int p0), .val (.long q1), .second, .val (.long q3), .second, .val (.long q5), .second, .val (.long q7), .second, .val (.ref b1), .val (.int (1 : Int32)), .val (.int nn2)] []))
    refine Wp.step (fun t k => XS.aload X12.here hx rfl (hb hby at_82) rfl rfl k) ?_
    show Wp p e below _ (T12.setTop (mkF m 84 #[.val (.int p0), .val (.long q1), .second, .val (.long q3), .second, .val (.long q5), .second, .val (.long q7), .second, .val (.ref b1), .val (.int (1 : Int32)), .val (.int nn2)] [(.ref b1)]))
    obtain ⟨cq14, kq14, q14a, q14b, q14c⟩ := isOf hZ e12 LQ2.1
    obtain ⟨_, _, ⟨T14, L14, k14, n14⟩, -, X14, ⟨Lc14, hQ14, l14, y14, z14⟩, st14⟩ := X12.virtualBack hx (y := (⟨"com/example/erotema/erotema/model/LongQueue", "isEmpty", "()Z"⟩ : MethodName)) (z := (⟨"com/example/erotema/erotema/model/LongQueue", "isEmpty", "()Z"⟩ : MethodName)) hown (mvT hZ (hw _ (List.mem_of_getElem? (i := 12) rfl))) (mvT hZ (hw _ (List.mem_of_getElem? (i := 13) rfl))) (notFace_of_selects (args := #[]) (mvT hZ (hw _ (List.mem_of_getElem? (i := 15) rfl)))) (mvT hZ (hw _ (List.mem_of_getElem? (i := 15) rfl))) (mvT hZ (hw _ (List.mem_of_getElem? (i := 14) rfl))) (by decide) (backOf (W := 0) (rm3 l Z a0 hw [] b1 hd2 tl2 h12 n0 (Nat.le_trans Z0 K12.1) LQ2.2.1 LQ2.2.2.1) hZ (hw _ (List.mem_of_getElem? (i := 16) rfl)) (hw _ (List.mem_of_getElem? (i := 2) rfl)) (by decide) (by decide)) q14a q14c (g := (mkF m 84 #[.val (.int p0), .val (.long q1), .second, .val (.long q3), .second, .val (.long q5), .second, .val (.long q7), .second, .val (.ref b1), .val (.int (1 : Int32)), .val (.int nn2)] [(.ref b1)])) rfl (by rw [hml]; rfl) (Steps.refl _) (argsL := []) (rest := []) (lenOf pd_2829Z rfl) rfl (by show 2 * 0 + _ ≤ _; exact Nat.le_of_eq rfl) (hb hby at_84) (fun _ _ => ⟨rfl, e12, (by decide : 2 + 0 ≤ _), (by decide : 1027 + 0 ≤ _)⟩)
    dsimp only [Pt.U, Pt.locs, Pt.cells, Pt.slots] at X14 l14 y14 z14 st14 hQ14
    subst l14 y14 z14
    obtain ⟨rfl, N14q, e14⟩ := hQ14
    have N14 := Fr.app N12 N14q
    refine Wp.go st14 ?_
    show Wp p e below _ (T14.setTop (mkF m 87 #[.val (.int p0), .val (.long q1), .second, .val (.long q3), .second, .val (.long q5), .second, .val (.long q7), .second, .val (.ref b1), .val (.int (1 : Int32)), .val (.int nn2)] [(.int (own_emp hd2 tl2))]))
    have kont15 : Wp p e below (Out s (Q0 Z p0 q1 q3 q5 q7 h0 n0) room_1.cells room_1.slots) (T14.setTop (mkF m 107 #[.val (.int p0), .val (.long q1), .second, .val (.long q3), .second, .val (.long q5), .second, .val (.long q7), .second, .val (.ref b1), .val (.int (1 : Int32)), .val (.int nn2)] [])) := by
      refine Wp.step (fun t k => XS.aload X14.here hx rfl (hb hby at_107) rfl rfl k) ?_
      show Wp p e below _ (T14.setTop (mkF m 109 #[.val (.int p0), .val (.long q1), .second, .val (.long q3), .second, .val (.long q5), .second, .val (.long q7), .second, .val (.ref b1), .val (.int (1 : Int32)), .val (.int nn2)] [(.ref b1)]))
      refine Wp.step (fun t k => XS.iloadN X14.here hx rfl (hb hby at_109) rfl k) ?_
      show Wp p e below _ (T14.setTop (mkF m 110 #[.val (.int p0), .val (.long q1), .second, .val (.long q3), .second, .val (.long q5), .second, .val (.long q7), .second, .val (.ref b1), .val (.int (1 : Int32)), .val (.int nn2)] [(.int p0), (.ref b1)]))
      refine Wp.step (fun t k => XS.iconst X14.here hx rfl (hb hby at_110) k) ?_
      show Wp p e below _ (T14.setTop (mkF m 111 #[.val (.int p0), .val (.long q1), .second, .val (.long q3), .second, .val (.long q5), .second, .val (.long q7), .second, .val (.ref b1), .val (.int (1 : Int32)), .val (.int nn2)] [(.int (2 : Int32)), (.int p0), (.ref b1)]))
      refine Wp.step (fun t k => XS.ishr X14.here hx rfl (hb hby at_111) rfl k) ?_
      show Wp p e below _ (T14.setTop (mkF m 112 #[.val (.int p0), .val (.long q1), .second, .val (.long q3), .second, .val (.long q5), .second, .val (.long q7), .second, .val (.ref b1), .val (.int (1 : Int32)), .val (.int nn2)] [(.int (p0 >>> ((2 : Int32) &&& 31))), (.ref b1)]))
      refine Wp.step (fun t k => XS.iconst X14.here hx rfl (hb hby at_112) k) ?_
      show Wp p e below _ (T14.setTop (mkF m 113 #[.val (.int p0), .val (.long q1), .second, .val (.long q3), .second, .val (.long q5), .second, .val (.long q7), .second, .val (.ref b1), .val (.int (1 : Int32)), .val (.int nn2)] [(.int (1 : Int32)), (.int (p0 >>> ((2 : Int32) &&& 31))), (.ref b1)]))
      refine Wp.step (fun t k => XS.iand X14.here hx rfl (hb hby at_113) rfl k) ?_
      show Wp p e below _ (T14.setTop (mkF m 114 #[.val (.int p0), .val (.long q1), .second, .val (.long q3), .second, .val (.long q5), .second, .val (.long q7), .second, .val (.ref b1), .val (.int (1 : Int32)), .val (.int nn2)] [(.int ((p0 >>> ((2 : Int32) &&& 31)) &&& (1 : Int32))), (.ref b1)]))
      refine Wp.step (fun t k => XS.lload X14.here hx rfl (hb hby at_114) rfl k) ?_
      show Wp p e below _ (T14.setTop (mkF m 116 #[.val (.int p0), .val (.long q1), .second, .val (.long q3), .second, .val (.long q5), .second, .val (.long q7), .second, .val (.ref b1), .val (.int (1 : Int32)), .val (.int nn2)] [(.long q5), (.int ((p0 >>> ((2 : Int32) &&& 31)) &&& (1 : Int32))), (.ref b1)]))
      refine Wp.step (fun t k => XS.iload X14.here hx rfl (hb hby at_116) rfl k) ?_
      show Wp p e below _ (T14.setTop (mkF m 118 #[.val (.int p0), .val (.long q1), .second, .val (.long q3), .second, .val (.long q5), .second, .val (.long q7), .second, .val (.ref b1), .val (.int (1 : Int32)), .val (.int nn2)] [(.int nn2), (.long q5), (.int ((p0 >>> ((2 : Int32) &&& 31)) &&& (1 : Int32))), (.ref b1)]))
      obtain ⟨_, _, ⟨T16, L16, k16, n16⟩, -, X16, ⟨Lc16, hQ16, l16, y16, z16⟩, st16⟩ := Jvm.LawKit.callS X14 hx (y := (⟨"com/example/erotema/erotema/model/LongQueueIsEmptyPinLaw", "step", "(Lcom/example/erotema/erotema/model/LongQueue;IJI)I"⟩ : MethodName)) hown (mvT hZ (hw _ (List.mem_of_getElem? (i := 21) rfl))) (mvT hZ (hw _ (List.mem_of_getElem? (i := 22) rfl))) (mvT hZ (hw _ (List.mem_of_getElem? (i := 23) rfl))) (mvT hZ (hw _ (List.mem_of_getElem? (i := 24) rfl))) (by decide) (backOf (W := 0) (rm4 l Z a0 hw [] b1 ((p0 >>> ((2 : Int32) &&& 31)) &&& (1 : Int32)) q5 nn2 arr hd2 tl2 (0 + 1 + 1) h12 n0 (Nat.le_trans Z0 K12.1) g_b1 g_arr LQ2 b0_2 b1_2 (Int.lt_of_le_of_lt bk_2 (by decide)) en_2 bk_2) hZ (hw _ (List.mem_of_getElem? (i := 24) rfl)) (hw _ (List.mem_of_getElem? (i := 23) rfl)) (by decide) (by decide)) (g := (mkF m 118 #[.val (.int p0), .val (.long q1), .second, .val (.long q3), .second, .val (.long q5), .second, .val (.long q7), .second, .val (.ref b1), .val (.int (1 : Int32)), .val (.int nn2)] [(.int nn2), (.long q5), (.int ((p0 >>> ((2 : Int32) &&& 31)) &&& (1 : Int32))), (.ref b1)])) rfl (by rw [hml]; rfl) (argsL := [(.ref b1), (.int ((p0 >>> ((2 : Int32) &&& 31)) &&& (1 : Int32))), (.long q5), (.int nn2)]) (rest := []) (lenOf pd_28Lcom2fexample2ferotema2ferotema2fmodel2fLongQueue3bIJI29I rfl) rfl (by show 2 * 0 + _ ≤ _; exact Nat.le_of_eq rfl) (hb hby at_118) (fun _ _ => ⟨rfl, e14, (by decide : 2 + 0 ≤ _), (by decide : 1027 + 0 ≤ _)⟩)
      dsimp only [Pt.U, Pt.locs, Pt.cells, Pt.slots] at X16 l16 y16 z16 st16 hQ16
      subst l16 y16 z16
      obtain ⟨h16, e16⟩ : ∃ z, T16.heap = z := ⟨_, rfl⟩
      rw [e16] at hQ16
      obtain ⟨hd3, tl3, nn3, rfl, N16q, Kc16, LQ3, en_3, b0_3, b1_3, bk_3⟩ := hQ16
      have N16 := Fr.app N14 N16q
      have K16 := K12.trans Kc16 (allS (Or.inr sz_b1) (allS (Or.inr sz_arr) all0))
      refine Wp.step st16 ?_
      show Wp p e below _ (T16.setTop (mkF m 121 #[.val (.int p0), .val (.long q1), .second, .val (.long q3), .second, .val (.long q5), .second, .val (.long q7), .second, .val (.ref b1), .val (.int (1 : Int32)), .val (.int nn2)] [(.int nn3)]))
      refine Wp.step (fun t k => XS.istore X16.here hx rfl (hb hby at_121) rfl (l' := #[.val (.int p0), .val (.long q1), .second, .val (.long q3), .second, .val (.long q5), .second, .val (.long q7), .second, .val (.ref b1), .val (.int (1 : Int32)), .val (.int nn3)]) rfl k) ?_
      show Wp p e below _ (T16.setTop (mkF m 123 #[.val (.int p0), .val (.long q1), .second, .val (.long q3), .second, .val (.long q5), .second, .val (.long q7), .second, .val (.ref b1), .val (.int (1 : Int32)), .val (.int nn3)] []))
      refine Wp.step (fun t k => XS.iload X16.here hx rfl (hb hby at_123) rfl k) ?_
      show Wp p e below _ (T16.setTop (mkF m 125 #[.val (.int p0), .val (.long q1), .second, .val (.long q3), .second, .val (.long q5), .second, .val (.long q7), .second, .val (.ref b1), .val (.int (1 : Int32)), .val (.int nn3)] [(.int (1 : Int32))]))
      refine Wp.step (fun t k => XS.ifNo X16.here hx rfl (hb hby at_125) rfl ((if0 _ _).trans (feq (show ¬ ((1 : Int32) = (0 : Int32)) by decide)).1) k) ?_
      show Wp p e below _ (T16.setTop (mkF m 128 #[.val (.int p0), .val (.long q1), .second, .val (.long q3), .second, .val (.long q5), .second, .val (.long q7), .second, .val (.ref b1), .val (.int (1 : Int32)), .val (.int nn3)] []))
      refine Wp.step (fun t k => XS.aload X16.here hx rfl (hb hby at_128) rfl rfl k) ?_
      show Wp p e below _ (T16.setTop (mkF m 130 #[.val (.int p0), .val (.long q1), .second, .val (.long q3), .second, .val (.long q5), .second, .val (.long q7), .second, .val (.ref b1), .val (.int (1 : Int32)), .val (.int nn3)] [(.ref b1)]))
      obtain ⟨cq18, kq18, q18a, q18b, q18c⟩ := isOf hZ e16 LQ3.1
      obtain ⟨_, _, ⟨T18, L18, k18, n18⟩, -, X18, ⟨Lc18, hQ18, l18, y18, z18⟩, st18⟩ := X16.virtualBack hx (y := (⟨"com/example/erotema/erotema/model/LongQueue", "isEmpty", "()Z"⟩ : MethodName)) (z := (⟨"com/example/erotema/erotema/model/LongQueue", "isEmpty", "()Z"⟩ : MethodName)) hown (mvT hZ (hw _ (List.mem_of_getElem? (i := 12) rfl))) (mvT hZ (hw _ (List.mem_of_getElem? (i := 13) rfl))) (notFace_of_selects (args := #[]) (mvT hZ (hw _ (List.mem_of_getElem? (i := 15) rfl)))) (mvT hZ (hw _ (List.mem_of_getElem? (i := 15) rfl))) (mvT hZ (hw _ (List.mem_of_getElem? (i := 14) rfl))) (by decide) (backOf (W := 0) (rm3 l Z a0 hw [] b1 hd3 tl3 h16 n0 (Nat.le_trans Z0 K16.1) LQ3.2.1 LQ3.2.2.1) hZ (hw _ (List.mem_of_getElem? (i := 16) rfl)) (hw _ (List.mem_of_getElem? (i := 2) rfl)) (by decide) (by decide)) q18a q18c (g := (mkF m 130 #[.val (.int p0), .val (.long q1), .second, .val (.long q3), .second, .val (.long q5), .second, .val (.long q7), .second, .val (.ref b1), .val (.int (1 : Int32)), .val (.int nn3)] [(.ref b1)])) rfl (by rw [hml]; rfl) (Steps.refl _) (argsL := []) (rest := []) (lenOf pd_2829Z rfl) rfl (by show 2 * 0 + _ ≤ _; exact Nat.le_of_eq rfl) (hb hby at_130) (fun _ _ => ⟨rfl, e16, (by decide : 2 + 0 ≤ _), (by decide : 1027 + 0 ≤ _)⟩)
      dsimp only [Pt.U, Pt.locs, Pt.cells, Pt.slots] at X18 l18 y18 z18 st18 hQ18
      subst l18 y18 z18
      obtain ⟨rfl, N18q, e18⟩ := hQ18
      have N18 := Fr.app N16 N18q
      refine Wp.go st18 ?_
      show Wp p e below _ (T18.setTop (mkF m 133 #[.val (.int p0), .val (.long q1), .second, .val (.long q3), .second, .val (.long q5), .second, .val (.long q7), .second, .val (.ref b1), .val (.int (1 : Int32)), .val (.int nn3)] [(.int (own_emp hd3 tl3))]))
      have kont19 : Wp p e below (Out s (Q0 Z p0 q1 q3 q5 q7 h0 n0) room_1.cells room_1.slots) (T18.setTop (mkF m 153 #[.val (.int p0), .val (.long q1), .second, .val (.long q3), .second, .val (.long q5), .second, .val (.long q7), .second, .val (.ref b1), .val (.int (1 : Int32)), .val (.int nn3)] [])) := by
        refine Wp.step (fun t k => XS.aload X18.here hx rfl (hb hby at_153) rfl rfl k) ?_
        show Wp p e below _ (T18.setTop (mkF m 155 #[.val (.int p0), .val (.long q1), .second, .val (.long q3), .second, .val (.long q5), .second, .val (.long q7), .second, .val (.ref b1), .val (.int (1 : Int32)), .val (.int nn3)] [(.ref b1)]))
        refine Wp.step (fun t k => XS.iloadN X18.here hx rfl (hb hby at_155) rfl k) ?_
        show Wp p e below _ (T18.setTop (mkF m 156 #[.val (.int p0), .val (.long q1), .second, .val (.long q3), .second, .val (.long q5), .second, .val (.long q7), .second, .val (.ref b1), .val (.int (1 : Int32)), .val (.int nn3)] [(.int p0), (.ref b1)]))
        refine Wp.step (fun t k => XS.iconst X18.here hx rfl (hb hby at_156) k) ?_
        show Wp p e below _ (T18.setTop (mkF m 157 #[.val (.int p0), .val (.long q1), .second, .val (.long q3), .second, .val (.long q5), .second, .val (.long q7), .second, .val (.ref b1), .val (.int (1 : Int32)), .val (.int nn3)] [(.int (3 : Int32)), (.int p0), (.ref b1)]))
        refine Wp.step (fun t k => XS.ishr X18.here hx rfl (hb hby at_157) rfl k) ?_
        show Wp p e below _ (T18.setTop (mkF m 158 #[.val (.int p0), .val (.long q1), .second, .val (.long q3), .second, .val (.long q5), .second, .val (.long q7), .second, .val (.ref b1), .val (.int (1 : Int32)), .val (.int nn3)] [(.int (p0 >>> ((3 : Int32) &&& 31))), (.ref b1)]))
        refine Wp.step (fun t k => XS.iconst X18.here hx rfl (hb hby at_158) k) ?_
        show Wp p e below _ (T18.setTop (mkF m 159 #[.val (.int p0), .val (.long q1), .second, .val (.long q3), .second, .val (.long q5), .second, .val (.long q7), .second, .val (.ref b1), .val (.int (1 : Int32)), .val (.int nn3)] [(.int (1 : Int32)), (.int (p0 >>> ((3 : Int32) &&& 31))), (.ref b1)]))
        refine Wp.step (fun t k => XS.iand X18.here hx rfl (hb hby at_159) rfl k) ?_
        show Wp p e below _ (T18.setTop (mkF m 160 #[.val (.int p0), .val (.long q1), .second, .val (.long q3), .second, .val (.long q5), .second, .val (.long q7), .second, .val (.ref b1), .val (.int (1 : Int32)), .val (.int nn3)] [(.int ((p0 >>> ((3 : Int32) &&& 31)) &&& (1 : Int32))), (.ref b1)]))
        refine Wp.step (fun t k => XS.lload X18.here hx rfl (hb hby at_160) rfl k) ?_
        show Wp p e below _ (T18.setTop (mkF m 162 #[.val (.int p0), .val (.long q1), .second, .val (.long q3), .second, .val (.long q5), .second, .val (.long q7), .second, .val (.ref b1), .val (.int (1 : Int32)), .val (.int nn3)] [(.long q7), (.int ((p0 >>> ((3 : Int32) &&& 31)) &&& (1 : Int32))), (.ref b1)]))
        refine Wp.step (fun t k => XS.iload X18.here hx rfl (hb hby at_162) rfl k) ?_
        show Wp p e below _ (T18.setTop (mkF m 164 #[.val (.int p0), .val (.long q1), .second, .val (.long q3), .second, .val (.long q5), .second, .val (.long q7), .second, .val (.ref b1), .val (.int (1 : Int32)), .val (.int nn3)] [(.int nn3), (.long q7), (.int ((p0 >>> ((3 : Int32) &&& 31)) &&& (1 : Int32))), (.ref b1)]))
        obtain ⟨_, _, ⟨T20, L20, k20, n20⟩, -, X20, ⟨Lc20, hQ20, l20, y20, z20⟩, st20⟩ := Jvm.LawKit.callS X18 hx (y := (⟨"com/example/erotema/erotema/model/LongQueueIsEmptyPinLaw", "step", "(Lcom/example/erotema/erotema/model/LongQueue;IJI)I"⟩ : MethodName)) hown (mvT hZ (hw _ (List.mem_of_getElem? (i := 21) rfl))) (mvT hZ (hw _ (List.mem_of_getElem? (i := 22) rfl))) (mvT hZ (hw _ (List.mem_of_getElem? (i := 23) rfl))) (mvT hZ (hw _ (List.mem_of_getElem? (i := 24) rfl))) (by decide) (backOf (W := 0) (rm4 l Z a0 hw [] b1 ((p0 >>> ((3 : Int32) &&& 31)) &&& (1 : Int32)) q7 nn3 arr hd3 tl3 (0 + 1 + 1 + 1) h16 n0 (Nat.le_trans Z0 K16.1) g_b1 g_arr LQ3 b0_3 b1_3 (Int.lt_of_le_of_lt bk_3 (by decide)) en_3 bk_3) hZ (hw _ (List.mem_of_getElem? (i := 24) rfl)) (hw _ (List.mem_of_getElem? (i := 23) rfl)) (by decide) (by decide)) (g := (mkF m 164 #[.val (.int p0), .val (.long q1), .second, .val (.long q3), .second, .val (.long q5), .second, .val (.long q7), .second, .val (.ref b1), .val (.int (1 : Int32)), .val (.int nn3)] [(.int nn3), (.long q7), (.int ((p0 >>> ((3 : Int32) &&& 31)) &&& (1 : Int32))), (.ref b1)])) rfl (by rw [hml]; rfl) (argsL := [(.ref b1), (.int ((p0 >>> ((3 : Int32) &&& 31)) &&& (1 : Int32))), (.long q7), (.int nn3)]) (rest := []) (lenOf pd_28Lcom2fexample2ferotema2ferotema2fmodel2fLongQueue3bIJI29I rfl) rfl (by show 2 * 0 + _ ≤ _; exact Nat.le_of_eq rfl) (hb hby at_164) (fun _ _ => ⟨rfl, e18, (by decide : 2 + 0 ≤ _), (by decide : 1027 + 0 ≤ _)⟩)
        dsimp only [Pt.U, Pt.locs, Pt.cells, Pt.slots] at X20 l20 y20 z20 st20 hQ20
        subst l20 y20 z20
        obtain ⟨h20, e20⟩ : ∃ z, T20.heap = z := ⟨_, rfl⟩
        rw [e20] at hQ20
        obtain ⟨hd4, tl4, nn4, rfl, N20q, Kc20, LQ4, en_4, b0_4, b1_4, bk_4⟩ := hQ20
        have N20 := Fr.app N18 N20q
        have K20 := K16.trans Kc20 (allS (Or.inr sz_b1) (allS (Or.inr sz_arr) all0))
        refine Wp.step st20 ?_
        show Wp p e below _ (T20.setTop (mkF m 167 #[.val (.int p0), .val (.long q1), .second, .val (.long q3), .second, .val (.long q5), .second, .val (.long q7), .second, .val (.ref b1), .val (.int (1 : Int32)), .val (.int nn3)] [(.int nn4)]))
        refine Wp.step (fun t k => XS.istore X20.here hx rfl (hb hby at_167) rfl (l' := #[.val (.int p0), .val (.long q1), .second, .val (.long q3), .second, .val (.long q5), .second, .val (.long q7), .second, .val (.ref b1), .val (.int (1 : Int32)), .val (.int nn4)]) rfl k) ?_
        show Wp p e below _ (T20.setTop (mkF m 169 #[.val (.int p0), .val (.long q1), .second, .val (.long q3), .second, .val (.long q5), .second, .val (.long q7), .second, .val (.ref b1), .val (.int (1 : Int32)), .val (.int nn4)] []))
        refine Wp.step (fun t k => XS.iload X20.here hx rfl (hb hby at_169) rfl k) ?_
        show Wp p e below _ (T20.setTop (mkF m 171 #[.val (.int p0), .val (.long q1), .second, .val (.long q3), .second, .val (.long q5), .second, .val (.long q7), .second, .val (.ref b1), .val (.int (1 : Int32)), .val (.int nn4)] [(.int (1 : Int32))]))
        refine Wp.step (fun t k => XS.ifNo X20.here hx rfl (hb hby at_171) rfl ((if0 _ _).trans (feq (show ¬ ((1 : Int32) = (0 : Int32)) by decide)).1) k) ?_
        show Wp p e below _ (T20.setTop (mkF m 174 #[.val (.int p0), .val (.long q1), .second, .val (.long q3), .second, .val (.long q5), .second, .val (.long q7), .second, .val (.ref b1), .val (.int (1 : Int32)), .val (.int nn4)] []))
        refine Wp.step (fun t k => XS.aload X20.here hx rfl (hb hby at_174) rfl rfl k) ?_
        show Wp p e below _ (T20.setTop (mkF m 176 #[.val (.int p0), .val (.long q1), .second, .val (.long q3), .second, .val (.long q5), .second, .val (.long q7), .second, .val (.ref b1), .val (.int (1 : Int32)), .val (.int nn4)] [(.ref b1)]))
        obtain ⟨cq22, kq22, q22a, q22b, q22c⟩ := isOf hZ e20 LQ4.1
        obtain ⟨_, _, ⟨T22, L22, k22, n22⟩, -, X22, ⟨Lc22, hQ22, l22, y22, z22⟩, st22⟩ := X20.virtualBack hx (y := (⟨"com/example/erotema/erotema/model/LongQueue", "isEmpty", "()Z"⟩ : MethodName)) (z := (⟨"com/example/erotema/erotema/model/LongQueue", "isEmpty", "()Z"⟩ : MethodName)) hown (mvT hZ (hw _ (List.mem_of_getElem? (i := 12) rfl))) (mvT hZ (hw _ (List.mem_of_getElem? (i := 13) rfl))) (notFace_of_selects (args := #[]) (mvT hZ (hw _ (List.mem_of_getElem? (i := 15) rfl)))) (mvT hZ (hw _ (List.mem_of_getElem? (i := 15) rfl))) (mvT hZ (hw _ (List.mem_of_getElem? (i := 14) rfl))) (by decide) (backOf (W := 0) (rm3 l Z a0 hw [] b1 hd4 tl4 h20 n0 (Nat.le_trans Z0 K20.1) LQ4.2.1 LQ4.2.2.1) hZ (hw _ (List.mem_of_getElem? (i := 16) rfl)) (hw _ (List.mem_of_getElem? (i := 2) rfl)) (by decide) (by decide)) q22a q22c (g := (mkF m 176 #[.val (.int p0), .val (.long q1), .second, .val (.long q3), .second, .val (.long q5), .second, .val (.long q7), .second, .val (.ref b1), .val (.int (1 : Int32)), .val (.int nn4)] [(.ref b1)])) rfl (by rw [hml]; rfl) (Steps.refl _) (argsL := []) (rest := []) (lenOf pd_2829Z rfl) rfl (by show 2 * 0 + _ ≤ _; exact Nat.le_of_eq rfl) (hb hby at_176) (fun _ _ => ⟨rfl, e20, (by decide : 2 + 0 ≤ _), (by decide : 1027 + 0 ≤ _)⟩)
        dsimp only [Pt.U, Pt.locs, Pt.cells, Pt.slots] at X22 l22 y22 z22 st22 hQ22
        subst l22 y22 z22
        obtain ⟨rfl, N22q, e22⟩ := hQ22
        have N22 := Fr.app N20 N22q
        refine Wp.go st22 ?_
        show Wp p e below _ (T22.setTop (mkF m 179 #[.val (.int p0), .val (.long q1), .second, .val (.long q3), .second, .val (.long q5), .second, .val (.long q7), .second, .val (.ref b1), .val (.int (1 : Int32)), .val (.int nn4)] [(.int (own_emp hd4 tl4))]))
        have kont23 : Wp p e below (Out s (Q0 Z p0 q1 q3 q5 q7 h0 n0) room_1.cells room_1.slots) (T22.setTop (mkF m 199 #[.val (.int p0), .val (.long q1), .second, .val (.long q3), .second, .val (.long q5), .second, .val (.long q7), .second, .val (.ref b1), .val (.int (1 : Int32)), .val (.int nn4)] [])) := by
          refine Wp.step (fun t k => XS.iload X22.here hx rfl (hb hby at_199) rfl k) ?_
          show Wp p e below _ (T22.setTop (mkF m 201 #[.val (.int p0), .val (.long q1), .second, .val (.long q3), .second, .val (.long q5), .second, .val (.long q7), .second, .val (.ref b1), .val (.int (1 : Int32)), .val (.int nn4)] [(.int (1 : Int32))]))
          refine Wp.retN X22 hx (t := .boolean) Bd.returns (by simp) (hb hby at_201) hlk ?_ (by decide) (by decide)
          show Q0 Z p0 q1 q3 q5 q7 h0 n0 (some (.int (nar .boolean (1 : Int32)))) T22.heap _
          rw [e22]
          exact ⟨rfl, N22⟩
        refine Wp.step (fun t k => XS.iload X22.here hx rfl (hb hby at_179) rfl k) ?_
        show Wp p e below _ (T22.setTop (mkF m 181 #[.val (.int p0), .val (.long q1), .second, .val (.long q3), .second, .val (.long q5), .second, .val (.long q7), .second, .val (.ref b1), .val (.int (1 : Int32)), .val (.int nn4)] [(.int nn4), (.int (own_emp hd4 tl4))]))
        by_cases hc24 : nn4 = (0 : Int32)
        · refine Wp.step (fun t k => XS.ifNo X22.here hx rfl (hb hby at_181) rfl ((if0 _ _).trans (teq hc24).2) k) ?_
          show Wp p e below _ (T22.setTop (mkF m 184 #[.val (.int p0), .val (.long q1), .second, .val (.long q3), .second, .val (.long q5), .second, .val (.long q7), .second, .val (.ref b1), .val (.int (1 : Int32)), .val (.int nn4)] [(.int (own_emp hd4 tl4))]))
          refine Wp.step (fun t k => XS.iconst X22.here hx rfl (hb hby at_184) k) ?_
          show Wp p e below _ (T22.setTop (mkF m 185 #[.val (.int p0), .val (.long q1), .second, .val (.long q3), .second, .val (.long q5), .second, .val (.long q7), .second, .val (.ref b1), .val (.int (1 : Int32)), .val (.int nn4)] [(.int (1 : Int32)), (.int (own_emp hd4 tl4))]))
          refine Wp.step (fun t k => XS.goto X22.here hx rfl (pc0 := 185) (pc' := 189) rfl (hb hby at_185) (by decide) (by decide) k) ?_
          show Wp p e below _ (T22.setTop (mkF m 189 #[.val (.int p0), .val (.long q1), .second, .val (.long q3), .second, .val (.long q5), .second, .val (.long q7), .second, .val (.ref b1), .val (.int (1 : Int32)), .val (.int nn4)] [(.int (1 : Int32)), (.int (own_emp hd4 tl4))]))
          refine Wp.step (fun t k => XS.icmpNo X22.here hx rfl (hb hby at_189) rfl (teq (show (own_emp hd4 tl4) = (1 : Int32) from (own_emp_eq b0_4 b1_4 (Int.lt_of_le_of_lt bk_4 (by decide)) en_4 hc24))).2 k) ?_
          show Wp p e below _ (T22.setTop (mkF m 192 #[.val (.int p0), .val (.long q1), .second, .val (.long q3), .second, .val (.long q5), .second, .val (.long q7), .second, .val (.ref b1), .val (.int (1 : Int32)), .val (.int nn4)] []))
          refine Wp.step (fun t k => XS.iconst X22.here hx rfl (hb hby at_192) k) ?_
          show Wp p e below _ (T22.setTop (mkF m 193 #[.val (.int p0), .val (.long q1), .second, .val (.long q3), .second, .val (.long q5), .second, .val (.long q7), .second, .val (.ref b1), .val (.int (1 : Int32)), .val (.int nn4)] [(.int (1 : Int32))]))
          refine Wp.step (fun t k => XS.goto X22.here hx rfl (pc0 := 193) (pc' := 197) rfl (hb hby at_193) (by decide) (by decide) k) ?_
          show Wp p e below _ (T22.setTop (mkF m 197 #[.val (.int p0), .val (.long q1), .second, .val (.long q3), .second, .val (.long q5), .second, .val (.long q7), .second, .val (.ref b1), .val (.int (1 : Int32)), .val (.int nn4)] [(.int (1 : Int32))]))
          refine Wp.step (fun t k => XS.istore X22.here hx rfl (hb hby at_197) rfl (l' := #[.val (.int p0), .val (.long q1), .second, .val (.long q3), .second, .val (.long q5), .second, .val (.long q7), .second, .val (.ref b1), .val (.int (1 : Int32)), .val (.int nn4)]) rfl k) ?_
          show Wp p e below _ (T22.setTop (mkF m 199 #[.val (.int p0), .val (.long q1), .second, .val (.long q3), .second, .val (.long q5), .second, .val (.long q7), .second, .val (.ref b1), .val (.int (1 : Int32)), .val (.int nn4)] []))
          exact kont23
        · refine Wp.step (fun t k => XS.ifYes X22.here hx rfl (pc0 := 181) (pc' := 188) rfl (hb hby at_181) rfl ((if0 _ _).trans (feq hc24).2) (by decide) (by decide) k) ?_
          show Wp p e below _ (T22.setTop (mkF m 188 #[.val (.int p0), .val (.long q1), .second, .val (.long q3), .second, .val (.long q5), .second, .val (.long q7), .second, .val (.ref b1), .val (.int (1 : Int32)), .val (.int nn4)] [(.int (own_emp hd4 tl4))]))
          refine Wp.step (fun t k => XS.iconst X22.here hx rfl (hb hby at_188) k) ?_
          show Wp p e below _ (T22.setTop (mkF m 189 #[.val (.int p0), .val (.long q1), .second, .val (.long q3), .second, .val (.long q5), .second, .val (.long q7), .second, .val (.ref b1), .val (.int (1 : Int32)), .val (.int nn4)] [(.int (0 : Int32)), (.int (own_emp hd4 tl4))]))
          refine Wp.step (fun t k => XS.icmpNo X22.here hx rfl (hb hby at_189) rfl (teq (show (own_emp hd4 tl4) = (0 : Int32) from (own_emp_ne b0_4 b1_4 (Int.lt_of_le_of_lt bk_4 (by decide)) en_4 hc24))).2 k) ?_
          show Wp p e below _ (T22.setTop (mkF m 192 #[.val (.int p0), .val (.long q1), .second, .val (.long q3), .second, .val (.long q5), .second, .val (.long q7), .second, .val (.ref b1), .val (.int (1 : Int32)), .val (.int nn4)] []))
          refine Wp.step (fun t k => XS.iconst X22.here hx rfl (hb hby at_192) k) ?_
          show Wp p e below _ (T22.setTop (mkF m 193 #[.val (.int p0), .val (.long q1), .second, .val (.long q3), .second, .val (.long q5), .second, .val (.long q7), .second, .val (.ref b1), .val (.int (1 : Int32)), .val (.int nn4)] [(.int (1 : Int32))]))
          refine Wp.step (fun t k => XS.goto X22.here hx rfl (pc0 := 193) (pc' := 197) rfl (hb hby at_193) (by decide) (by decide) k) ?_
          show Wp p e below _ (T22.setTop (mkF m 197 #[.val (.int p0), .val (.long q1), .second, .val (.long q3), .second, .val (.long q5), .second, .val (.long q7), .second, .val (.ref b1), .val (.int (1 : Int32)), .val (.int nn4)] [(.int (1 : Int32))]))
          refine Wp.step (fun t k => XS.istore X22.here hx rfl (hb hby at_197) rfl (l' := #[.val (.int p0), .val (.long q1), .second, .val (.long q3), .second, .val (.long q5), .second, .val (.long q7), .second, .val (.ref b1), .val (.int (1 : Int32)), .val (.int nn4)]) rfl k) ?_
          show Wp p e below _ (T22.setTop (mkF m 199 #[.val (.int p0), .val (.long q1), .second, .val (.long q3), .second, .val (.long q5), .second, .val (.long q7), .second, .val (.ref b1), .val (.int (1 : Int32)), .val (.int nn4)] []))
          exact kont23
      refine Wp.step (fun t k => XS.iload X18.here hx rfl (hb hby at_133) rfl k) ?_
      show Wp p e below _ (T18.setTop (mkF m 135 #[.val (.int p0), .val (.long q1), .second, .val (.long q3), .second, .val (.long q5), .second, .val (.long q7), .second, .val (.ref b1), .val (.int (1 : Int32)), .val (.int nn3)] [(.int nn3), (.int (own_emp hd3 tl3))]))
      by_cases hc27 : nn3 = (0 : Int32)
      · refine Wp.step (fun t k => XS.ifNo X18.here hx rfl (hb hby at_135) rfl ((if0 _ _).trans (teq hc27).2) k) ?_
        show Wp p e below _ (T18.setTop (mkF m 138 #[.val (.int p0), .val (.long q1), .second, .val (.long q3), .second, .val (.long q5), .second, .val (.long q7), .second, .val (.ref b1), .val (.int (1 : Int32)), .val (.int nn3)] [(.int (own_emp hd3 tl3))]))
        refine Wp.step (fun t k => XS.iconst X18.here hx rfl (hb hby at_138) k) ?_
        show Wp p e below _ (T18.setTop (mkF m 139 #[.val (.int p0), .val (.long q1), .second, .val (.long q3), .second, .val (.long q5), .second, .val (.long q7), .second, .val (.ref b1), .val (.int (1 : Int32)), .val (.int nn3)] [(.int (1 : Int32)), (.int (own_emp hd3 tl3))]))
        refine Wp.step (fun t k => XS.goto X18.here hx rfl (pc0 := 139) (pc' := 143) rfl (hb hby at_139) (by decide) (by decide) k) ?_
        show Wp p e below _ (T18.setTop (mkF m 143 #[.val (.int p0), .val (.long q1), .second, .val (.long q3), .second, .val (.long q5), .second, .val (.long q7), .second, .val (.ref b1), .val (.int (1 : Int32)), .val (.int nn3)] [(.int (1 : Int32)), (.int (own_emp hd3 tl3))]))
        refine Wp.step (fun t k => XS.icmpNo X18.here hx rfl (hb hby at_143) rfl (teq (show (own_emp hd3 tl3) = (1 : Int32) from (own_emp_eq b0_3 b1_3 (Int.lt_of_le_of_lt bk_3 (by decide)) en_3 hc27))).2 k) ?_
        show Wp p e below _ (T18.setTop (mkF m 146 #[.val (.int p0), .val (.long q1), .second, .val (.long q3), .second, .val (.long q5), .second, .val (.long q7), .second, .val (.ref b1), .val (.int (1 : Int32)), .val (.int nn3)] []))
        refine Wp.step (fun t k => XS.iconst X18.here hx rfl (hb hby at_146) k) ?_
        show Wp p e below _ (T18.setTop (mkF m 147 #[.val (.int p0), .val (.long q1), .second, .val (.long q3), .second, .val (.long q5), .second, .val (.long q7), .second, .val (.ref b1), .val (.int (1 : Int32)), .val (.int nn3)] [(.int (1 : Int32))]))
        refine Wp.step (fun t k => XS.goto X18.here hx rfl (pc0 := 147) (pc' := 151) rfl (hb hby at_147) (by decide) (by decide) k) ?_
        show Wp p e below _ (T18.setTop (mkF m 151 #[.val (.int p0), .val (.long q1), .second, .val (.long q3), .second, .val (.long q5), .second, .val (.long q7), .second, .val (.ref b1), .val (.int (1 : Int32)), .val (.int nn3)] [(.int (1 : Int32))]))
        refine Wp.step (fun t k => XS.istore X18.here hx rfl (hb hby at_151) rfl (l' := #[.val (.int p0), .val (.long q1), .second, .val (.long q3), .second, .val (.long q5), .second, .val (.long q7), .second, .val (.ref b1), .val (.int (1 : Int32)), .val (.int nn3)]) rfl k) ?_
        show Wp p e below _ (T18.setTop (mkF m 153 #[.val (.int p0), .val (.long q1), .second, .val (.long q3), .second, .val (.long q5), .second, .val (.long q7), .second, .val (.ref b1), .val (.int (1 : Int32)), .val (.int nn3)] []))
        exact kont19
      · refine Wp.step (fun t k => XS.ifYes X18.here hx rfl (pc0 := 135) (pc' := 142) rfl (hb hby at_135) rfl ((if0 _ _).trans (feq hc27).2) (by decide) (by decide) k) ?_
        show Wp p e below _ (T18.setTop (mkF m 142 #[.val (.int p0), .val (.long q1), .second, .val (.long q3), .second, .val (.long q5), .second, .val (.long q7), .second, .val (.ref b1), .val (.int (1 : Int32)), .val (.int nn3)] [(.int (own_emp hd3 tl3))]))
        refine Wp.step (fun t k => XS.iconst X18.here hx rfl (hb hby at_142) k) ?_
        show Wp p e below _ (T18.setTop (mkF m 143 #[.val (.int p0), .val (.long q1), .second, .val (.long q3), .second, .val (.long q5), .second, .val (.long q7), .second, .val (.ref b1), .val (.int (1 : Int32)), .val (.int nn3)] [(.int (0 : Int32)), (.int (own_emp hd3 tl3))]))
        refine Wp.step (fun t k => XS.icmpNo X18.here hx rfl (hb hby at_143) rfl (teq (show (own_emp hd3 tl3) = (0 : Int32) from (own_emp_ne b0_3 b1_3 (Int.lt_of_le_of_lt bk_3 (by decide)) en_3 hc27))).2 k) ?_
        show Wp p e below _ (T18.setTop (mkF m 146 #[.val (.int p0), .val (.long q1), .second, .val (.long q3), .second, .val (.long q5), .second, .val (.long q7), .second, .val (.ref b1), .val (.int (1 : Int32)), .val (.int nn3)] []))
        refine Wp.step (fun t k => XS.iconst X18.here hx rfl (hb hby at_146) k) ?_
        show Wp p e below _ (T18.setTop (mkF m 147 #[.val (.int p0), .val (.long q1), .second, .val (.long q3), .second, .val (.long q5), .second, .val (.long q7), .second, .val (.ref b1), .val (.int (1 : Int32)), .val (.int nn3)] [(.int (1 : Int32))]))
        refine Wp.step (fun t k => XS.goto X18.here hx rfl (pc0 := 147) (pc' := 151) rfl (hb hby at_147) (by decide) (by decide) k) ?_
        show Wp p e below _ (T18.setTop (mkF m 151 #[.val (.int p0), .val (.long q1), .second, .val (.long q3), .second, .val (.long q5), .second, .val (.long q7), .second, .val (.ref b1), .val (.int (1 : Int32)), .val (.int nn3)] [(.int (1 : Int32))]))
        refine Wp.step (fun t k => XS.istore X18.here hx rfl (hb hby at_151) rfl (l' := #[.val (.int p0), .val (.long q1), .second, .val (.long q3), .second, .val (.long q5), .second, .val (.long q7), .second, .val (.ref b1), .val (.int (1 : Int32)), .val (.int nn3)]) rfl k) ?_
        show Wp p e below _ (T18.setTop (mkF m 153 #[.val (.int p0), .val (.long q1), .second, .val (.long q3), .second, .val (.long q5), .second, .val (.long q7), .second, .val (.ref b1), .val (.int (1 : Int32)), .val (.int nn3)] []))
        exact kont19
    refine Wp.step (fun t k => XS.iload X14.here hx rfl (hb hby at_87) rfl k) ?_
    show Wp p e below _ (T14.setTop (mkF m 89 #[.val (.int p0), .val (.long q1), .second, .val (.long q3), .second, .val (.long q5), .second, .val (.long q7), .second, .val (.ref b1), .val (.int (1 : Int32)), .val (.int nn2)] [(.int nn2), (.int (own_emp hd2 tl2))]))
    by_cases hc30 : nn2 = (0 : Int32)
    · refine Wp.step (fun t k => XS.ifNo X14.here hx rfl (hb hby at_89) rfl ((if0 _ _).trans (teq hc30).2) k) ?_
      show Wp p e below _ (T14.setTop (mkF m 92 #[.val (.int p0), .val (.long q1), .second, .val (.long q3), .second, .val (.long q5), .second, .val (.long q7), .second, .val (.ref b1), .val (.int (1 : Int32)), .val (.int nn2)] [(.int (own_emp hd2 tl2))]))
      refine Wp.step (fun t k => XS.iconst X14.here hx rfl (hb hby at_92) k) ?_
      show Wp p e below _ (T14.setTop (mkF m 93 #[.val (.int p0), .val (.long q1), .second, .val (.long q3), .second, .val (.long q5), .second, .val (.long q7), .second, .val (.ref b1), .val (.int (1 : Int32)), .val (.int nn2)] [(.int (1 : Int32)), (.int (own_emp hd2 tl2))]))
      refine Wp.step (fun t k => XS.goto X14.here hx rfl (pc0 := 93) (pc' := 97) rfl (hb hby at_93) (by decide) (by decide) k) ?_
      show Wp p e below _ (T14.setTop (mkF m 97 #[.val (.int p0), .val (.long q1), .second, .val (.long q3), .second, .val (.long q5), .second, .val (.long q7), .second, .val (.ref b1), .val (.int (1 : Int32)), .val (.int nn2)] [(.int (1 : Int32)), (.int (own_emp hd2 tl2))]))
      refine Wp.step (fun t k => XS.icmpNo X14.here hx rfl (hb hby at_97) rfl (teq (show (own_emp hd2 tl2) = (1 : Int32) from (own_emp_eq b0_2 b1_2 (Int.lt_of_le_of_lt bk_2 (by decide)) en_2 hc30))).2 k) ?_
      show Wp p e below _ (T14.setTop (mkF m 100 #[.val (.int p0), .val (.long q1), .second, .val (.long q3), .second, .val (.long q5), .second, .val (.long q7), .second, .val (.ref b1), .val (.int (1 : Int32)), .val (.int nn2)] []))
      refine Wp.step (fun t k => XS.iconst X14.here hx rfl (hb hby at_100) k) ?_
      show Wp p e below _ (T14.setTop (mkF m 101 #[.val (.int p0), .val (.long q1), .second, .val (.long q3), .second, .val (.long q5), .second, .val (.long q7), .second, .val (.ref b1), .val (.int (1 : Int32)), .val (.int nn2)] [(.int (1 : Int32))]))
      refine Wp.step (fun t k => XS.goto X14.here hx rfl (pc0 := 101) (pc' := 105) rfl (hb hby at_101) (by decide) (by decide) k) ?_
      show Wp p e below _ (T14.setTop (mkF m 105 #[.val (.int p0), .val (.long q1), .second, .val (.long q3), .second, .val (.long q5), .second, .val (.long q7), .second, .val (.ref b1), .val (.int (1 : Int32)), .val (.int nn2)] [(.int (1 : Int32))]))
      refine Wp.step (fun t k => XS.istore X14.here hx rfl (hb hby at_105) rfl (l' := #[.val (.int p0), .val (.long q1), .second, .val (.long q3), .second, .val (.long q5), .second, .val (.long q7), .second, .val (.ref b1), .val (.int (1 : Int32)), .val (.int nn2)]) rfl k) ?_
      show Wp p e below _ (T14.setTop (mkF m 107 #[.val (.int p0), .val (.long q1), .second, .val (.long q3), .second, .val (.long q5), .second, .val (.long q7), .second, .val (.ref b1), .val (.int (1 : Int32)), .val (.int nn2)] []))
      exact kont15
    · refine Wp.step (fun t k => XS.ifYes X14.here hx rfl (pc0 := 89) (pc' := 96) rfl (hb hby at_89) rfl ((if0 _ _).trans (feq hc30).2) (by decide) (by decide) k) ?_
      show Wp p e below _ (T14.setTop (mkF m 96 #[.val (.int p0), .val (.long q1), .second, .val (.long q3), .second, .val (.long q5), .second, .val (.long q7), .second, .val (.ref b1), .val (.int (1 : Int32)), .val (.int nn2)] [(.int (own_emp hd2 tl2))]))
      refine Wp.step (fun t k => XS.iconst X14.here hx rfl (hb hby at_96) k) ?_
      show Wp p e below _ (T14.setTop (mkF m 97 #[.val (.int p0), .val (.long q1), .second, .val (.long q3), .second, .val (.long q5), .second, .val (.long q7), .second, .val (.ref b1), .val (.int (1 : Int32)), .val (.int nn2)] [(.int (0 : Int32)), (.int (own_emp hd2 tl2))]))
      refine Wp.step (fun t k => XS.icmpNo X14.here hx rfl (hb hby at_97) rfl (teq (show (own_emp hd2 tl2) = (0 : Int32) from (own_emp_ne b0_2 b1_2 (Int.lt_of_le_of_lt bk_2 (by decide)) en_2 hc30))).2 k) ?_
      show Wp p e below _ (T14.setTop (mkF m 100 #[.val (.int p0), .val (.long q1), .second, .val (.long q3), .second, .val (.long q5), .second, .val (.long q7), .second, .val (.ref b1), .val (.int (1 : Int32)), .val (.int nn2)] []))
      refine Wp.step (fun t k => XS.iconst X14.here hx rfl (hb hby at_100) k) ?_
      show Wp p e below _ (T14.setTop (mkF m 101 #[.val (.int p0), .val (.long q1), .second, .val (.long q3), .second, .val (.long q5), .second, .val (.long q7), .second, .val (.ref b1), .val (.int (1 : Int32)), .val (.int nn2)] [(.int (1 : Int32))]))
      refine Wp.step (fun t k => XS.goto X14.here hx rfl (pc0 := 101) (pc' := 105) rfl (hb hby at_101) (by decide) (by decide) k) ?_
      show Wp p e below _ (T14.setTop (mkF m 105 #[.val (.int p0), .val (.long q1), .second, .val (.long q3), .second, .val (.long q5), .second, .val (.long q7), .second, .val (.ref b1), .val (.int (1 : Int32)), .val (.int nn2)] [(.int (1 : Int32))]))
      refine Wp.step (fun t k => XS.istore X14.here hx rfl (hb hby at_105) rfl (l' := #[.val (.int p0), .val (.long q1), .second, .val (.long q3), .second, .val (.long q5), .second, .val (.long q7), .second, .val (.ref b1), .val (.int (1 : Int32)), .val (.int nn2)]) rfl k) ?_
      show Wp p e below _ (T14.setTop (mkF m 107 #[.val (.int p0), .val (.long q1), .second, .val (.long q3), .second, .val (.long q5), .second, .val (.long q7), .second, .val (.ref b1), .val (.int (1 : Int32)), .val (.int nn2)] []))
      exact kont15
  refine Wp.step (fun t k => XS.iload X10.here hx rfl (hb hby at_42) rfl k) ?_
  show Wp p e below _ (T10.setTop (mkF m 44 #[.val (.int p0), .val (.long q1), .second, .val (.long q3), .second, .val (.long q5), .second, .val (.long q7), .second, .val (.ref b1), .val (.int (own_emp (0 : Int32) (0 : Int32))), .val (.int nn1)] [(.int nn1), (.int (own_emp hd1 tl1))]))
  by_cases hc33 : nn1 = (0 : Int32)
  · refine Wp.step (fun t k => XS.ifNo X10.here hx rfl (hb hby at_44) rfl ((if0 _ _).trans (teq hc33).2) k) ?_
    show Wp p e below _ (T10.setTop (mkF m 47 #[.val (.int p0), .val (.long q1), .second, .val (.long q3), .second, .val (.long q5), .second, .val (.long q7), .second, .val (.ref b1), .val (.int (own_emp (0 : Int32) (0 : Int32))), .val (.int nn1)] [(.int (own_emp hd1 tl1))]))
    refine Wp.step (fun t k => XS.iconst X10.here hx rfl (hb hby at_47) k) ?_
    show Wp p e below _ (T10.setTop (mkF m 48 #[.val (.int p0), .val (.long q1), .second, .val (.long q3), .second, .val (.long q5), .second, .val (.long q7), .second, .val (.ref b1), .val (.int (own_emp (0 : Int32) (0 : Int32))), .val (.int nn1)] [(.int (1 : Int32)), (.int (own_emp hd1 tl1))]))
    refine Wp.step (fun t k => XS.goto X10.here hx rfl (pc0 := 48) (pc' := 52) rfl (hb hby at_48) (by decide) (by decide) k) ?_
    show Wp p e below _ (T10.setTop (mkF m 52 #[.val (.int p0), .val (.long q1), .second, .val (.long q3), .second, .val (.long q5), .second, .val (.long q7), .second, .val (.ref b1), .val (.int (own_emp (0 : Int32) (0 : Int32))), .val (.int nn1)] [(.int (1 : Int32)), (.int (own_emp hd1 tl1))]))
    refine Wp.step (fun t k => XS.icmpNo X10.here hx rfl (hb hby at_52) rfl (teq (show (own_emp hd1 tl1) = (1 : Int32) from (own_emp_eq b0_1 b1_1 (Int.lt_of_le_of_lt bk_1 (by decide)) en_1 hc33))).2 k) ?_
    show Wp p e below _ (T10.setTop (mkF m 55 #[.val (.int p0), .val (.long q1), .second, .val (.long q3), .second, .val (.long q5), .second, .val (.long q7), .second, .val (.ref b1), .val (.int (own_emp (0 : Int32) (0 : Int32))), .val (.int nn1)] []))
    refine Wp.step (fun t k => XS.iconst X10.here hx rfl (hb hby at_55) k) ?_
    show Wp p e below _ (T10.setTop (mkF m 56 #[.val (.int p0), .val (.long q1), .second, .val (.long q3), .second, .val (.long q5), .second, .val (.long q7), .second, .val (.ref b1), .val (.int (own_emp (0 : Int32) (0 : Int32))), .val (.int nn1)] [(.int (1 : Int32))]))
    refine Wp.step (fun t k => XS.goto X10.here hx rfl (pc0 := 56) (pc' := 60) rfl (hb hby at_56) (by decide) (by decide) k) ?_
    show Wp p e below _ (T10.setTop (mkF m 60 #[.val (.int p0), .val (.long q1), .second, .val (.long q3), .second, .val (.long q5), .second, .val (.long q7), .second, .val (.ref b1), .val (.int (own_emp (0 : Int32) (0 : Int32))), .val (.int nn1)] [(.int (1 : Int32))]))
    refine Wp.step (fun t k => XS.istore X10.here hx rfl (hb hby at_60) rfl (l' := #[.val (.int p0), .val (.long q1), .second, .val (.long q3), .second, .val (.long q5), .second, .val (.long q7), .second, .val (.ref b1), .val (.int (1 : Int32)), .val (.int nn1)]) rfl k) ?_
    show Wp p e below _ (T10.setTop (mkF m 62 #[.val (.int p0), .val (.long q1), .second, .val (.long q3), .second, .val (.long q5), .second, .val (.long q7), .second, .val (.ref b1), .val (.int (1 : Int32)), .val (.int nn1)] []))
    exact kont11
  · refine Wp.step (fun t k => XS.ifYes X10.here hx rfl (pc0 := 44) (pc' := 51) rfl (hb hby at_44) rfl ((if0 _ _).trans (feq hc33).2) (by decide) (by decide) k) ?_
    show Wp p e below _ (T10.setTop (mkF m 51 #[.val (.int p0), .val (.long q1), .second, .val (.long q3), .second, .val (.long q5), .second, .val (.long q7), .second, .val (.ref b1), .val (.int (own_emp (0 : Int32) (0 : Int32))), .val (.int nn1)] [(.int (own_emp hd1 tl1))]))
    refine Wp.step (fun t k => XS.iconst X10.here hx rfl (hb hby at_51) k) ?_
    show Wp p e below _ (T10.setTop (mkF m 52 #[.val (.int p0), .val (.long q1), .second, .val (.long q3), .second, .val (.long q5), .second, .val (.long q7), .second, .val (.ref b1), .val (.int (own_emp (0 : Int32) (0 : Int32))), .val (.int nn1)] [(.int (0 : Int32)), (.int (own_emp hd1 tl1))]))
    refine Wp.step (fun t k => XS.icmpNo X10.here hx rfl (hb hby at_52) rfl (teq (show (own_emp hd1 tl1) = (0 : Int32) from (own_emp_ne b0_1 b1_1 (Int.lt_of_le_of_lt bk_1 (by decide)) en_1 hc33))).2 k) ?_
    show Wp p e below _ (T10.setTop (mkF m 55 #[.val (.int p0), .val (.long q1), .second, .val (.long q3), .second, .val (.long q5), .second, .val (.long q7), .second, .val (.ref b1), .val (.int (own_emp (0 : Int32) (0 : Int32))), .val (.int nn1)] []))
    refine Wp.step (fun t k => XS.iconst X10.here hx rfl (hb hby at_55) k) ?_
    show Wp p e below _ (T10.setTop (mkF m 56 #[.val (.int p0), .val (.long q1), .second, .val (.long q3), .second, .val (.long q5), .second, .val (.long q7), .second, .val (.ref b1), .val (.int (own_emp (0 : Int32) (0 : Int32))), .val (.int nn1)] [(.int (1 : Int32))]))
    refine Wp.step (fun t k => XS.goto X10.here hx rfl (pc0 := 56) (pc' := 60) rfl (hb hby at_56) (by decide) (by decide) k) ?_
    show Wp p e below _ (T10.setTop (mkF m 60 #[.val (.int p0), .val (.long q1), .second, .val (.long q3), .second, .val (.long q5), .second, .val (.long q7), .second, .val (.ref b1), .val (.int (own_emp (0 : Int32) (0 : Int32))), .val (.int nn1)] [(.int (1 : Int32))]))
    refine Wp.step (fun t k => XS.istore X10.here hx rfl (hb hby at_60) rfl (l' := #[.val (.int p0), .val (.long q1), .second, .val (.long q3), .second, .val (.long q5), .second, .val (.long q7), .second, .val (.ref b1), .val (.int (1 : Int32)), .val (.int nn1)]) rfl k) ?_
    show Wp p e below _ (T10.setTop (mkF m 62 #[.val (.int p0), .val (.long q1), .second, .val (.long q3), .second, .val (.long q5), .second, .val (.long q7), .second, .val (.ref b1), .val (.int (1 : Int32)), .val (.int nn1)] []))
    exact kont11
set_option maxRecDepth 65536 in
set_option maxHeartbeats 40000000 in
theorem comes_1 {Post : Tables → Env → Array Value → State → Outcome → State → Prop} (hpost : ∀ tb e args s v u, (limb_1_1.after args s (.returned v) u = true ∧ limb_1_2.after args s (.returned v) u = true ∧ True) → FrameEnd s (.returned v) u (Jvm.fieldLocs frame_1_writes args s ++ Jvm.arrayLocs frame_1_arrays args s ++ Jvm.staticLocs frame_1_statics s) 16 2176 → Post tb e args s (.returned v) u) :
    ArmFor flags0 classFile x code maxLocals ret World_1 tables_1 room_1 Calls_1 rest_1 Pre_1 Post := by
  intro l hfl _ _ p e ha hc hk s m args below hf hA hF happ hP
  obtain ⟨hcalls, hrest, hpre⟩ := hP
  obtain ⟨-, -, -, hnamed, -, -, -, hat⟩ := (Spec.applies_iff hf).mp happ
  obtain ⟨hg, hn⟩ := and_e (Cond.before_iff.mp (show (Jvm.Cond.and given_1 narrow_1).before args s = true from hpre))
  obtain ⟨hcnt, hr0⟩ := and_e hg
  obtain ⟨hi0, hr1⟩ := and_e hr0
  obtain ⟨hi1, hr2⟩ := and_e hr1
  obtain ⟨hi2, hr3⟩ := and_e hr2
  obtain ⟨hi3, hi4⟩ := and_e hr3
  obtain ⟨w0, w1, w2, w3, w4, rfl⟩ : ∃ w0 w1 w2 w3 w4 : Value, args = #[w0, w1, w2, w3, w4] := by
    have hs : args.size = 5 := by simpa [Cond.value, given_1] using hcnt
    obtain ⟨L⟩ := args
    match L, hs with
    | [w0, w1, w2, w3, w4], _ => exact ⟨w0, w1, w2, w3, w4, rfl⟩
  have hw := fun d (hd : d ∈ tables_1) => atoms_spec (ws := Jvm.Cond.code x code maxLocals ret :: tables_1) hat d (List.mem_cons_of_mem _ hd)
  have hfit : Fit s := fun {y c} hc i hi => by
    obtain ⟨ha, rfl⟩ := Array.getElem?_eq_some_iff.mp hc
    have q := List.all_eq_true.mp ((Array.all_eq_true_iff_forall_mem.mp hF) _ (Array.getElem_mem ha)) i (List.mem_range.mpr hi)
    simpa [Array.getElem?_eq_getElem hi] using q
  obtain ⟨i0, ei0⟩ := is_v hi0
  obtain rfl : w0 = (.int i0) := Option.some.inj ei0
  obtain ⟨i1, ei1⟩ := isL_v hi1
  obtain rfl : w1 = (.long i1) := Option.some.inj ei1
  obtain ⟨i2, ei2⟩ := isL_v hi2
  obtain rfl : w2 = (.long i2) := Option.some.inj ei2
  obtain ⟨i3, ei3⟩ := isL_v hi3
  obtain rfl : w3 = (.long i3) := Option.some.inj ei3
  obtain ⟨i4, ei4⟩ := isL_v hi4
  obtain rfl : w4 = (.long i4) := Option.some.inj ei4
  obtain ⟨n, o, h1, h2, h3, _, L, rfl, ⟨rfl, N⟩, hq⟩ := rm0 l s _ hw tables_1 i0 i1 i2 i3 i4 s.heap s.heap.size (Nat.le_refl _)  p e ha hc hk s m _ below hf ((Spec.applies_iff_loose hf).mp happ).1 ⟨rfl, State.Warmed39.refl s, rfl⟩ trivial
  refine ⟨n, _, h1, h2, h3, hpost _ _ _ _ _ _ ⟨Cond.after_iff.mpr rfl, Cond.after_iff.mpr (eq_i res_at (Term.int_eval (1)) rfl), trivial⟩ ⟨hq.1, hq.2.1, (hq.2.2.sift fun y hy => Or.inr (N y hy)).mono (by decide) (by decide)⟩⟩
theorem main_1_1 : Claimed_1_1 := comes_1 fun _ _ _ _ _ _ h hF => ⟨h.1, hF⟩
theorem main_1_2 : Claimed_1_2 := comes_1 fun _ _ _ _ _ _ h hF => ⟨h.2.1, hF⟩
end Jvm.Pilot.@@N@@
namespace Jvm.Pilot.@@N@@
open Jvm Jvm.ClassFile Sem Op Lib Jvm.Free Jvm.Stand Jvm.Pilot.@@N@@.Jvm.D
/-! MADE BY PROGRAM (witnessworld.py) out of the Statement's table words and the real class files: 9 classes; the members and pool entries that the words name. The judged class is class 1, her method 2. -/
namespace start1
open Jvm.ClassFile
def u (s : String) : CpInfo := .utf8 (stringToUtf16 s)
/-- a pool by its gaps: so many unusable entries, then the entry; so many at the end -/
def gap : Nat → List CpInfo → List CpInfo
  | 0, r => r
  | n + 1, r => .unusable :: gap n r
def poolList (es : List (Nat × CpInfo)) (last : Nat) : List CpInfo := es.foldr (fun e r => gap e.1 (e.2 :: r)) (gap last [])
def pool (es : List (Nat × CpInfo)) (last : Nat) : Array CpInfo := ⟨poolList es last⟩
def fileOf (pool : Array CpInfo) (this : Nat) (attrs : Array Attribute := #[]) (ms : Array MethodInfo := #[]) (fl : Nat := 33) (sup : Nat := 0) (ifs : Array Nat := #[]) (fds : Array FieldInfo := #[]) : ClassFile where
  minorVersion := 0
  majorVersion := 65
  constantPool := pool
  accessFlags := fl
  thisClass := this
  superClass := sup
  interfaces := ifs
  fields := fds
  methods := ms
  attributes := attrs
def plain (name : String) (sup : Option ClassId) : Class where
  name := name
  kind := .ordinary
  loader := none
  accessFlags := 33
  super := sup
  interfaces := #[]
  cf := none
  fields := #[]
  methods := #[]
  instanceTypes := #[]
  staticTypes := #[]
  resolved := #[]
  callSites := []
  init := .initialized
  statics := none
  mirror := none

def pool0 : Array CpInfo := pool [(5, u "<init>"), (0, u "()V"), (1, .class_ 10), (1, u "java/lang/Object")] 113

def k0c0 : Code := { maxStack := 0, maxLocals := 1, code := object_method_1_code, exceptionTable := #[], attributes := #[] }
def k0m0 : Method := { name := "<init>", desc := "()V", sig := { parameters := [], returnType := none }, accessFlags := 1, code := some k0c0 }
/-- java/lang/Object -/
def k0 : Class := { plain "java/lang/Object" none with
  accessFlags := 33
  interfaces := #[]
  cf := some (fileOf pool0 8 #[] #[{ accessFlags := 1, nameIndex := 5, descriptorIndex := 6, attributes := #[] }] 33 0 #[] #[])
  fields := #[]
  methods := #[k0m0]
  instanceTypes := #[]
  staticTypes := #[]
  resolved := Array.replicate 124 none
  statics := none }

def pool1 : Array CpInfo := pool [(2, .class_ 4), (0, .nameAndType 5 6), (0, u "java/lang/Object"), (0, u "<init>"), (0, u "()V"), (0, .methodref 8 9), (0, .class_ 10), (0, .nameAndType 11 12), (0, u "com/example/erotema/erotema/model/LongQueue"), (0, u "poll"), (0, u "()J"), (0, .methodref 8 14), (0, .nameAndType 15 16), (0, u "add"), (0, u "(J)V"), (0, .methodref 8 3), (0, .methodref 8 19), (0, .nameAndType 20 21), (0, u "isEmpty"), (0, u "()Z"), (0, .methodref 23 24), (0, .class_ 25), (0, .nameAndType 26 27), (0, u "com/example/erotema/erotema/model/LongQueueIsEmptyPinLaw"), (0, u "step"), (0, u "(Lcom/example/erotema/erotema/model/LongQueue;IJI)I"), (3, u "law"), (0, u "(IJJJJ)Z")] 2

def k1m0 : Method := { name := "<init>", desc := "()V", sig := { parameters := [], returnType := none }, accessFlags := 1, code := none }
def k1c1 : Code := { maxStack := 3, maxLocals := 5, code := method_2_code, exceptionTable := #[], attributes := #[] }
def k1m1 : Method := { name := "step", desc := "(Lcom/example/erotema/erotema/model/LongQueue;IJI)I", sig := { parameters := [(.object "com/example/erotema/erotema/model/LongQueue"), .int, .long, .int], returnType := some .int }, accessFlags := 10, code := some k1c1 }
def k1c2 : Code := { maxStack := 5, maxLocals := 12, code := code, exceptionTable := #[], attributes := #[] }
def k1m2 : Method := { name := "law", desc := "(IJJJJ)Z", sig := { parameters := [.int, .long, .long, .long, .long], returnType := some .boolean }, accessFlags := 9, code := some k1c2 }
/-- com/example/erotema/erotema/model/LongQueueIsEmptyPinLaw -/
def k1 : Class := { plain "com/example/erotema/erotema/model/LongQueueIsEmptyPinLaw" (some 0) with
  accessFlags := 49
  interfaces := #[]
  cf := some (fileOf pool1 23 #[] #[{ accessFlags := 1, nameIndex := 5, descriptorIndex := 6, attributes := #[] }, { accessFlags := 10, nameIndex := 26, descriptorIndex := 27, attributes := #[] }, { accessFlags := 9, nameIndex := 31, descriptorIndex := 32, attributes := #[] }] 49 2 #[] #[])
  fields := #[]
  methods := #[k1m0, k1m1, k1m2]
  instanceTypes := #[]
  staticTypes := #[]
  resolved := Array.replicate 35 none
  statics := none }

def pool2 : Array CpInfo := pool [(1, .methodref 2 3), (0, .class_ 4), (0, .nameAndType 5 6), (0, u "java/lang/Object"), (0, u "<init>"), (0, u "()V"), (0, .fieldref 8 9), (0, .class_ 10), (0, .nameAndType 11 12), (0, u "com/example/erotema/erotema/model/LongQueue"), (0, u "numbers"), (0, u "[J"), (0, .fieldref 8 14), (0, .nameAndType 15 16), (0, u "tail"), (0, u "I"), (0, .fieldref 8 18), (0, .nameAndType 19 16), (0, u "head"), (8, u "add"), (0, u "(J)V"), (2, u "isEmpty"), (0, u "()Z"), (0, u "poll"), (0, u "()J")] 2

def k2c0 : Code := { maxStack := 2, maxLocals := 1, code := prog_14_method_1_code, exceptionTable := #[], attributes := #[] }
def k2m0 : Method := { name := "<init>", desc := "()V", sig := { parameters := [], returnType := none }, accessFlags := 0, code := some k2c0 }
def k2c1 : Code := { maxStack := 5, maxLocals := 3, code := prog_14_method_2_code, exceptionTable := #[], attributes := #[] }
def k2m1 : Method := { name := "add", desc := "(J)V", sig := { parameters := [.long], returnType := none }, accessFlags := 0, code := some k2c1 }
def k2c2 : Code := { maxStack := 2, maxLocals := 1, code := prog_14_method_3_code, exceptionTable := #[], attributes := #[] }
def k2m2 : Method := { name := "isEmpty", desc := "()Z", sig := { parameters := [], returnType := some .boolean }, accessFlags := 0, code := some k2c2 }
def k2c3 : Code := { maxStack := 5, maxLocals := 1, code := prog_14_method_4_code, exceptionTable := #[], attributes := #[] }
def k2m3 : Method := { name := "poll", desc := "()J", sig := { parameters := [], returnType := some .long }, accessFlags := 0, code := some k2c3 }
/-- com/example/erotema/erotema/model/LongQueue -/
def k2 : Class := { plain "com/example/erotema/erotema/model/LongQueue" (some 0) with
  accessFlags := 32
  interfaces := #[]
  cf := some (fileOf pool2 8 #[] #[{ accessFlags := 0, nameIndex := 5, descriptorIndex := 6, attributes := #[] }, { accessFlags := 0, nameIndex := 28, descriptorIndex := 29, attributes := #[] }, { accessFlags := 0, nameIndex := 32, descriptorIndex := 33, attributes := #[] }, { accessFlags := 0, nameIndex := 34, descriptorIndex := 35, attributes := #[] }] 32 2 #[] #[{ accessFlags := 2, nameIndex := 11, descriptorIndex := 12, attributes := #[] }, { accessFlags := 2, nameIndex := 19, descriptorIndex := 16, attributes := #[] }, { accessFlags := 2, nameIndex := 15, descriptorIndex := 16, attributes := #[] }])
  fields := #[{ name := "numbers", type := (.array .long), accessFlags := 2, slot := 0, constantValue := 0 }, { name := "head", type := .int, accessFlags := 2, slot := 1, constantValue := 0 }, { name := "tail", type := .int, accessFlags := 2, slot := 2, constantValue := 0 }]
  methods := #[k2m0, k2m1, k2m2, k2m3]
  instanceTypes := #[(.array .long), .int, .int]
  staticTypes := #[]
  resolved := Array.replicate 38 none
  statics := none }

def pool3 : Array CpInfo := pool [(1, u "java/lang/Cloneable"), (0, .class_ 1), (0, u "java/lang/Object"), (0, .class_ 3)] 3

/-- java/lang/Cloneable -/
def k3 : Class := { plain "java/lang/Cloneable" (some 0) with
  accessFlags := 1537
  interfaces := #[]
  cf := some (fileOf pool3 2 #[] #[] 1537 4 #[] #[])
  fields := #[]
  methods := #[]
  instanceTypes := #[]
  staticTypes := #[]
  resolved := Array.replicate 8 none
  statics := none }

def pool4 : Array CpInfo := pool [(1, u "java/io/Serializable"), (0, .class_ 1), (0, u "java/lang/Object"), (0, .class_ 3)] 3

/-- java/io/Serializable -/
def k4 : Class := { plain "java/io/Serializable" (some 0) with
  accessFlags := 1537
  interfaces := #[]
  cf := some (fileOf pool4 2 #[] #[] 1537 4 #[] #[])
  fields := #[]
  methods := #[]
  instanceTypes := #[]
  staticTypes := #[]
  resolved := Array.replicate 8 none
  statics := none }

/-- the primitive byte -/
def k5 : Class := { plain "byte" none with kind := .primitive 'B', accessFlags := 0x411 }
/-- [B -/
def k6 : Class := { plain "[B" (some 0) with kind := .array 5 .byte, interfaces := #[3, 4], accessFlags := 1041 }

/-- the primitive long -/
def k7 : Class := { plain "long" none with kind := .primitive 'J', accessFlags := 0x411 }
/-- [J -/
def k8 : Class := { plain "[J" (some 0) with kind := .array 7 .long, interfaces := #[3, 4], accessFlags := 1041 }

def heap : Heap := #[]
def classes : Array Class := #[k0, k1, k2, k3, k4, k5, k6, k7, k8]
def interned : List (Array UInt16 × Addr) := []
def slotsUsed : Nat := 0
def theMethod : MethodId := ⟨1, 2⟩
def args0 : Array Value := #[.int 5, .long 7, .long 6, .long 9, .long 10]
def aboutOver (below : List Frame) : State where
  vm := { classes := classes, interned := interned.toArray }
  heap := heap
  slotsUsed := slotsUsed
  threads := #[{ frames := .invoking theMethod args0 :: below }]
def below0 : List Frame := [.native { method := ⟨0, 0⟩, args := #[] }]
def about1 : State := aboutOver below0
def p0 : Program := .bare "" "" ""
def e0 : Env := launch0.env 0 0 0
theorem w_frames : about1.frames = Frame.invoking theMethod args0 :: below0 := rfl
set_option maxRecDepth 65536 in
theorem w_args : argsFit about1.vm theMethod args0 = true := by decide +kernel
set_option maxRecDepth 65536 in
theorem w_heap : heapFits about1 = true := by decide +kernel
set_option maxRecDepth 65536 in
theorem w_runnable : about1.curStatus? = some .runnable := by decide +kernel
set_option maxRecDepth 65536 in
theorem w_alone : about1.alone = true := by decide +kernel
set_option maxRecDepth 65536 in
theorem w_named : about1.methodNamed? x = some theMethod := by decide +kernel
set_option maxRecDepth 65536 in
theorem w_hears : about1.hears theMethod below0 = true := by decide +kernel
set_option maxRecDepth 65536 in
theorem w_ripe : about1.ripe theMethod args0 below0 = true := by decide +kernel
theorem w_running : about1.status = .running := rfl
set_option maxRecDepth 65536 in
theorem w_room : about1.hasRoom e0.platform room_1 = true :=
  launch0.hasRoom_least _ room_1 (by decide +kernel) (by decide +kernel) (by decide +kernel) (by decide +kernel) (by decide +kernel) (by decide +kernel)
theorem allAtoms_all (ts : List Jvm.Cond) (a : Array Jvm.Value) (st : Jvm.State) : (allAtoms ts).before a st = ts.all (fun c => c.before a st) := by
  induction ts with
  | nil => rfl
  | cons c t ih =>
    show (Jvm.Cond.and c (allAtoms t)).before a st = _
    rw [Jvm.Cond.before_and, ih, List.all_cons]
def words1 : List Jvm.Cond := Jvm.Cond.code x code maxLocals ret :: tables_1
/-- a 'code' word, met by the world's own term for the bytes: nothing is compared byte by byte -/
theorem code_word {y : MethodName} {bytes : ByteArray} {mx : Nat} {rt : Option FieldType} {a : Array Value} {s : State} {m : MethodId} {meth : Method} {c : Code} (h1 : s.methodNamed? y = some m) (h2 : s.vm.method? m = some meth) (h3 : meth.code = some c) (h4 : c.code = bytes)
    (h5 : (c.maxLocals == mx && c.exceptionTable.isEmpty && decide (c.maxStack ≤ mostOperands) && decide (meth.sig.returnType = rt) && !meth.locks && decide (parseMethodDescriptor y.desc = some meth.sig)) = true) : (Jvm.Cond.code y bytes mx rt).before a s = true := by
  simp only [Bool.and_eq_true, beq_iff_eq, Bool.not_eq_true', decide_eq_true_eq] at h5
  obtain ⟨⟨⟨⟨⟨g1, g2⟩, g3⟩, g4⟩, g5⟩, g6⟩ := h5
  simp [Cond.before, Cond.holds, Cond.value, h1, h2, h3, h4, g1, g2, g3, g4, g5, g6]
def isCode : Jvm.Cond → Bool
  | .code _ _ _ _ => true
  | _ => false
theorem all_split {L : List Jvm.Cond} {P : Jvm.Cond → Bool} (h1 : L.all (fun c => isCode c || P c) = true) (h2 : ∀ c ∈ L.filter isCode, P c = true) : L.all P = true := by
  refine List.all_eq_true.mpr fun c hc => ?_
  have h := List.all_eq_true.mp h1 c hc
  rcases Bool.eq_false_or_eq_true (isCode c) with hi | hi
  · exact h2 c (List.mem_filter.mpr ⟨hc, hi⟩)
  · simpa [hi] using h
set_option maxRecDepth 65536 in
theorem w_c0 : (Jvm.Cond.code x code maxLocals ret).before args0 about1 = true := code_word (m := ⟨1, 2⟩) (meth := k1m2) (c := k1c2) (by decide +kernel) rfl rfl rfl (by decide +kernel)
set_option maxRecDepth 65536 in
theorem w_c1 : (Jvm.Cond.code ({ cls := "com/example/erotema/erotema/model/LongQueue", name := "<init>", desc := "()V" } : Jvm.MethodName) prog_14_method_1_code (1 : Nat) (Option.none : Option Jvm.ClassFile.FieldType)).before args0 about1 = true := code_word (m := ⟨2, 0⟩) (meth := k2m0) (c := k2c0) (by decide +kernel) rfl rfl rfl (by decide +kernel)
set_option maxRecDepth 65536 in
theorem w_c2 : (Jvm.Cond.code ({ cls := "java/lang/Object", name := "<init>", desc := "()V" } : Jvm.MethodName) object_method_1_code (1 : Nat) (Option.none : Option Jvm.ClassFile.FieldType)).before args0 about1 = true := code_word (m := ⟨0, 0⟩) (meth := k0m0) (c := k0c0) (by decide +kernel) rfl rfl rfl (by decide +kernel)
set_option maxRecDepth 65536 in
theorem w_c3 : (Jvm.Cond.code ({ cls := "com/example/erotema/erotema/model/LongQueue", name := "isEmpty", desc := "()Z" } : Jvm.MethodName) prog_14_method_3_code (1 : Nat) (Option.some Jvm.ClassFile.FieldType.boolean)).before args0 about1 = true := code_word (m := ⟨2, 2⟩) (meth := k2m2) (c := k2c2) (by decide +kernel) rfl rfl rfl (by decide +kernel)
set_option maxRecDepth 65536 in
theorem w_c4 : (Jvm.Cond.code ({ cls := "com/example/erotema/erotema/model/LongQueueIsEmptyPinLaw", name := "step", desc := "(Lcom/example/erotema/erotema/model/LongQueue;IJI)I" } : Jvm.MethodName) method_2_code (5 : Nat) (Option.some Jvm.ClassFile.FieldType.int)).before args0 about1 = true := code_word (m := ⟨1, 1⟩) (meth := k1m1) (c := k1c1) (by decide +kernel) rfl rfl rfl (by decide +kernel)
set_option maxRecDepth 65536 in
theorem w_c5 : (Jvm.Cond.code ({ cls := "com/example/erotema/erotema/model/LongQueue", name := "add", desc := "(J)V" } : Jvm.MethodName) prog_14_method_2_code (3 : Nat) (Option.none : Option Jvm.ClassFile.FieldType)).before args0 about1 = true := code_word (m := ⟨2, 1⟩) (meth := k2m1) (c := k2c1) (by decide +kernel) rfl rfl rfl (by decide +kernel)
set_option maxRecDepth 65536 in
theorem w_c6 : (Jvm.Cond.code ({ cls := "com/example/erotema/erotema/model/LongQueue", name := "poll", desc := "()J" } : Jvm.MethodName) prog_14_method_4_code (1 : Nat) (Option.some Jvm.ClassFile.FieldType.long)).before args0 about1 = true := code_word (m := ⟨2, 3⟩) (meth := k2m3) (c := k2c3) (by decide +kernel) rfl rfl rfl (by decide +kernel)
def codes1 : List Jvm.Cond := [Jvm.Cond.code x code maxLocals ret, Jvm.Cond.code ({ cls := "com/example/erotema/erotema/model/LongQueue", name := "<init>", desc := "()V" } : Jvm.MethodName) prog_14_method_1_code (1 : Nat) (Option.none : Option Jvm.ClassFile.FieldType), Jvm.Cond.code ({ cls := "java/lang/Object", name := "<init>", desc := "()V" } : Jvm.MethodName) object_method_1_code (1 : Nat) (Option.none : Option Jvm.ClassFile.FieldType), Jvm.Cond.code ({ cls := "com/example/erotema/erotema/model/LongQueue", name := "isEmpty", desc := "()Z" } : Jvm.MethodName) prog_14_method_3_code (1 : Nat) (Option.some Jvm.ClassFile.FieldType.boolean), Jvm.Cond.code ({ cls := "com/example/erotema/erotema/model/LongQueueIsEmptyPinLaw", name := "step", desc := "(Lcom/example/erotema/erotema/model/LongQueue;IJI)I" } : Jvm.MethodName) method_2_code (5 : Nat) (Option.some Jvm.ClassFile.FieldType.int), Jvm.Cond.code ({ cls := "com/example/erotema/erotema/model/LongQueue", name := "add", desc := "(J)V" } : Jvm.MethodName) prog_14_method_2_code (3 : Nat) (Option.none : Option Jvm.ClassFile.FieldType), Jvm.Cond.code ({ cls := "com/example/erotema/erotema/model/LongQueue", name := "poll", desc := "()J" } : Jvm.MethodName) prog_14_method_4_code (1 : Nat) (Option.some Jvm.ClassFile.FieldType.long)]
set_option maxRecDepth 65536 in
theorem codes_eq : words1.filter isCode = codes1 := rfl
theorem w_codes : ∀ c ∈ words1.filter isCode, c.before args0 about1 = true := by
  rw [codes_eq]
  intro c hc
  simp only [codes1, List.mem_cons, List.not_mem_nil, or_false] at hc
  rcases hc with rfl | rfl | rfl | rfl | rfl | rfl | rfl
  · exact w_c0
  · exact w_c1
  · exact w_c2
  · exact w_c3
  · exact w_c4
  · exact w_c5
  · exact w_c6
set_option maxRecDepth 65536 in
theorem w_t1 : (words1.take 24).all (fun c => isCode c || c.before args0 about1) = true := by decide +kernel
set_option maxRecDepth 65536 in
theorem w_t2 : (words1.drop 24).all (fun c => isCode c || c.before args0 about1) = true := by decide +kernel
theorem w_tables : (allAtoms (Jvm.Cond.code x code maxLocals ret :: tables_1)).before args0 about1 = true := by
  rw [allAtoms_all]
  show words1.all (fun c => c.before args0 about1) = true
  refine all_split ?_ w_codes
  rw [← List.take_append_drop 24 words1, List.all_append, w_t1, w_t2]
  rfl
set_option maxRecDepth 65536 in
theorem w_case : (Jvm.Cond.and given_1 narrow_1).before args0 about1 = true := by decide +kernel
theorem w_applies : (headSpec (Jvm.Cond.code x code maxLocals ret :: tables_1) room_1).applies x e0.platform about1 = true :=
  (Spec.applies_iff w_frames).mpr ⟨w_running, w_runnable, w_alone, w_named, w_hears, w_ripe, w_room, w_tables⟩
theorem atStart : AtStart classFile x code maxLocals ret World_1 tables_1 room_1 Calls_1 rest_1 Pre_1 launch0 p0 e0 about1 theMethod args0 below0 :=
  ⟨lists_1, trivial, launch0.admits_env _ _ _, launch0.least_env, fairChoices_fair.cas, fairChoices_fair.clock, w_frames, w_args, w_heap, w_applies, trivial, trivial, w_case⟩
end start1
theorem witness_1 : WitnessClaimed_1 := ⟨start1.p0, start1.e0, start1.about1, start1.theMethod, start1.args0, start1.below0, start1.atStart⟩
end Jvm.Pilot.@@N@@
