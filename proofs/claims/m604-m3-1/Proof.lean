import JvmDerived
import JvmDerived.Pilot.@@N@@Statement
import JvmDerived.Pilot.@@N@@Code
set_option linter.unusedVariables false
set_option linter.unusedSimpArgs false
namespace Jvm.Pilot.@@N@@
open Jvm Jvm.ClassFile Sem Op Lib Jvm.Free Jvm.Stand Jvm.LawKit Jvm.RoadKit Bundle Jvm.Pilot.@@N@@.Jvm.D
/-! a run from here comes to the end of the invocation, and Q holds there -/
section OwnWp
variable {p : Program} {l : Launch} {e : Env} {R : Room} {s : State} {m : MethodId} {args : Array Value} {below : List Frame} {meth : Method} {c : Code} {T : State} {locs : List Loc} {cells slots : Nat}
def Wp (p : Program) (e : Env) (below : List Frame) (Q : Outcome → State → Prop) (A : State) : Prop := ∃ s₂ o, Steps p.tables e below A s₂ ∧ s₂.status = .running ∧ Ended s₂ below o ∧ Q o s₂
def Out (s : State) (Q : Option Value → Heap → List Loc → Prop) (k n : Nat) (o : Outcome) (t : State) : Prop := ∃ v L, o = .returned v ∧ Q v t.heap L ∧ FrameEnd s o t L k n
theorem Wp.step {Q : Outcome → State → Prop} {A B : State} (h : ∀ t, Steps p.tables e below B t → Steps p.tables e below A t) (k : Wp p e below Q B) : Wp p e below Q A := by
  obtain ⟨s₂, o, h1, h2⟩ := k; exact ⟨s₂, o, h _ h1, h2⟩
theorem Wp.go {Q : Outcome → State → Prop} {A B : State} (h : Steps p.tables e below A B) (k : Wp p e below Q B) : Wp p e below Q A := Wp.step (fun _ q => h.trans q) k
theorem Wp.out (X : Stand p l e R s m args below meth c T locs cells slots) {A : State} {v : Option Value} {Q : Option Value → Heap → List Loc → Prop} {k n : Nat} (hv : meth.sig.returnType = none → v = none) (hlk : meth.locks = false)
    (hs : ∀ fs, (∀ (f : JFrame) (acts : List Action), f.method = m → f.locked = none → f.entered = [] → (doReturn e (T.setTop f) acts v).1 = T.setFrames fs) → Steps p.tables e below A (T.setFrames fs)) (hQ : Q v T.heap locs) (hk : cells ≤ k) (hn : slots ≤ n) : Wp p e below (Out s Q k n) A := by
  obtain ⟨fs, hr, hrun, hended, hW, hsame⟩ := X.leave (v := v) hv hlk
  exact ⟨_, _, hs fs hr, hrun, hended, _, _, rfl, hQ, ⟨_, rfl⟩, hW, hsame.mono hk hn⟩
theorem Wp.retV (X : Stand p l e R s m args below meth c T locs cells slots) (hx : p.tables.exec = Jvm.exec) {pc : Nat} {Ls : Array Slot} {Q : Option Value → Heap → List Loc → Prop} {k n : Nat} (hret : meth.sig.returnType = none) (hd : decode c.code pc = .ok (.return_, 1)) (hlk : meth.locks = false)
    (hQ : Q none T.heap locs) (hk : cells ≤ k) (hn : slots ≤ n) : Wp p e below (Out s Q k n) (T.setTop (mkF m pc Ls [])) := Wp.out X (fun _ => rfl) hlk (fun fs hr => X.returnOut hx hret hd hr) hQ hk hn
theorem Wp.retN (X : Stand p l e R s m args below meth c T locs cells slots) (hx : p.tables.exec = Jvm.exec) {pc : Nat} {Ls : Array Slot} {z : Int32} {rest : List Value} {t : FieldType} {Q : Option Value → Heap → List Loc → Prop} {k n : Nat} (hret : meth.sig.returnType = some t) (ht : t = .boolean ∨ t = .byte ∨ t = .char ∨ t = .short) (hd : decode c.code pc = .ok (.ireturn, 1)) (hlk : meth.locks = false)
    (hQ : Q (some (.int (nar t z))) T.heap locs) (hk : cells ≤ k) (hn : slots ≤ n) : Wp p e below (Out s Q k n) (T.setTop (mkF m pc Ls (.int z :: rest))) := Wp.out X (fun h => by rw [hret] at h; cases h) hlk (fun fs hr => Jvm.RoadKit.retN X hx hret ht hd hr) hQ hk hn
theorem Wp.retI (X : Stand p l e R s m args below meth c T locs cells slots) (hx : p.tables.exec = Jvm.exec) {pc : Nat} {Ls : Array Slot} {z : Int32} {rest : List Value} {Q : Option Value → Heap → List Loc → Prop} {k n : Nat} (hret : meth.sig.returnType = some .int) (hd : decode c.code pc = .ok (.ireturn, 1)) (hlk : meth.locks = false)
    (hQ : Q (some (.int z)) T.heap locs) (hk : cells ≤ k) (hn : slots ≤ n) : Wp p e below (Out s Q k n) (T.setTop (mkF m pc Ls (.int z :: rest))) := Wp.out X (fun h => by rw [hret] at h; cases h) hlk (fun fs hr => Jvm.RoadKit.retOut X hx hret rfl (Or.inl ⟨rfl, Or.inl rfl, z, rfl⟩) hd hr) hQ hk hn
theorem Wp.retJ (X : Stand p l e R s m args below meth c T locs cells slots) (hx : p.tables.exec = Jvm.exec) {pc : Nat} {Ls : Array Slot} {z : Int64} {rest : List Value} {Q : Option Value → Heap → List Loc → Prop} {k n : Nat} (hret : meth.sig.returnType = some .long) (hd : decode c.code pc = .ok (.lreturn, 1)) (hlk : meth.locks = false)
    (hQ : Q (some (.long z)) T.heap locs) (hk : cells ≤ k) (hn : slots ≤ n) : Wp p e below (Out s Q k n) (T.setTop (mkF m pc Ls (.long z :: rest))) := Wp.out X (fun h => by rw [hret] at h; cases h) hlk (fun fs hr => Jvm.RoadKit.retOut X hx hret rfl (Or.inr (Or.inl ⟨rfl, rfl, z, rfl⟩)) hd hr) hQ hk hn
theorem Wp.retA (X : Stand p l e R s m args below meth c T locs cells slots) (hx : p.tables.exec = Jvm.exec) {pc : Nat} {Ls : Array Slot} {w : Value} {rest : List Value} {t : FieldType} {Q : Option Value → Heap → List Loc → Prop} {k n : Nat} (hret : meth.sig.returnType = some t) (hw : w.isRef = true) (hd : decode c.code pc = .ok (.areturn, 1)) (hlk : meth.locks = false)
    (hQ : Q (some w) T.heap locs) (hk : cells ≤ k) (hn : slots ≤ n) (ht : t.isReference = true := by rfl) : Wp p e below (Out s Q k n) (T.setTop (mkF m pc Ls (w :: rest))) := Wp.out X (fun h => by rw [hret] at h; cases h) hlk (fun fs hr => Jvm.RoadKit.retOut X hx hret (by cases t <;> first | (cases ht; done) | (cases w <;> first | (cases hw; done) | rfl)) (Or.inr (Or.inr (Or.inr (Or.inr ⟨rfl, ht, hw⟩)))) hd hr) hQ hk hn
end OwnWp
theorem d2_0 : decode jdk_30_method_1_code 0 = .ok (.aload_n 0, 1) := by decide +kernel
theorem d2_1 : decode jdk_30_method_1_code 1 = .ok (.invokespecial 1, 3) := by decide +kernel
theorem d2_4 : decode jdk_30_method_1_code 4 = .ok (.return_, 1) := by decide +kernel
theorem pn_java_lang_Record : plainName "java/lang/Record" = true := by first | (simp [plainName, overriddenIn]; done) | decide +kernel
theorem ef_2_0 (m : MethodId) (x0 : Addr) : entryFrame m #[(.ref x0)] 1 = mkF m 0 #[.val (.ref x0)] [] := by first | (simp [entryFrame, mkF, argsToLocals, Value.category]; done) | rfl
def Q2 (Z : State) (d0 : Addr) (h0 : Heap) (n0 : Nat) (v : Option Value) (h : Heap) (L : List Loc) : Prop := v = none ∧ Fr n0 L ∧ h = h0
set_option maxRecDepth 65536 in
set_option maxHeartbeats 40000000 in
theorem rm2 (l : Launch) (Z : State) (a0 : Array Value) (hw : ∀ d ∈ tables_1, d.before a0 Z = true) (ws : List Jvm.Cond) (d0 : Addr) (h0 : Heap) (n0 : Nat) (Z0 : n0 ≤ h0.size) :
    MetFree l (⟨"java/lang/Record", "<init>", "()V"⟩ : MethodName) (head1 (Jvm.Cond.code (⟨"java/lang/Record", "<init>", "()V"⟩ : MethodName) jdk_30_method_1_code 1 none :: ws) ({ frames := 1, cells := 0, slots := 0, locals := 12 } : Room)) (fun a U => a = #[(.ref d0)] ∧ Z.Warmed39 U.vm ∧ U.heap = h0) (fun _ _ _ _ _ => True) (fun _ U o U' => ∃ v L, o = .returned v ∧ Q2 Z d0 h0 n0 v U'.heap L ∧ FrameEnd U o U' L ({ frames := 1, cells := 0, slots := 0, locals := 12 } : Room).cells ({ frames := 1, cells := 0, slots := 0, locals := 12 } : Room).slots) := by
  refine MetFree.of_bodySF (plainFor_of_name pn_java_lang_Record) hisR ?_
  intro p e s m args below meth c s₁ Bd hml0 hP hK
  obtain ⟨rfl, hZ, hh⟩ := hP
  have hx := Bd.exec
  have hby := Bd.bytes
  have hlk : meth.locks = false := Bd.notSynchronized
  have hml : c.maxLocals = 1 := hml0
  have hown : s.vm.findClass "java/lang/Record" = some m.cls := findClass_of_methodNamed Bd.named
  have hnm := (name_of_methodNamed Bd.named Bd.method).1
  have X0 : Stand p l e ({ frames := 1, cells := 0, slots := 0, locals := 12 } : Room) s m #[(.ref d0)] below meth c s₁ [] 0 0 := Stand.of_body Bd
  have e0 : s₁.heap = h0 := by rw [← hh, Bd.state]; rfl
  have N0 := Fr.nil n0
  have K0 : Keep h0 h0 [] := Keep.refl h0 _
  show Wp p e below (Out s (Q2 Z d0 h0 n0) ({ frames := 1, cells := 0, slots := 0, locals := 12 } : Room).cells ({ frames := 1, cells := 0, slots := 0, locals := 12 } : Room).slots) (s₁.setTop (entryFrame m #[(.ref d0)] 1))
  rw [ef_2_0]
  show Wp p e below _ (s₁.setTop (mkF m 0 #[.val (.ref d0)] []))
  refine Wp.step (fun t k => XS.aloadN X0.here hx rfl (hb hby d2_0) rfl rfl k) ?_
  show Wp p e below _ (s₁.setTop (mkF m 1 #[.val (.ref d0)] [(.ref d0)]))
  obtain ⟨T1, X1, e1, st1⟩ := initO X0 hx hZ hown (hw _ (List.mem_of_getElem? (i := 11) rfl)) (hw _ (List.mem_of_getElem? (i := 12) rfl)) (hw _ (List.mem_of_getElem? (i := 13) rfl)) e0 (g := (mkF m 1 #[.val (.ref d0)] [(.ref d0)])) rfl (by rw [hml]; rfl) rfl (hb hby d2_1) (by decide) (W := 0) (by show 2 * 0 + _ ≤ _; exact Nat.le_of_eq rfl) (by decide)
  refine Wp.step st1 ?_
  show Wp p e below _ (T1.setTop (mkF m 4 #[.val (.ref d0)] []))
  refine Wp.retV X1 hx Bd.returns (hb hby d2_4) hlk ?_ (by decide) (by decide)
  show Q2 Z d0 h0 n0 none T1.heap _
  rw [e1]
  exact ⟨rfl, N0, rfl⟩
theorem pd_2829V : parseMethodDescriptor "()V" = some ⟨[], none⟩ := by decide +kernel
theorem d1_0 : decode prog_207_method_1_code 0 = .ok (.aload_n 0, 1) := by decide +kernel
theorem d1_1 : decode prog_207_method_1_code 1 = .ok (.invokespecial 1, 3) := by decide +kernel
theorem d1_4 : decode prog_207_method_1_code 4 = .ok (.aload_n 0, 1) := by decide +kernel
theorem d1_5 : decode prog_207_method_1_code 5 = .ok (.lload_n 1, 1) := by decide +kernel
theorem d1_6 : decode prog_207_method_1_code 6 = .ok (.putfield 7, 3) := by decide +kernel
theorem d1_9 : decode prog_207_method_1_code 9 = .ok (.aload_n 0, 1) := by decide +kernel
theorem d1_10 : decode prog_207_method_1_code 10 = .ok (.lload_n 3, 1) := by decide +kernel
theorem d1_11 : decode prog_207_method_1_code 11 = .ok (.putfield 13, 3) := by decide +kernel
theorem d1_14 : decode prog_207_method_1_code 14 = .ok (.aload_n 0, 1) := by decide +kernel
theorem d1_15 : decode prog_207_method_1_code 15 = .ok (.lload 5, 2) := by decide +kernel
theorem d1_17 : decode prog_207_method_1_code 17 = .ok (.putfield 16, 3) := by decide +kernel
theorem d1_20 : decode prog_207_method_1_code 20 = .ok (.aload_n 0, 1) := by decide +kernel
theorem d1_21 : decode prog_207_method_1_code 21 = .ok (.lload 7, 2) := by decide +kernel
theorem d1_23 : decode prog_207_method_1_code 23 = .ok (.putfield 19, 3) := by decide +kernel
theorem d1_26 : decode prog_207_method_1_code 26 = .ok (.aload_n 0, 1) := by decide +kernel
theorem d1_27 : decode prog_207_method_1_code 27 = .ok (.lload 9, 2) := by decide +kernel
theorem d1_29 : decode prog_207_method_1_code 29 = .ok (.putfield 22, 3) := by decide +kernel
theorem d1_32 : decode prog_207_method_1_code 32 = .ok (.aload_n 0, 1) := by decide +kernel
theorem d1_33 : decode prog_207_method_1_code 33 = .ok (.lload 11, 2) := by decide +kernel
theorem d1_35 : decode prog_207_method_1_code 35 = .ok (.putfield 25, 3) := by decide +kernel
theorem d1_38 : decode prog_207_method_1_code 38 = .ok (.aload_n 0, 1) := by decide +kernel
theorem d1_39 : decode prog_207_method_1_code 39 = .ok (.lload 13, 2) := by decide +kernel
theorem d1_41 : decode prog_207_method_1_code 41 = .ok (.putfield 28, 3) := by decide +kernel
theorem d1_44 : decode prog_207_method_1_code 44 = .ok (.aload_n 0, 1) := by decide +kernel
theorem d1_45 : decode prog_207_method_1_code 45 = .ok (.lload 15, 2) := by decide +kernel
theorem d1_47 : decode prog_207_method_1_code 47 = .ok (.putfield 31, 3) := by decide +kernel
theorem d1_50 : decode prog_207_method_1_code 50 = .ok (.return_, 1) := by decide +kernel
theorem pn_com_example_graphloom_graphloom_engine_graph_SideEffects : plainName "com/example/graphloom/graphloom/engine/graph/SideEffects" = true := by first | (simp [plainName, overriddenIn]; done) | decide +kernel
theorem ef_1_000000000 (m : MethodId) (x0 : Addr) (x1 : Int64) (x2 : Int64) (x3 : Int64) (x4 : Int64) (x5 : Int64) (x6 : Int64) (x7 : Int64) (x8 : Int64) : entryFrame m #[(.ref x0), (.long x1), (.long x2), (.long x3), (.long x4), (.long x5), (.long x6), (.long x7), (.long x8)] 17 = mkF m 0 #[.val (.ref x0), .val (.long x1), .second, .val (.long x2), .second, .val (.long x3), .second, .val (.long x4), .second, .val (.long x5), .second, .val (.long x6), .second, .val (.long x7), .second, .val (.long x8), .second] [] := by first | (simp [entryFrame, mkF, argsToLocals, Value.category]; done) | rfl
def Q1 (Z : State) (d0 : Addr) (u0 : Int64) (u1 : Int64) (u2 : Int64) (u3 : Int64) (u4 : Int64) (u5 : Int64) (u6 : Int64) (u7 : Int64) (h0 : Heap) (n0 : Nat) (v : Option Value) (h : Heap) (L : List Loc) : Prop := v = none ∧ Fr n0 L ∧ Keep h0 h [d0] ∧ Exa Z h d0 "com/example/graphloom/graphloom/engine/graph/SideEffects" ∧ Fld Z h d0 "com/example/graphloom/graphloom/engine/graph/SideEffects" "nodesCreated" "J" (.long u0) ∧ Fld Z h d0 "com/example/graphloom/graphloom/engine/graph/SideEffects" "nodesDeleted" "J" (.long u1) ∧ Fld Z h d0 "com/example/graphloom/graphloom/engine/graph/SideEffects" "relationshipsCreated" "J" (.long u2) ∧ Fld Z h d0 "com/example/graphloom/graphloom/engine/graph/SideEffects" "relationshipsDeleted" "J" (.long u3) ∧ Fld Z h d0 "com/example/graphloom/graphloom/engine/graph/SideEffects" "labelsAdded" "J" (.long u4) ∧ Fld Z h d0 "com/example/graphloom/graphloom/engine/graph/SideEffects" "labelsRemoved" "J" (.long u5) ∧ Fld Z h d0 "com/example/graphloom/graphloom/engine/graph/SideEffects" "propertiesSet" "J" (.long u6) ∧ Fld Z h d0 "com/example/graphloom/graphloom/engine/graph/SideEffects" "propertiesRemoved" "J" (.long u7)
set_option maxRecDepth 65536 in
set_option maxHeartbeats 40000000 in
theorem rm1 (l : Launch) (Z : State) (a0 : Array Value) (hw : ∀ d ∈ tables_1, d.before a0 Z = true) (ws : List Jvm.Cond) (d0 : Addr) (u0 : Int64) (u1 : Int64) (u2 : Int64) (u3 : Int64) (u4 : Int64) (u5 : Int64) (u6 : Int64) (u7 : Int64) (h0 : Heap) (n0 : Nat) (Z0 : n0 ≤ h0.size) (g_d0 : n0 ≤ d0) (E_d0 : Exa Z h0 d0 "com/example/graphloom/graphloom/engine/graph/SideEffects") (F_nodesCreated_d0 : Fld Z h0 d0 "com/example/graphloom/graphloom/engine/graph/SideEffects" "nodesCreated" "J" (.long (0 : Int64))) (F_nodesDeleted_d0 : Fld Z h0 d0 "com/example/graphloom/graphloom/engine/graph/SideEffects" "nodesDeleted" "J" (.long (0 : Int64))) (F_relationshipsCreated_d0 : Fld Z h0 d0 "com/example/graphloom/graphloom/engine/graph/SideEffects" "relationshipsCreated" "J" (.long (0 : Int64))) (F_relationshipsDeleted_d0 : Fld Z h0 d0 "com/example/graphloom/graphloom/engine/graph/SideEffects" "relationshipsDeleted" "J" (.long (0 : Int64))) (F_labelsAdded_d0 : Fld Z h0 d0 "com/example/graphloom/graphloom/engine/graph/SideEffects" "labelsAdded" "J" (.long (0 : Int64))) (F_labelsRemoved_d0 : Fld Z h0 d0 "com/example/graphloom/graphloom/engine/graph/SideEffects" "labelsRemoved" "J" (.long (0 : Int64))) (F_propertiesSet_d0 : Fld Z h0 d0 "com/example/graphloom/graphloom/engine/graph/SideEffects" "propertiesSet" "J" (.long (0 : Int64))) (F_propertiesRemoved_d0 : Fld Z h0 d0 "com/example/graphloom/graphloom/engine/graph/SideEffects" "propertiesRemoved" "J" (.long (0 : Int64))) :
    MetFree l (⟨"com/example/graphloom/graphloom/engine/graph/SideEffects", "<init>", "(JJJJJJJJ)V"⟩ : MethodName) (head1 (Jvm.Cond.code (⟨"com/example/graphloom/graphloom/engine/graph/SideEffects", "<init>", "(JJJJJJJJ)V"⟩ : MethodName) prog_207_method_1_code 17 none :: ws) ({ frames := 2, cells := 0, slots := 0, locals := 24 } : Room)) (fun a U => a = #[(.ref d0), (.long u0), (.long u1), (.long u2), (.long u3), (.long u4), (.long u5), (.long u6), (.long u7)] ∧ Z.Warmed39 U.vm ∧ U.heap = h0) (fun _ _ _ _ _ => True) (fun _ U o U' => ∃ v L, o = .returned v ∧ Q1 Z d0 u0 u1 u2 u3 u4 u5 u6 u7 h0 n0 v U'.heap L ∧ FrameEnd U o U' L ({ frames := 2, cells := 0, slots := 0, locals := 24 } : Room).cells ({ frames := 2, cells := 0, slots := 0, locals := 24 } : Room).slots) := by
  refine MetFree.of_bodySF (plainFor_of_name pn_com_example_graphloom_graphloom_engine_graph_SideEffects) hisR ?_
  intro p e s m args below meth c s₁ Bd hml0 hP hK
  obtain ⟨rfl, hZ, hh⟩ := hP
  have hx := Bd.exec
  have hby := Bd.bytes
  have hlk : meth.locks = false := Bd.notSynchronized
  have hml : c.maxLocals = 17 := hml0
  have hown : s.vm.findClass "com/example/graphloom/graphloom/engine/graph/SideEffects" = some m.cls := findClass_of_methodNamed Bd.named
  have hnm := (name_of_methodNamed Bd.named Bd.method).1
  have X0 : Stand p l e ({ frames := 2, cells := 0, slots := 0, locals := 24 } : Room) s m #[(.ref d0), (.long u0), (.long u1), (.long u2), (.long u3), (.long u4), (.long u5), (.long u6), (.long u7)] below meth c s₁ [] 0 0 := Stand.of_body Bd
  have e0 : s₁.heap = h0 := by rw [← hh, Bd.state]; rfl
  have N0 := Fr.nil n0
  have K0 : Keep h0 h0 [d0] := Keep.refl h0 _
  show Wp p e below (Out s (Q1 Z d0 u0 u1 u2 u3 u4 u5 u6 u7 h0 n0) ({ frames := 2, cells := 0, slots := 0, locals := 24 } : Room).cells ({ frames := 2, cells := 0, slots := 0, locals := 24 } : Room).slots) (s₁.setTop (entryFrame m #[(.ref d0), (.long u0), (.long u1), (.long u2), (.long u3), (.long u4), (.long u5), (.long u6), (.long u7)] 17))
  rw [ef_1_000000000]
  show Wp p e below _ (s₁.setTop (mkF m 0 #[.val (.ref d0), .val (.long u0), .second, .val (.long u1), .second, .val (.long u2), .second, .val (.long u3), .second, .val (.long u4), .second, .val (.long u5), .second, .val (.long u6), .second, .val (.long u7), .second] []))
  refine Wp.step (fun t k => XS.aloadN X0.here hx rfl (hb hby d1_0) rfl rfl k) ?_
  show Wp p e below _ (s₁.setTop (mkF m 1 #[.val (.ref d0), .val (.long u0), .second, .val (.long u1), .second, .val (.long u2), .second, .val (.long u3), .second, .val (.long u4), .second, .val (.long u5), .second, .val (.long u6), .second, .val (.long u7), .second] [(.ref d0)]))
  obtain ⟨_, _, ⟨T1, L1, k1, n1⟩, -, X1, ⟨Lc1, hQ1, l1, y1, z1⟩, st1⟩ := X0.specialBack hx (y := (⟨"java/lang/Record", "<init>", "()V"⟩ : MethodName)) rfl hown (mvT hZ (hw _ (List.mem_of_getElem? (i := 6) rfl))) (mvT hZ (hw _ (List.mem_of_getElem? (i := 7) rfl))) (mvT hZ (hw _ (List.mem_of_getElem? (i := 10) rfl))) (by decide) (backOf (W := 0) (rm2 l Z a0 hw [] d0 h0 n0 (Nat.le_trans Z0 K0.1)) hZ (hw _ (List.mem_of_getElem? (i := 10) rfl)) (hw _ (List.mem_of_getElem? (i := 9) rfl)) (by decide) (by decide)) (g := (mkF m 1 #[.val (.ref d0), .val (.long u0), .second, .val (.long u1), .second, .val (.long u2), .second, .val (.long u3), .second, .val (.long u4), .second, .val (.long u5), .second, .val (.long u6), .second, .val (.long u7), .second] [(.ref d0)])) rfl (by rw [hml]; rfl) (Steps.refl _) (a := d0) (argsL := []) (rest := []) (lenOf pd_2829V rfl) rfl (by show 2 * 0 + _ ≤ _; exact Nat.le_of_eq rfl) (hb hby d1_1) (fun _ _ => ⟨rfl, e0, (by decide : 0 + 0 ≤ _), (by decide : 0 + 0 ≤ _)⟩)
  dsimp only [Pt.U, Pt.locs, Pt.cells, Pt.slots] at X1 l1 y1 z1 st1 hQ1
  subst l1 y1 z1
  obtain ⟨rfl, N1q, e1⟩ := hQ1
  have N1 := Fr.app N0 N1q
  refine Wp.go st1 ?_
  show Wp p e below _ (T1.setTop (mkF m 4 #[.val (.ref d0), .val (.long u0), .second, .val (.long u1), .second, .val (.long u2), .second, .val (.long u3), .second, .val (.long u4), .second, .val (.long u5), .second, .val (.long u6), .second, .val (.long u7), .second] []))
  refine Wp.step (fun t k => XS.aloadN X1.here hx rfl (hb hby d1_4) rfl rfl k) ?_
  show Wp p e below _ (T1.setTop (mkF m 5 #[.val (.ref d0), .val (.long u0), .second, .val (.long u1), .second, .val (.long u2), .second, .val (.long u3), .second, .val (.long u4), .second, .val (.long u5), .second, .val (.long u6), .second, .val (.long u7), .second] [(.ref d0)]))
  refine Wp.step (fun t k => XS.lloadN X1.here hx rfl (hb hby d1_5) rfl k) ?_
  show Wp p e below _ (T1.setTop (mkF m 6 #[.val (.ref d0), .val (.long u0), .second, .val (.long u1), .second, .val (.long u2), .second, .val (.long u3), .second, .val (.long u4), .second, .val (.long u5), .second, .val (.long u6), .second, .val (.long u7), .second] [(.long u0), (.ref d0)]))
  obtain ⟨T2, h2, X2, e2, W2, st2⟩ := putF X1 hx hZ hown (host := "") (Or.inl (hw _ (List.mem_of_getElem? (i := 14) rfl))) Via.refl e1 F_nodesCreated_d0 E_d0 (Or.inr ⟨(hw _ (List.mem_of_getElem? (i := 15) rfl)), rfl, hnm⟩) (hw _ (List.mem_of_getElem? (i := 1) rfl)) (ty := .long) (by decide) rfl rfl (g := (mkF m 6 #[.val (.ref d0), .val (.long u0), .second, .val (.long u1), .second, .val (.long u2), .second, .val (.long u3), .second, .val (.long u4), .second, .val (.long u5), .second, .val (.long u6), .second, .val (.long u7), .second] [(.long u0), (.ref d0)])) rfl rfl (hb hby d1_6)
  have c3 := E_d0.wr W2
  have c4 := F_nodesDeleted_d0.other W2 (Or.inr (slot_ne (Or.inr (hw _ (List.mem_of_getElem? (i := 17) rfl))) (Or.inr (hw _ (List.mem_of_getElem? (i := 15) rfl))) (by decide) (t := .long) (t' := .long) (by decide) (by decide)))
  have c5 := F_relationshipsCreated_d0.other W2 (Or.inr (slot_ne (Or.inr (hw _ (List.mem_of_getElem? (i := 19) rfl))) (Or.inr (hw _ (List.mem_of_getElem? (i := 15) rfl))) (by decide) (t := .long) (t' := .long) (by decide) (by decide)))
  have c6 := F_relationshipsDeleted_d0.other W2 (Or.inr (slot_ne (Or.inr (hw _ (List.mem_of_getElem? (i := 21) rfl))) (Or.inr (hw _ (List.mem_of_getElem? (i := 15) rfl))) (by decide) (t := .long) (t' := .long) (by decide) (by decide)))
  have c7 := F_labelsAdded_d0.other W2 (Or.inr (slot_ne (Or.inr (hw _ (List.mem_of_getElem? (i := 23) rfl))) (Or.inr (hw _ (List.mem_of_getElem? (i := 15) rfl))) (by decide) (t := .long) (t' := .long) (by decide) (by decide)))
  have c8 := F_labelsRemoved_d0.other W2 (Or.inr (slot_ne (Or.inr (hw _ (List.mem_of_getElem? (i := 25) rfl))) (Or.inr (hw _ (List.mem_of_getElem? (i := 15) rfl))) (by decide) (t := .long) (t' := .long) (by decide) (by decide)))
  have c9 := F_propertiesSet_d0.other W2 (Or.inr (slot_ne (Or.inr (hw _ (List.mem_of_getElem? (i := 27) rfl))) (Or.inr (hw _ (List.mem_of_getElem? (i := 15) rfl))) (by decide) (t := .long) (t' := .long) (by decide) (by decide)))
  have c10 := F_propertiesRemoved_d0.other W2 (Or.inr (slot_ne (Or.inr (hw _ (List.mem_of_getElem? (i := 29) rfl))) (Or.inr (hw _ (List.mem_of_getElem? (i := 15) rfl))) (by decide) (t := .long) (t' := .long) (by decide) (by decide)))
  have c11 := F_nodesCreated_d0.same W2
  have K12 := K0.wr W2 (Or.inl (List.mem_of_getElem? (i := 0) rfl))
  have N2 := Fr.snoc X2 N1 g_d0
  refine Wp.step st2 ?_
  show Wp p e below _ (T2.setTop (mkF m 9 #[.val (.ref d0), .val (.long u0), .second, .val (.long u1), .second, .val (.long u2), .second, .val (.long u3), .second, .val (.long u4), .second, .val (.long u5), .second, .val (.long u6), .second, .val (.long u7), .second] []))
  refine Wp.step (fun t k => XS.aloadN X2.here hx rfl (hb hby d1_9) rfl rfl k) ?_
  show Wp p e below _ (T2.setTop (mkF m 10 #[.val (.ref d0), .val (.long u0), .second, .val (.long u1), .second, .val (.long u2), .second, .val (.long u3), .second, .val (.long u4), .second, .val (.long u5), .second, .val (.long u6), .second, .val (.long u7), .second] [(.ref d0)]))
  refine Wp.step (fun t k => XS.lloadN X2.here hx rfl (hb hby d1_10) rfl k) ?_
  show Wp p e below _ (T2.setTop (mkF m 11 #[.val (.ref d0), .val (.long u0), .second, .val (.long u1), .second, .val (.long u2), .second, .val (.long u3), .second, .val (.long u4), .second, .val (.long u5), .second, .val (.long u6), .second, .val (.long u7), .second] [(.long u1), (.ref d0)]))
  obtain ⟨T13, h13, X13, e13, W13, st13⟩ := putF X2 hx hZ hown (host := "") (Or.inl (hw _ (List.mem_of_getElem? (i := 16) rfl))) Via.refl e2 c4 c3 (Or.inr ⟨(hw _ (List.mem_of_getElem? (i := 17) rfl)), rfl, hnm⟩) (hw _ (List.mem_of_getElem? (i := 1) rfl)) (ty := .long) (by decide) rfl rfl (g := (mkF m 11 #[.val (.ref d0), .val (.long u0), .second, .val (.long u1), .second, .val (.long u2), .second, .val (.long u3), .second, .val (.long u4), .second, .val (.long u5), .second, .val (.long u6), .second, .val (.long u7), .second] [(.long u1), (.ref d0)])) rfl rfl (hb hby d1_11)
  have c14 := c3.wr W13
  have c15 := c11.other W13 (Or.inr (slot_ne (Or.inr (hw _ (List.mem_of_getElem? (i := 15) rfl))) (Or.inr (hw _ (List.mem_of_getElem? (i := 17) rfl))) (by decide) (t := .long) (t' := .long) (by decide) (by decide)))
  have c16 := c5.other W13 (Or.inr (slot_ne (Or.inr (hw _ (List.mem_of_getElem? (i := 19) rfl))) (Or.inr (hw _ (List.mem_of_getElem? (i := 17) rfl))) (by decide) (t := .long) (t' := .long) (by decide) (by decide)))
  have c17 := c6.other W13 (Or.inr (slot_ne (Or.inr (hw _ (List.mem_of_getElem? (i := 21) rfl))) (Or.inr (hw _ (List.mem_of_getElem? (i := 17) rfl))) (by decide) (t := .long) (t' := .long) (by decide) (by decide)))
  have c18 := c7.other W13 (Or.inr (slot_ne (Or.inr (hw _ (List.mem_of_getElem? (i := 23) rfl))) (Or.inr (hw _ (List.mem_of_getElem? (i := 17) rfl))) (by decide) (t := .long) (t' := .long) (by decide) (by decide)))
  have c19 := c8.other W13 (Or.inr (slot_ne (Or.inr (hw _ (List.mem_of_getElem? (i := 25) rfl))) (Or.inr (hw _ (List.mem_of_getElem? (i := 17) rfl))) (by decide) (t := .long) (t' := .long) (by decide) (by decide)))
  have c20 := c9.other W13 (Or.inr (slot_ne (Or.inr (hw _ (List.mem_of_getElem? (i := 27) rfl))) (Or.inr (hw _ (List.mem_of_getElem? (i := 17) rfl))) (by decide) (t := .long) (t' := .long) (by decide) (by decide)))
  have c21 := c10.other W13 (Or.inr (slot_ne (Or.inr (hw _ (List.mem_of_getElem? (i := 29) rfl))) (Or.inr (hw _ (List.mem_of_getElem? (i := 17) rfl))) (by decide) (t := .long) (t' := .long) (by decide) (by decide)))
  have c22 := c4.same W13
  have K23 := K12.wr W13 (Or.inl (List.mem_of_getElem? (i := 0) rfl))
  have N13 := Fr.snoc X13 N2 g_d0
  refine Wp.step st13 ?_
  show Wp p e below _ (T13.setTop (mkF m 14 #[.val (.ref d0), .val (.long u0), .second, .val (.long u1), .second, .val (.long u2), .second, .val (.long u3), .second, .val (.long u4), .second, .val (.long u5), .second, .val (.long u6), .second, .val (.long u7), .second] []))
  refine Wp.step (fun t k => XS.aloadN X13.here hx rfl (hb hby d1_14) rfl rfl k) ?_
  show Wp p e below _ (T13.setTop (mkF m 15 #[.val (.ref d0), .val (.long u0), .second, .val (.long u1), .second, .val (.long u2), .second, .val (.long u3), .second, .val (.long u4), .second, .val (.long u5), .second, .val (.long u6), .second, .val (.long u7), .second] [(.ref d0)]))
  refine Wp.step (fun t k => XS.lload X13.here hx rfl (hb hby d1_15) rfl k) ?_
  show Wp p e below _ (T13.setTop (mkF m 17 #[.val (.ref d0), .val (.long u0), .second, .val (.long u1), .second, .val (.long u2), .second, .val (.long u3), .second, .val (.long u4), .second, .val (.long u5), .second, .val (.long u6), .second, .val (.long u7), .second] [(.long u2), (.ref d0)]))
  obtain ⟨T24, h24, X24, e24, W24, st24⟩ := putF X13 hx hZ hown (host := "") (Or.inl (hw _ (List.mem_of_getElem? (i := 18) rfl))) Via.refl e13 c16 c14 (Or.inr ⟨(hw _ (List.mem_of_getElem? (i := 19) rfl)), rfl, hnm⟩) (hw _ (List.mem_of_getElem? (i := 1) rfl)) (ty := .long) (by decide) rfl rfl (g := (mkF m 17 #[.val (.ref d0), .val (.long u0), .second, .val (.long u1), .second, .val (.long u2), .second, .val (.long u3), .second, .val (.long u4), .second, .val (.long u5), .second, .val (.long u6), .second, .val (.long u7), .second] [(.long u2), (.ref d0)])) rfl rfl (hb hby d1_17)
  have c25 := c14.wr W24
  have c26 := c15.other W24 (Or.inr (slot_ne (Or.inr (hw _ (List.mem_of_getElem? (i := 15) rfl))) (Or.inr (hw _ (List.mem_of_getElem? (i := 19) rfl))) (by decide) (t := .long) (t' := .long) (by decide) (by decide)))
  have c27 := c22.other W24 (Or.inr (slot_ne (Or.inr (hw _ (List.mem_of_getElem? (i := 17) rfl))) (Or.inr (hw _ (List.mem_of_getElem? (i := 19) rfl))) (by decide) (t := .long) (t' := .long) (by decide) (by decide)))
  have c28 := c17.other W24 (Or.inr (slot_ne (Or.inr (hw _ (List.mem_of_getElem? (i := 21) rfl))) (Or.inr (hw _ (List.mem_of_getElem? (i := 19) rfl))) (by decide) (t := .long) (t' := .long) (by decide) (by decide)))
  have c29 := c18.other W24 (Or.inr (slot_ne (Or.inr (hw _ (List.mem_of_getElem? (i := 23) rfl))) (Or.inr (hw _ (List.mem_of_getElem? (i := 19) rfl))) (by decide) (t := .long) (t' := .long) (by decide) (by decide)))
  have c30 := c19.other W24 (Or.inr (slot_ne (Or.inr (hw _ (List.mem_of_getElem? (i := 25) rfl))) (Or.inr (hw _ (List.mem_of_getElem? (i := 19) rfl))) (by decide) (t := .long) (t' := .long) (by decide) (by decide)))
  have c31 := c20.other W24 (Or.inr (slot_ne (Or.inr (hw _ (List.mem_of_getElem? (i := 27) rfl))) (Or.inr (hw _ (List.mem_of_getElem? (i := 19) rfl))) (by decide) (t := .long) (t' := .long) (by decide) (by decide)))
  have c32 := c21.other W24 (Or.inr (slot_ne (Or.inr (hw _ (List.mem_of_getElem? (i := 29) rfl))) (Or.inr (hw _ (List.mem_of_getElem? (i := 19) rfl))) (by decide) (t := .long) (t' := .long) (by decide) (by decide)))
  have c33 := c16.same W24
  have K34 := K23.wr W24 (Or.inl (List.mem_of_getElem? (i := 0) rfl))
  have N24 := Fr.snoc X24 N13 g_d0
  refine Wp.step st24 ?_
  show Wp p e below _ (T24.setTop (mkF m 20 #[.val (.ref d0), .val (.long u0), .second, .val (.long u1), .second, .val (.long u2), .second, .val (.long u3), .second, .val (.long u4), .second, .val (.long u5), .second, .val (.long u6), .second, .val (.long u7), .second] []))
  refine Wp.step (fun t k => XS.aloadN X24.here hx rfl (hb hby d1_20) rfl rfl k) ?_
  show Wp p e below _ (T24.setTop (mkF m 21 #[.val (.ref d0), .val (.long u0), .second, .val (.long u1), .second, .val (.long u2), .second, .val (.long u3), .second, .val (.long u4), .second, .val (.long u5), .second, .val (.long u6), .second, .val (.long u7), .second] [(.ref d0)]))
  refine Wp.step (fun t k => XS.lload X24.here hx rfl (hb hby d1_21) rfl k) ?_
  show Wp p e below _ (T24.setTop (mkF m 23 #[.val (.ref d0), .val (.long u0), .second, .val (.long u1), .second, .val (.long u2), .second, .val (.long u3), .second, .val (.long u4), .second, .val (.long u5), .second, .val (.long u6), .second, .val (.long u7), .second] [(.long u3), (.ref d0)]))
  obtain ⟨T35, h35, X35, e35, W35, st35⟩ := putF X24 hx hZ hown (host := "") (Or.inl (hw _ (List.mem_of_getElem? (i := 20) rfl))) Via.refl e24 c28 c25 (Or.inr ⟨(hw _ (List.mem_of_getElem? (i := 21) rfl)), rfl, hnm⟩) (hw _ (List.mem_of_getElem? (i := 1) rfl)) (ty := .long) (by decide) rfl rfl (g := (mkF m 23 #[.val (.ref d0), .val (.long u0), .second, .val (.long u1), .second, .val (.long u2), .second, .val (.long u3), .second, .val (.long u4), .second, .val (.long u5), .second, .val (.long u6), .second, .val (.long u7), .second] [(.long u3), (.ref d0)])) rfl rfl (hb hby d1_23)
  have c36 := c25.wr W35
  have c37 := c26.other W35 (Or.inr (slot_ne (Or.inr (hw _ (List.mem_of_getElem? (i := 15) rfl))) (Or.inr (hw _ (List.mem_of_getElem? (i := 21) rfl))) (by decide) (t := .long) (t' := .long) (by decide) (by decide)))
  have c38 := c27.other W35 (Or.inr (slot_ne (Or.inr (hw _ (List.mem_of_getElem? (i := 17) rfl))) (Or.inr (hw _ (List.mem_of_getElem? (i := 21) rfl))) (by decide) (t := .long) (t' := .long) (by decide) (by decide)))
  have c39 := c33.other W35 (Or.inr (slot_ne (Or.inr (hw _ (List.mem_of_getElem? (i := 19) rfl))) (Or.inr (hw _ (List.mem_of_getElem? (i := 21) rfl))) (by decide) (t := .long) (t' := .long) (by decide) (by decide)))
  have c40 := c29.other W35 (Or.inr (slot_ne (Or.inr (hw _ (List.mem_of_getElem? (i := 23) rfl))) (Or.inr (hw _ (List.mem_of_getElem? (i := 21) rfl))) (by decide) (t := .long) (t' := .long) (by decide) (by decide)))
  have c41 := c30.other W35 (Or.inr (slot_ne (Or.inr (hw _ (List.mem_of_getElem? (i := 25) rfl))) (Or.inr (hw _ (List.mem_of_getElem? (i := 21) rfl))) (by decide) (t := .long) (t' := .long) (by decide) (by decide)))
  have c42 := c31.other W35 (Or.inr (slot_ne (Or.inr (hw _ (List.mem_of_getElem? (i := 27) rfl))) (Or.inr (hw _ (List.mem_of_getElem? (i := 21) rfl))) (by decide) (t := .long) (t' := .long) (by decide) (by decide)))
  have c43 := c32.other W35 (Or.inr (slot_ne (Or.inr (hw _ (List.mem_of_getElem? (i := 29) rfl))) (Or.inr (hw _ (List.mem_of_getElem? (i := 21) rfl))) (by decide) (t := .long) (t' := .long) (by decide) (by decide)))
  have c44 := c28.same W35
  have K45 := K34.wr W35 (Or.inl (List.mem_of_getElem? (i := 0) rfl))
  have N35 := Fr.snoc X35 N24 g_d0
  refine Wp.step st35 ?_
  show Wp p e below _ (T35.setTop (mkF m 26 #[.val (.ref d0), .val (.long u0), .second, .val (.long u1), .second, .val (.long u2), .second, .val (.long u3), .second, .val (.long u4), .second, .val (.long u5), .second, .val (.long u6), .second, .val (.long u7), .second] []))
  refine Wp.step (fun t k => XS.aloadN X35.here hx rfl (hb hby d1_26) rfl rfl k) ?_
  show Wp p e below _ (T35.setTop (mkF m 27 #[.val (.ref d0), .val (.long u0), .second, .val (.long u1), .second, .val (.long u2), .second, .val (.long u3), .second, .val (.long u4), .second, .val (.long u5), .second, .val (.long u6), .second, .val (.long u7), .second] [(.ref d0)]))
  refine Wp.step (fun t k => XS.lload X35.here hx rfl (hb hby d1_27) rfl k) ?_
  show Wp p e below _ (T35.setTop (mkF m 29 #[.val (.ref d0), .val (.long u0), .second, .val (.long u1), .second, .val (.long u2), .second, .val (.long u3), .second, .val (.long u4), .second, .val (.long u5), .second, .val (.long u6), .second, .val (.long u7), .second] [(.long u4), (.ref d0)]))
  obtain ⟨T46, h46, X46, e46, W46, st46⟩ := putF X35 hx hZ hown (host := "") (Or.inl (hw _ (List.mem_of_getElem? (i := 22) rfl))) Via.refl e35 c40 c36 (Or.inr ⟨(hw _ (List.mem_of_getElem? (i := 23) rfl)), rfl, hnm⟩) (hw _ (List.mem_of_getElem? (i := 1) rfl)) (ty := .long) (by decide) rfl rfl (g := (mkF m 29 #[.val (.ref d0), .val (.long u0), .second, .val (.long u1), .second, .val (.long u2), .second, .val (.long u3), .second, .val (.long u4), .second, .val (.long u5), .second, .val (.long u6), .second, .val (.long u7), .second] [(.long u4), (.ref d0)])) rfl rfl (hb hby d1_29)
  have c47 := c36.wr W46
  have c48 := c37.other W46 (Or.inr (slot_ne (Or.inr (hw _ (List.mem_of_getElem? (i := 15) rfl))) (Or.inr (hw _ (List.mem_of_getElem? (i := 23) rfl))) (by decide) (t := .long) (t' := .long) (by decide) (by decide)))
  have c49 := c38.other W46 (Or.inr (slot_ne (Or.inr (hw _ (List.mem_of_getElem? (i := 17) rfl))) (Or.inr (hw _ (List.mem_of_getElem? (i := 23) rfl))) (by decide) (t := .long) (t' := .long) (by decide) (by decide)))
  have c50 := c39.other W46 (Or.inr (slot_ne (Or.inr (hw _ (List.mem_of_getElem? (i := 19) rfl))) (Or.inr (hw _ (List.mem_of_getElem? (i := 23) rfl))) (by decide) (t := .long) (t' := .long) (by decide) (by decide)))
  have c51 := c44.other W46 (Or.inr (slot_ne (Or.inr (hw _ (List.mem_of_getElem? (i := 21) rfl))) (Or.inr (hw _ (List.mem_of_getElem? (i := 23) rfl))) (by decide) (t := .long) (t' := .long) (by decide) (by decide)))
  have c52 := c41.other W46 (Or.inr (slot_ne (Or.inr (hw _ (List.mem_of_getElem? (i := 25) rfl))) (Or.inr (hw _ (List.mem_of_getElem? (i := 23) rfl))) (by decide) (t := .long) (t' := .long) (by decide) (by decide)))
  have c53 := c42.other W46 (Or.inr (slot_ne (Or.inr (hw _ (List.mem_of_getElem? (i := 27) rfl))) (Or.inr (hw _ (List.mem_of_getElem? (i := 23) rfl))) (by decide) (t := .long) (t' := .long) (by decide) (by decide)))
  have c54 := c43.other W46 (Or.inr (slot_ne (Or.inr (hw _ (List.mem_of_getElem? (i := 29) rfl))) (Or.inr (hw _ (List.mem_of_getElem? (i := 23) rfl))) (by decide) (t := .long) (t' := .long) (by decide) (by decide)))
  have c55 := c40.same W46
  have K56 := K45.wr W46 (Or.inl (List.mem_of_getElem? (i := 0) rfl))
  have N46 := Fr.snoc X46 N35 g_d0
  refine Wp.step st46 ?_
  show Wp p e below _ (T46.setTop (mkF m 32 #[.val (.ref d0), .val (.long u0), .second, .val (.long u1), .second, .val (.long u2), .second, .val (.long u3), .second, .val (.long u4), .second, .val (.long u5), .second, .val (.long u6), .second, .val (.long u7), .second] []))
  refine Wp.step (fun t k => XS.aloadN X46.here hx rfl (hb hby d1_32) rfl rfl k) ?_
  show Wp p e below _ (T46.setTop (mkF m 33 #[.val (.ref d0), .val (.long u0), .second, .val (.long u1), .second, .val (.long u2), .second, .val (.long u3), .second, .val (.long u4), .second, .val (.long u5), .second, .val (.long u6), .second, .val (.long u7), .second] [(.ref d0)]))
  refine Wp.step (fun t k => XS.lload X46.here hx rfl (hb hby d1_33) rfl k) ?_
  show Wp p e below _ (T46.setTop (mkF m 35 #[.val (.ref d0), .val (.long u0), .second, .val (.long u1), .second, .val (.long u2), .second, .val (.long u3), .second, .val (.long u4), .second, .val (.long u5), .second, .val (.long u6), .second, .val (.long u7), .second] [(.long u5), (.ref d0)]))
  obtain ⟨T57, h57, X57, e57, W57, st57⟩ := putF X46 hx hZ hown (host := "") (Or.inl (hw _ (List.mem_of_getElem? (i := 24) rfl))) Via.refl e46 c52 c47 (Or.inr ⟨(hw _ (List.mem_of_getElem? (i := 25) rfl)), rfl, hnm⟩) (hw _ (List.mem_of_getElem? (i := 1) rfl)) (ty := .long) (by decide) rfl rfl (g := (mkF m 35 #[.val (.ref d0), .val (.long u0), .second, .val (.long u1), .second, .val (.long u2), .second, .val (.long u3), .second, .val (.long u4), .second, .val (.long u5), .second, .val (.long u6), .second, .val (.long u7), .second] [(.long u5), (.ref d0)])) rfl rfl (hb hby d1_35)
  have c58 := c47.wr W57
  have c59 := c48.other W57 (Or.inr (slot_ne (Or.inr (hw _ (List.mem_of_getElem? (i := 15) rfl))) (Or.inr (hw _ (List.mem_of_getElem? (i := 25) rfl))) (by decide) (t := .long) (t' := .long) (by decide) (by decide)))
  have c60 := c49.other W57 (Or.inr (slot_ne (Or.inr (hw _ (List.mem_of_getElem? (i := 17) rfl))) (Or.inr (hw _ (List.mem_of_getElem? (i := 25) rfl))) (by decide) (t := .long) (t' := .long) (by decide) (by decide)))
  have c61 := c50.other W57 (Or.inr (slot_ne (Or.inr (hw _ (List.mem_of_getElem? (i := 19) rfl))) (Or.inr (hw _ (List.mem_of_getElem? (i := 25) rfl))) (by decide) (t := .long) (t' := .long) (by decide) (by decide)))
  have c62 := c51.other W57 (Or.inr (slot_ne (Or.inr (hw _ (List.mem_of_getElem? (i := 21) rfl))) (Or.inr (hw _ (List.mem_of_getElem? (i := 25) rfl))) (by decide) (t := .long) (t' := .long) (by decide) (by decide)))
  have c63 := c55.other W57 (Or.inr (slot_ne (Or.inr (hw _ (List.mem_of_getElem? (i := 23) rfl))) (Or.inr (hw _ (List.mem_of_getElem? (i := 25) rfl))) (by decide) (t := .long) (t' := .long) (by decide) (by decide)))
  have c64 := c53.other W57 (Or.inr (slot_ne (Or.inr (hw _ (List.mem_of_getElem? (i := 27) rfl))) (Or.inr (hw _ (List.mem_of_getElem? (i := 25) rfl))) (by decide) (t := .long) (t' := .long) (by decide) (by decide)))
  have c65 := c54.other W57 (Or.inr (slot_ne (Or.inr (hw _ (List.mem_of_getElem? (i := 29) rfl))) (Or.inr (hw _ (List.mem_of_getElem? (i := 25) rfl))) (by decide) (t := .long) (t' := .long) (by decide) (by decide)))
  have c66 := c52.same W57
  have K67 := K56.wr W57 (Or.inl (List.mem_of_getElem? (i := 0) rfl))
  have N57 := Fr.snoc X57 N46 g_d0
  refine Wp.step st57 ?_
  show Wp p e below _ (T57.setTop (mkF m 38 #[.val (.ref d0), .val (.long u0), .second, .val (.long u1), .second, .val (.long u2), .second, .val (.long u3), .second, .val (.long u4), .second, .val (.long u5), .second, .val (.long u6), .second, .val (.long u7), .second] []))
  refine Wp.step (fun t k => XS.aloadN X57.here hx rfl (hb hby d1_38) rfl rfl k) ?_
  show Wp p e below _ (T57.setTop (mkF m 39 #[.val (.ref d0), .val (.long u0), .second, .val (.long u1), .second, .val (.long u2), .second, .val (.long u3), .second, .val (.long u4), .second, .val (.long u5), .second, .val (.long u6), .second, .val (.long u7), .second] [(.ref d0)]))
  refine Wp.step (fun t k => XS.lload X57.here hx rfl (hb hby d1_39) rfl k) ?_
  show Wp p e below _ (T57.setTop (mkF m 41 #[.val (.ref d0), .val (.long u0), .second, .val (.long u1), .second, .val (.long u2), .second, .val (.long u3), .second, .val (.long u4), .second, .val (.long u5), .second, .val (.long u6), .second, .val (.long u7), .second] [(.long u6), (.ref d0)]))
  obtain ⟨T68, h68, X68, e68, W68, st68⟩ := putF X57 hx hZ hown (host := "") (Or.inl (hw _ (List.mem_of_getElem? (i := 26) rfl))) Via.refl e57 c64 c58 (Or.inr ⟨(hw _ (List.mem_of_getElem? (i := 27) rfl)), rfl, hnm⟩) (hw _ (List.mem_of_getElem? (i := 1) rfl)) (ty := .long) (by decide) rfl rfl (g := (mkF m 41 #[.val (.ref d0), .val (.long u0), .second, .val (.long u1), .second, .val (.long u2), .second, .val (.long u3), .second, .val (.long u4), .second, .val (.long u5), .second, .val (.long u6), .second, .val (.long u7), .second] [(.long u6), (.ref d0)])) rfl rfl (hb hby d1_41)
  have c69 := c58.wr W68
  have c70 := c59.other W68 (Or.inr (slot_ne (Or.inr (hw _ (List.mem_of_getElem? (i := 15) rfl))) (Or.inr (hw _ (List.mem_of_getElem? (i := 27) rfl))) (by decide) (t := .long) (t' := .long) (by decide) (by decide)))
  have c71 := c60.other W68 (Or.inr (slot_ne (Or.inr (hw _ (List.mem_of_getElem? (i := 17) rfl))) (Or.inr (hw _ (List.mem_of_getElem? (i := 27) rfl))) (by decide) (t := .long) (t' := .long) (by decide) (by decide)))
  have c72 := c61.other W68 (Or.inr (slot_ne (Or.inr (hw _ (List.mem_of_getElem? (i := 19) rfl))) (Or.inr (hw _ (List.mem_of_getElem? (i := 27) rfl))) (by decide) (t := .long) (t' := .long) (by decide) (by decide)))
  have c73 := c62.other W68 (Or.inr (slot_ne (Or.inr (hw _ (List.mem_of_getElem? (i := 21) rfl))) (Or.inr (hw _ (List.mem_of_getElem? (i := 27) rfl))) (by decide) (t := .long) (t' := .long) (by decide) (by decide)))
  have c74 := c63.other W68 (Or.inr (slot_ne (Or.inr (hw _ (List.mem_of_getElem? (i := 23) rfl))) (Or.inr (hw _ (List.mem_of_getElem? (i := 27) rfl))) (by decide) (t := .long) (t' := .long) (by decide) (by decide)))
  have c75 := c66.other W68 (Or.inr (slot_ne (Or.inr (hw _ (List.mem_of_getElem? (i := 25) rfl))) (Or.inr (hw _ (List.mem_of_getElem? (i := 27) rfl))) (by decide) (t := .long) (t' := .long) (by decide) (by decide)))
  have c76 := c65.other W68 (Or.inr (slot_ne (Or.inr (hw _ (List.mem_of_getElem? (i := 29) rfl))) (Or.inr (hw _ (List.mem_of_getElem? (i := 27) rfl))) (by decide) (t := .long) (t' := .long) (by decide) (by decide)))
  have c77 := c64.same W68
  have K78 := K67.wr W68 (Or.inl (List.mem_of_getElem? (i := 0) rfl))
  have N68 := Fr.snoc X68 N57 g_d0
  refine Wp.step st68 ?_
  show Wp p e below _ (T68.setTop (mkF m 44 #[.val (.ref d0), .val (.long u0), .second, .val (.long u1), .second, .val (.long u2), .second, .val (.long u3), .second, .val (.long u4), .second, .val (.long u5), .second, .val (.long u6), .second, .val (.long u7), .second] []))
  refine Wp.step (fun t k => XS.aloadN X68.here hx rfl (hb hby d1_44) rfl rfl k) ?_
  show Wp p e below _ (T68.setTop (mkF m 45 #[.val (.ref d0), .val (.long u0), .second, .val (.long u1), .second, .val (.long u2), .second, .val (.long u3), .second, .val (.long u4), .second, .val (.long u5), .second, .val (.long u6), .second, .val (.long u7), .second] [(.ref d0)]))
  refine Wp.step (fun t k => XS.lload X68.here hx rfl (hb hby d1_45) rfl k) ?_
  show Wp p e below _ (T68.setTop (mkF m 47 #[.val (.ref d0), .val (.long u0), .second, .val (.long u1), .second, .val (.long u2), .second, .val (.long u3), .second, .val (.long u4), .second, .val (.long u5), .second, .val (.long u6), .second, .val (.long u7), .second] [(.long u7), (.ref d0)]))
  obtain ⟨T79, h79, X79, e79, W79, st79⟩ := putF X68 hx hZ hown (host := "") (Or.inl (hw _ (List.mem_of_getElem? (i := 28) rfl))) Via.refl e68 c76 c69 (Or.inr ⟨(hw _ (List.mem_of_getElem? (i := 29) rfl)), rfl, hnm⟩) (hw _ (List.mem_of_getElem? (i := 1) rfl)) (ty := .long) (by decide) rfl rfl (g := (mkF m 47 #[.val (.ref d0), .val (.long u0), .second, .val (.long u1), .second, .val (.long u2), .second, .val (.long u3), .second, .val (.long u4), .second, .val (.long u5), .second, .val (.long u6), .second, .val (.long u7), .second] [(.long u7), (.ref d0)])) rfl rfl (hb hby d1_47)
  have c80 := c69.wr W79
  have c81 := c70.other W79 (Or.inr (slot_ne (Or.inr (hw _ (List.mem_of_getElem? (i := 15) rfl))) (Or.inr (hw _ (List.mem_of_getElem? (i := 29) rfl))) (by decide) (t := .long) (t' := .long) (by decide) (by decide)))
  have c82 := c71.other W79 (Or.inr (slot_ne (Or.inr (hw _ (List.mem_of_getElem? (i := 17) rfl))) (Or.inr (hw _ (List.mem_of_getElem? (i := 29) rfl))) (by decide) (t := .long) (t' := .long) (by decide) (by decide)))
  have c83 := c72.other W79 (Or.inr (slot_ne (Or.inr (hw _ (List.mem_of_getElem? (i := 19) rfl))) (Or.inr (hw _ (List.mem_of_getElem? (i := 29) rfl))) (by decide) (t := .long) (t' := .long) (by decide) (by decide)))
  have c84 := c73.other W79 (Or.inr (slot_ne (Or.inr (hw _ (List.mem_of_getElem? (i := 21) rfl))) (Or.inr (hw _ (List.mem_of_getElem? (i := 29) rfl))) (by decide) (t := .long) (t' := .long) (by decide) (by decide)))
  have c85 := c74.other W79 (Or.inr (slot_ne (Or.inr (hw _ (List.mem_of_getElem? (i := 23) rfl))) (Or.inr (hw _ (List.mem_of_getElem? (i := 29) rfl))) (by decide) (t := .long) (t' := .long) (by decide) (by decide)))
  have c86 := c75.other W79 (Or.inr (slot_ne (Or.inr (hw _ (List.mem_of_getElem? (i := 25) rfl))) (Or.inr (hw _ (List.mem_of_getElem? (i := 29) rfl))) (by decide) (t := .long) (t' := .long) (by decide) (by decide)))
  have c87 := c77.other W79 (Or.inr (slot_ne (Or.inr (hw _ (List.mem_of_getElem? (i := 27) rfl))) (Or.inr (hw _ (List.mem_of_getElem? (i := 29) rfl))) (by decide) (t := .long) (t' := .long) (by decide) (by decide)))
  have c88 := c76.same W79
  have K89 := K78.wr W79 (Or.inl (List.mem_of_getElem? (i := 0) rfl))
  have N79 := Fr.snoc X79 N68 g_d0
  refine Wp.step st79 ?_
  show Wp p e below _ (T79.setTop (mkF m 50 #[.val (.ref d0), .val (.long u0), .second, .val (.long u1), .second, .val (.long u2), .second, .val (.long u3), .second, .val (.long u4), .second, .val (.long u5), .second, .val (.long u6), .second, .val (.long u7), .second] []))
  refine Wp.retV X79 hx Bd.returns (hb hby d1_50) hlk ?_ (by decide) (by decide)
  show Q1 Z d0 u0 u1 u2 u3 u4 u5 u6 u7 h0 n0 none T79.heap _
  rw [e79]
  exact ⟨rfl, N79, K89, c80, c81, c82, c83, c84, c85, c86, c87, c88⟩
theorem pd_28JJJJJJJJ29V : parseMethodDescriptor "(JJJJJJJJ)V" = some ⟨[.long, .long, .long, .long, .long, .long, .long, .long], none⟩ := by decide +kernel
theorem d4_0 : decode prog_207_method_4_code 0 = .ok (.new 8, 3) := by decide +kernel
theorem d4_3 : decode prog_207_method_4_code 3 = .ok (.dup, 1) := by decide +kernel
theorem d4_4 : decode prog_207_method_4_code 4 = .ok (.aload_n 0, 1) := by decide +kernel
theorem d4_5 : decode prog_207_method_4_code 5 = .ok (.getfield 7, 3) := by decide +kernel
theorem d4_8 : decode prog_207_method_4_code 8 = .ok (.aload_n 1, 1) := by decide +kernel
theorem d4_9 : decode prog_207_method_4_code 9 = .ok (.getfield 7, 3) := by decide +kernel
theorem d4_12 : decode prog_207_method_4_code 12 = .ok (.ladd, 1) := by decide +kernel
theorem d4_13 : decode prog_207_method_4_code 13 = .ok (.aload_n 0, 1) := by decide +kernel
theorem d4_14 : decode prog_207_method_4_code 14 = .ok (.getfield 13, 3) := by decide +kernel
theorem d4_17 : decode prog_207_method_4_code 17 = .ok (.aload_n 1, 1) := by decide +kernel
theorem d4_18 : decode prog_207_method_4_code 18 = .ok (.getfield 13, 3) := by decide +kernel
theorem d4_21 : decode prog_207_method_4_code 21 = .ok (.ladd, 1) := by decide +kernel
theorem d4_22 : decode prog_207_method_4_code 22 = .ok (.aload_n 0, 1) := by decide +kernel
theorem d4_23 : decode prog_207_method_4_code 23 = .ok (.getfield 16, 3) := by decide +kernel
theorem d4_26 : decode prog_207_method_4_code 26 = .ok (.aload_n 1, 1) := by decide +kernel
theorem d4_27 : decode prog_207_method_4_code 27 = .ok (.getfield 16, 3) := by decide +kernel
theorem d4_30 : decode prog_207_method_4_code 30 = .ok (.ladd, 1) := by decide +kernel
theorem d4_31 : decode prog_207_method_4_code 31 = .ok (.aload_n 0, 1) := by decide +kernel
theorem d4_32 : decode prog_207_method_4_code 32 = .ok (.getfield 19, 3) := by decide +kernel
theorem d4_35 : decode prog_207_method_4_code 35 = .ok (.aload_n 1, 1) := by decide +kernel
theorem d4_36 : decode prog_207_method_4_code 36 = .ok (.getfield 19, 3) := by decide +kernel
theorem d4_39 : decode prog_207_method_4_code 39 = .ok (.ladd, 1) := by decide +kernel
theorem d4_40 : decode prog_207_method_4_code 40 = .ok (.aload_n 0, 1) := by decide +kernel
theorem d4_41 : decode prog_207_method_4_code 41 = .ok (.getfield 22, 3) := by decide +kernel
theorem d4_44 : decode prog_207_method_4_code 44 = .ok (.aload_n 1, 1) := by decide +kernel
theorem d4_45 : decode prog_207_method_4_code 45 = .ok (.getfield 22, 3) := by decide +kernel
theorem d4_48 : decode prog_207_method_4_code 48 = .ok (.ladd, 1) := by decide +kernel
theorem d4_49 : decode prog_207_method_4_code 49 = .ok (.aload_n 0, 1) := by decide +kernel
theorem d4_50 : decode prog_207_method_4_code 50 = .ok (.getfield 25, 3) := by decide +kernel
theorem d4_53 : decode prog_207_method_4_code 53 = .ok (.aload_n 1, 1) := by decide +kernel
theorem d4_54 : decode prog_207_method_4_code 54 = .ok (.getfield 25, 3) := by decide +kernel
theorem d4_57 : decode prog_207_method_4_code 57 = .ok (.ladd, 1) := by decide +kernel
theorem d4_58 : decode prog_207_method_4_code 58 = .ok (.aload_n 0, 1) := by decide +kernel
theorem d4_59 : decode prog_207_method_4_code 59 = .ok (.getfield 28, 3) := by decide +kernel
theorem d4_62 : decode prog_207_method_4_code 62 = .ok (.aload_n 1, 1) := by decide +kernel
theorem d4_63 : decode prog_207_method_4_code 63 = .ok (.getfield 28, 3) := by decide +kernel
theorem d4_66 : decode prog_207_method_4_code 66 = .ok (.ladd, 1) := by decide +kernel
theorem d4_67 : decode prog_207_method_4_code 67 = .ok (.aload_n 0, 1) := by decide +kernel
theorem d4_68 : decode prog_207_method_4_code 68 = .ok (.getfield 31, 3) := by decide +kernel
theorem d4_71 : decode prog_207_method_4_code 71 = .ok (.aload_n 1, 1) := by decide +kernel
theorem d4_72 : decode prog_207_method_4_code 72 = .ok (.getfield 31, 3) := by decide +kernel
theorem d4_75 : decode prog_207_method_4_code 75 = .ok (.ladd, 1) := by decide +kernel
theorem d4_76 : decode prog_207_method_4_code 76 = .ok (.invokespecial 99, 3) := by decide +kernel
theorem d4_79 : decode prog_207_method_4_code 79 = .ok (.areturn, 1) := by decide +kernel
theorem ef_4_00 (m : MethodId) (x0 : Addr) (x1 : Addr) : entryFrame m #[(.ref x0), (.ref x1)] 2 = mkF m 0 #[.val (.ref x0), .val (.ref x1)] [] := by first | (simp [entryFrame, mkF, argsToLocals, Value.category]; done) | rfl
def Q4 (Z : State) (d0 : Addr) (d1 : Addr) (x0 : Int64) (x1 : Int64) (x2 : Int64) (x3 : Int64) (x4 : Int64) (x5 : Int64) (x6 : Int64) (x7 : Int64) (y0 : Int64) (y1 : Int64) (y2 : Int64) (y3 : Int64) (y4 : Int64) (y5 : Int64) (y6 : Int64) (y7 : Int64) (h0 : Heap) (n0 : Nat) (v : Option Value) (h : Heap) (L : List Loc) : Prop := ∃ b0 : Addr, v = some (.ref b0) ∧ Fr n0 L ∧ Keep h0 h [] ∧ h0.size ≤ b0 ∧ n0 ≤ b0 ∧ Exa Z h b0 "com/example/graphloom/graphloom/engine/graph/SideEffects" ∧ Fld Z h b0 "com/example/graphloom/graphloom/engine/graph/SideEffects" "nodesCreated" "J" (.long (x0 + y0)) ∧ Fld Z h b0 "com/example/graphloom/graphloom/engine/graph/SideEffects" "nodesDeleted" "J" (.long (x1 + y1)) ∧ Fld Z h b0 "com/example/graphloom/graphloom/engine/graph/SideEffects" "relationshipsCreated" "J" (.long (x2 + y2)) ∧ Fld Z h b0 "com/example/graphloom/graphloom/engine/graph/SideEffects" "relationshipsDeleted" "J" (.long (x3 + y3)) ∧ Fld Z h b0 "com/example/graphloom/graphloom/engine/graph/SideEffects" "labelsAdded" "J" (.long (x4 + y4)) ∧ Fld Z h b0 "com/example/graphloom/graphloom/engine/graph/SideEffects" "labelsRemoved" "J" (.long (x5 + y5)) ∧ Fld Z h b0 "com/example/graphloom/graphloom/engine/graph/SideEffects" "propertiesSet" "J" (.long (x6 + y6)) ∧ Fld Z h b0 "com/example/graphloom/graphloom/engine/graph/SideEffects" "propertiesRemoved" "J" (.long (x7 + y7))
set_option maxRecDepth 65536 in
set_option maxHeartbeats 40000000 in
theorem rm4 (l : Launch) (Z : State) (a0 : Array Value) (hw : ∀ d ∈ tables_1, d.before a0 Z = true) (ws : List Jvm.Cond) (d0 : Addr) (d1 : Addr) (x0 : Int64) (x1 : Int64) (x2 : Int64) (x3 : Int64) (x4 : Int64) (x5 : Int64) (x6 : Int64) (x7 : Int64) (y0 : Int64) (y1 : Int64) (y2 : Int64) (y3 : Int64) (y4 : Int64) (y5 : Int64) (y6 : Int64) (y7 : Int64) (h0 : Heap) (n0 : Nat) (Z0 : n0 ≤ h0.size) (E_d0 : Exa Z h0 d0 "com/example/graphloom/graphloom/engine/graph/SideEffects") (F_nodesCreated_d0 : Fld Z h0 d0 "com/example/graphloom/graphloom/engine/graph/SideEffects" "nodesCreated" "J" (.long x0)) (F_nodesDeleted_d0 : Fld Z h0 d0 "com/example/graphloom/graphloom/engine/graph/SideEffects" "nodesDeleted" "J" (.long x1)) (F_relationshipsCreated_d0 : Fld Z h0 d0 "com/example/graphloom/graphloom/engine/graph/SideEffects" "relationshipsCreated" "J" (.long x2)) (F_relationshipsDeleted_d0 : Fld Z h0 d0 "com/example/graphloom/graphloom/engine/graph/SideEffects" "relationshipsDeleted" "J" (.long x3)) (F_labelsAdded_d0 : Fld Z h0 d0 "com/example/graphloom/graphloom/engine/graph/SideEffects" "labelsAdded" "J" (.long x4)) (F_labelsRemoved_d0 : Fld Z h0 d0 "com/example/graphloom/graphloom/engine/graph/SideEffects" "labelsRemoved" "J" (.long x5)) (F_propertiesSet_d0 : Fld Z h0 d0 "com/example/graphloom/graphloom/engine/graph/SideEffects" "propertiesSet" "J" (.long x6)) (F_propertiesRemoved_d0 : Fld Z h0 d0 "com/example/graphloom/graphloom/engine/graph/SideEffects" "propertiesRemoved" "J" (.long x7)) (E_d1 : Exa Z h0 d1 "com/example/graphloom/graphloom/engine/graph/SideEffects") (F_nodesCreated_d1 : Fld Z h0 d1 "com/example/graphloom/graphloom/engine/graph/SideEffects" "nodesCreated" "J" (.long y0)) (F_nodesDeleted_d1 : Fld Z h0 d1 "com/example/graphloom/graphloom/engine/graph/SideEffects" "nodesDeleted" "J" (.long y1)) (F_relationshipsCreated_d1 : Fld Z h0 d1 "com/example/graphloom/graphloom/engine/graph/SideEffects" "relationshipsCreated" "J" (.long y2)) (F_relationshipsDeleted_d1 : Fld Z h0 d1 "com/example/graphloom/graphloom/engine/graph/SideEffects" "relationshipsDeleted" "J" (.long y3)) (F_labelsAdded_d1 : Fld Z h0 d1 "com/example/graphloom/graphloom/engine/graph/SideEffects" "labelsAdded" "J" (.long y4)) (F_labelsRemoved_d1 : Fld Z h0 d1 "com/example/graphloom/graphloom/engine/graph/SideEffects" "labelsRemoved" "J" (.long y5)) (F_propertiesSet_d1 : Fld Z h0 d1 "com/example/graphloom/graphloom/engine/graph/SideEffects" "propertiesSet" "J" (.long y6)) (F_propertiesRemoved_d1 : Fld Z h0 d1 "com/example/graphloom/graphloom/engine/graph/SideEffects" "propertiesRemoved" "J" (.long y7)) :
    MetFree l (⟨"com/example/graphloom/graphloom/engine/graph/SideEffects", "plus", "(Lcom/example/graphloom/graphloom/engine/graph/SideEffects;)Lcom/example/graphloom/graphloom/engine/graph/SideEffects;"⟩ : MethodName) (head1 (Jvm.Cond.code (⟨"com/example/graphloom/graphloom/engine/graph/SideEffects", "plus", "(Lcom/example/graphloom/graphloom/engine/graph/SideEffects;)Lcom/example/graphloom/graphloom/engine/graph/SideEffects;"⟩ : MethodName) prog_207_method_4_code 2 (some (.object "com/example/graphloom/graphloom/engine/graph/SideEffects")) :: ws) ({ frames := 3, cells := 1, slots := 8, locals := 53 } : Room)) (fun a U => a = #[(.ref d0), (.ref d1)] ∧ Z.Warmed39 U.vm ∧ U.heap = h0) (fun _ _ _ _ _ => True) (fun _ U o U' => ∃ v L, o = .returned v ∧ Q4 Z d0 d1 x0 x1 x2 x3 x4 x5 x6 x7 y0 y1 y2 y3 y4 y5 y6 y7 h0 n0 v U'.heap L ∧ FrameEnd U o U' L ({ frames := 3, cells := 1, slots := 8, locals := 53 } : Room).cells ({ frames := 3, cells := 1, slots := 8, locals := 53 } : Room).slots) := by
  refine MetFree.of_bodySF (plainFor_of_name pn_com_example_graphloom_graphloom_engine_graph_SideEffects) hisR ?_
  intro p e s m args below meth c s₁ Bd hml0 hP hK
  obtain ⟨rfl, hZ, hh⟩ := hP
  have hx := Bd.exec
  have hby := Bd.bytes
  have hlk : meth.locks = false := Bd.notSynchronized
  have hml : c.maxLocals = 2 := hml0
  have hown : s.vm.findClass "com/example/graphloom/graphloom/engine/graph/SideEffects" = some m.cls := findClass_of_methodNamed Bd.named
  have hnm := (name_of_methodNamed Bd.named Bd.method).1
  have X0 : Stand p l e ({ frames := 3, cells := 1, slots := 8, locals := 53 } : Room) s m #[(.ref d0), (.ref d1)] below meth c s₁ [] 0 0 := Stand.of_body Bd
  have e0 : s₁.heap = h0 := by rw [← hh, Bd.state]; rfl
  have N0 := Fr.nil n0
  have K0 : Keep h0 h0 [] := Keep.refl h0 _
  show Wp p e below (Out s (Q4 Z d0 d1 x0 x1 x2 x3 x4 x5 x6 x7 y0 y1 y2 y3 y4 y5 y6 y7 h0 n0) ({ frames := 3, cells := 1, slots := 8, locals := 53 } : Room).cells ({ frames := 3, cells := 1, slots := 8, locals := 53 } : Room).slots) (s₁.setTop (entryFrame m #[(.ref d0), (.ref d1)] 2))
  rw [ef_4_00]
  show Wp p e below _ (s₁.setTop (mkF m 0 #[.val (.ref d0), .val (.ref d1)] []))
  obtain ⟨T1, h1, X1, e1, E1, A1, D1, -, st1⟩ := newO X0 hx hZ hown (hw _ (List.mem_of_getElem? (i := 35) rfl)) (hw _ (List.mem_of_getElem? (i := 1) rfl)) (hw _ (List.mem_of_getElem? (i := 2) rfl)) e0 (g := (mkF m 0 #[.val (.ref d0), .val (.ref d1)] [])) rfl (hb hby d4_0) (by decide) (by decide)
  obtain ⟨b1, g1⟩ : ∃ z, z = h0.size := ⟨_, rfl⟩
  rw [← g1] at A1 D1 st1
  have g_b1 : n0 ≤ b1 := Nat.le_trans (Nat.le_trans Z0 K0.1) (Nat.le_of_eq g1.symm)
  have sz_b1 : h0.size ≤ b1 := Nat.le_trans K0.1 (Nat.le_of_eq g1.symm)
  have ne_d0_b1 : d0 ≠ b1 := Nat.ne_of_lt (Nat.lt_of_lt_of_le E_d0.lt (Nat.le_of_eq g1.symm))
  have ne_d1_b1 : d1 ≠ b1 := Nat.ne_of_lt (Nat.lt_of_lt_of_le E_d1.lt (Nat.le_of_eq g1.symm))
  have c2 := E_d0.ext E1
  have c3 := F_nodesCreated_d0.ext E1
  have c4 := F_nodesDeleted_d0.ext E1
  have c5 := F_relationshipsCreated_d0.ext E1
  have c6 := F_relationshipsDeleted_d0.ext E1
  have c7 := F_labelsAdded_d0.ext E1
  have c8 := F_labelsRemoved_d0.ext E1
  have c9 := F_propertiesSet_d0.ext E1
  have c10 := F_propertiesRemoved_d0.ext E1
  have c11 := E_d1.ext E1
  have c12 := F_nodesCreated_d1.ext E1
  have c13 := F_nodesDeleted_d1.ext E1
  have c14 := F_relationshipsCreated_d1.ext E1
  have c15 := F_relationshipsDeleted_d1.ext E1
  have c16 := F_labelsAdded_d1.ext E1
  have c17 := F_labelsRemoved_d1.ext E1
  have c18 := F_propertiesSet_d1.ext E1
  have c19 := F_propertiesRemoved_d1.ext E1
  have K20 := K0.ext E1
  have c21 : Fld Z h1 b1 "com/example/graphloom/graphloom/engine/graph/SideEffects" "nodesCreated" "J" (.long (0 : Int64)) := D1 (Or.inr (hw _ (List.mem_of_getElem? (i := 15) rfl))) (ty := .long) (by decide)
  have c22 : Fld Z h1 b1 "com/example/graphloom/graphloom/engine/graph/SideEffects" "nodesDeleted" "J" (.long (0 : Int64)) := D1 (Or.inr (hw _ (List.mem_of_getElem? (i := 17) rfl))) (ty := .long) (by decide)
  have c23 : Fld Z h1 b1 "com/example/graphloom/graphloom/engine/graph/SideEffects" "relationshipsCreated" "J" (.long (0 : Int64)) := D1 (Or.inr (hw _ (List.mem_of_getElem? (i := 19) rfl))) (ty := .long) (by decide)
  have c24 : Fld Z h1 b1 "com/example/graphloom/graphloom/engine/graph/SideEffects" "relationshipsDeleted" "J" (.long (0 : Int64)) := D1 (Or.inr (hw _ (List.mem_of_getElem? (i := 21) rfl))) (ty := .long) (by decide)
  have c25 : Fld Z h1 b1 "com/example/graphloom/graphloom/engine/graph/SideEffects" "labelsAdded" "J" (.long (0 : Int64)) := D1 (Or.inr (hw _ (List.mem_of_getElem? (i := 23) rfl))) (ty := .long) (by decide)
  have c26 : Fld Z h1 b1 "com/example/graphloom/graphloom/engine/graph/SideEffects" "labelsRemoved" "J" (.long (0 : Int64)) := D1 (Or.inr (hw _ (List.mem_of_getElem? (i := 25) rfl))) (ty := .long) (by decide)
  have c27 : Fld Z h1 b1 "com/example/graphloom/graphloom/engine/graph/SideEffects" "propertiesSet" "J" (.long (0 : Int64)) := D1 (Or.inr (hw _ (List.mem_of_getElem? (i := 27) rfl))) (ty := .long) (by decide)
  have c28 : Fld Z h1 b1 "com/example/graphloom/graphloom/engine/graph/SideEffects" "propertiesRemoved" "J" (.long (0 : Int64)) := D1 (Or.inr (hw _ (List.mem_of_getElem? (i := 29) rfl))) (ty := .long) (by decide)
  refine Wp.step st1 ?_
  show Wp p e below _ (T1.setTop (mkF m 3 #[.val (.ref d0), .val (.ref d1)] [(.ref b1)]))
  refine Wp.step (fun t k => XS.dup X1.here hx rfl (hb hby d4_3) rfl rfl k) ?_
  show Wp p e below _ (T1.setTop (mkF m 4 #[.val (.ref d0), .val (.ref d1)] [(.ref b1), (.ref b1)]))
  refine Wp.step (fun t k => XS.aloadN X1.here hx rfl (hb hby d4_4) rfl rfl k) ?_
  show Wp p e below _ (T1.setTop (mkF m 5 #[.val (.ref d0), .val (.ref d1)] [(.ref d0), (.ref b1), (.ref b1)]))
  obtain ⟨T29, X29, e29, st29⟩ := getF X1 hx hZ hown (host := "") (Or.inl (hw _ (List.mem_of_getElem? (i := 14) rfl))) Via.refl e1 c3 (g := (mkF m 5 #[.val (.ref d0), .val (.ref d1)] [(.ref d0), (.ref b1), (.ref b1)])) rfl rfl (hb hby d4_5)
  refine Wp.step st29 ?_
  show Wp p e below _ (T29.setTop (mkF m 8 #[.val (.ref d0), .val (.ref d1)] [(.long x0), (.ref b1), (.ref b1)]))
  refine Wp.step (fun t k => XS.aloadN X29.here hx rfl (hb hby d4_8) rfl rfl k) ?_
  show Wp p e below _ (T29.setTop (mkF m 9 #[.val (.ref d0), .val (.ref d1)] [(.ref d1), (.long x0), (.ref b1), (.ref b1)]))
  obtain ⟨T30, X30, e30, st30⟩ := getF X29 hx hZ hown (host := "") (Or.inl (hw _ (List.mem_of_getElem? (i := 14) rfl))) Via.refl e29 c12 (g := (mkF m 9 #[.val (.ref d0), .val (.ref d1)] [(.ref d1), (.long x0), (.ref b1), (.ref b1)])) rfl rfl (hb hby d4_9)
  refine Wp.step st30 ?_
  show Wp p e below _ (T30.setTop (mkF m 12 #[.val (.ref d0), .val (.ref d1)] [(.long y0), (.long x0), (.ref b1), (.ref b1)]))
  refine Wp.step (fun t k => XS.ladd X30.here hx rfl (hb hby d4_12) rfl k) ?_
  show Wp p e below _ (T30.setTop (mkF m 13 #[.val (.ref d0), .val (.ref d1)] [(.long (x0 + y0)), (.ref b1), (.ref b1)]))
  refine Wp.step (fun t k => XS.aloadN X30.here hx rfl (hb hby d4_13) rfl rfl k) ?_
  show Wp p e below _ (T30.setTop (mkF m 14 #[.val (.ref d0), .val (.ref d1)] [(.ref d0), (.long (x0 + y0)), (.ref b1), (.ref b1)]))
  obtain ⟨T31, X31, e31, st31⟩ := getF X30 hx hZ hown (host := "") (Or.inl (hw _ (List.mem_of_getElem? (i := 16) rfl))) Via.refl e30 c4 (g := (mkF m 14 #[.val (.ref d0), .val (.ref d1)] [(.ref d0), (.long (x0 + y0)), (.ref b1), (.ref b1)])) rfl rfl (hb hby d4_14)
  refine Wp.step st31 ?_
  show Wp p e below _ (T31.setTop (mkF m 17 #[.val (.ref d0), .val (.ref d1)] [(.long x1), (.long (x0 + y0)), (.ref b1), (.ref b1)]))
  refine Wp.step (fun t k => XS.aloadN X31.here hx rfl (hb hby d4_17) rfl rfl k) ?_
  show Wp p e below _ (T31.setTop (mkF m 18 #[.val (.ref d0), .val (.ref d1)] [(.ref d1), (.long x1), (.long (x0 + y0)), (.ref b1), (.ref b1)]))
  obtain ⟨T32, X32, e32, st32⟩ := getF X31 hx hZ hown (host := "") (Or.inl (hw _ (List.mem_of_getElem? (i := 16) rfl))) Via.refl e31 c13 (g := (mkF m 18 #[.val (.ref d0), .val (.ref d1)] [(.ref d1), (.long x1), (.long (x0 + y0)), (.ref b1), (.ref b1)])) rfl rfl (hb hby d4_18)
  refine Wp.step st32 ?_
  show Wp p e below _ (T32.setTop (mkF m 21 #[.val (.ref d0), .val (.ref d1)] [(.long y1), (.long x1), (.long (x0 + y0)), (.ref b1), (.ref b1)]))
  refine Wp.step (fun t k => XS.ladd X32.here hx rfl (hb hby d4_21) rfl k) ?_
  show Wp p e below _ (T32.setTop (mkF m 22 #[.val (.ref d0), .val (.ref d1)] [(.long (x1 + y1)), (.long (x0 + y0)), (.ref b1), (.ref b1)]))
  refine Wp.step (fun t k => XS.aloadN X32.here hx rfl (hb hby d4_22) rfl rfl k) ?_
  show Wp p e below _ (T32.setTop (mkF m 23 #[.val (.ref d0), .val (.ref d1)] [(.ref d0), (.long (x1 + y1)), (.long (x0 + y0)), (.ref b1), (.ref b1)]))
  obtain ⟨T33, X33, e33, st33⟩ := getF X32 hx hZ hown (host := "") (Or.inl (hw _ (List.mem_of_getElem? (i := 18) rfl))) Via.refl e32 c5 (g := (mkF m 23 #[.val (.ref d0), .val (.ref d1)] [(.ref d0), (.long (x1 + y1)), (.long (x0 + y0)), (.ref b1), (.ref b1)])) rfl rfl (hb hby d4_23)
  refine Wp.step st33 ?_
  show Wp p e below _ (T33.setTop (mkF m 26 #[.val (.ref d0), .val (.ref d1)] [(.long x2), (.long (x1 + y1)), (.long (x0 + y0)), (.ref b1), (.ref b1)]))
  refine Wp.step (fun t k => XS.aloadN X33.here hx rfl (hb hby d4_26) rfl rfl k) ?_
  show Wp p e below _ (T33.setTop (mkF m 27 #[.val (.ref d0), .val (.ref d1)] [(.ref d1), (.long x2), (.long (x1 + y1)), (.long (x0 + y0)), (.ref b1), (.ref b1)]))
  obtain ⟨T34, X34, e34, st34⟩ := getF X33 hx hZ hown (host := "") (Or.inl (hw _ (List.mem_of_getElem? (i := 18) rfl))) Via.refl e33 c14 (g := (mkF m 27 #[.val (.ref d0), .val (.ref d1)] [(.ref d1), (.long x2), (.long (x1 + y1)), (.long (x0 + y0)), (.ref b1), (.ref b1)])) rfl rfl (hb hby d4_27)
  refine Wp.step st34 ?_
  show Wp p e below _ (T34.setTop (mkF m 30 #[.val (.ref d0), .val (.ref d1)] [(.long y2), (.long x2), (.long (x1 + y1)), (.long (x0 + y0)), (.ref b1), (.ref b1)]))
  refine Wp.step (fun t k => XS.ladd X34.here hx rfl (hb hby d4_30) rfl k) ?_
  show Wp p e below _ (T34.setTop (mkF m 31 #[.val (.ref d0), .val (.ref d1)] [(.long (x2 + y2)), (.long (x1 + y1)), (.long (x0 + y0)), (.ref b1), (.ref b1)]))
  refine Wp.step (fun t k => XS.aloadN X34.here hx rfl (hb hby d4_31) rfl rfl k) ?_
  show Wp p e below _ (T34.setTop (mkF m 32 #[.val (.ref d0), .val (.ref d1)] [(.ref d0), (.long (x2 + y2)), (.long (x1 + y1)), (.long (x0 + y0)), (.ref b1), (.ref b1)]))
  obtain ⟨T35, X35, e35, st35⟩ := getF X34 hx hZ hown (host := "") (Or.inl (hw _ (List.mem_of_getElem? (i := 20) rfl))) Via.refl e34 c6 (g := (mkF m 32 #[.val (.ref d0), .val (.ref d1)] [(.ref d0), (.long (x2 + y2)), (.long (x1 + y1)), (.long (x0 + y0)), (.ref b1), (.ref b1)])) rfl rfl (hb hby d4_32)
  refine Wp.step st35 ?_
  show Wp p e below _ (T35.setTop (mkF m 35 #[.val (.ref d0), .val (.ref d1)] [(.long x3), (.long (x2 + y2)), (.long (x1 + y1)), (.long (x0 + y0)), (.ref b1), (.ref b1)]))
  refine Wp.step (fun t k => XS.aloadN X35.here hx rfl (hb hby d4_35) rfl rfl k) ?_
  show Wp p e below _ (T35.setTop (mkF m 36 #[.val (.ref d0), .val (.ref d1)] [(.ref d1), (.long x3), (.long (x2 + y2)), (.long (x1 + y1)), (.long (x0 + y0)), (.ref b1), (.ref b1)]))
  obtain ⟨T36, X36, e36, st36⟩ := getF X35 hx hZ hown (host := "") (Or.inl (hw _ (List.mem_of_getElem? (i := 20) rfl))) Via.refl e35 c15 (g := (mkF m 36 #[.val (.ref d0), .val (.ref d1)] [(.ref d1), (.long x3), (.long (x2 + y2)), (.long (x1 + y1)), (.long (x0 + y0)), (.ref b1), (.ref b1)])) rfl rfl (hb hby d4_36)
  refine Wp.step st36 ?_
  show Wp p e below _ (T36.setTop (mkF m 39 #[.val (.ref d0), .val (.ref d1)] [(.long y3), (.long x3), (.long (x2 + y2)), (.long (x1 + y1)), (.long (x0 + y0)), (.ref b1), (.ref b1)]))
  refine Wp.step (fun t k => XS.ladd X36.here hx rfl (hb hby d4_39) rfl k) ?_
  show Wp p e below _ (T36.setTop (mkF m 40 #[.val (.ref d0), .val (.ref d1)] [(.long (x3 + y3)), (.long (x2 + y2)), (.long (x1 + y1)), (.long (x0 + y0)), (.ref b1), (.ref b1)]))
  refine Wp.step (fun t k => XS.aloadN X36.here hx rfl (hb hby d4_40) rfl rfl k) ?_
  show Wp p e below _ (T36.setTop (mkF m 41 #[.val (.ref d0), .val (.ref d1)] [(.ref d0), (.long (x3 + y3)), (.long (x2 + y2)), (.long (x1 + y1)), (.long (x0 + y0)), (.ref b1), (.ref b1)]))
  obtain ⟨T37, X37, e37, st37⟩ := getF X36 hx hZ hown (host := "") (Or.inl (hw _ (List.mem_of_getElem? (i := 22) rfl))) Via.refl e36 c7 (g := (mkF m 41 #[.val (.ref d0), .val (.ref d1)] [(.ref d0), (.long (x3 + y3)), (.long (x2 + y2)), (.long (x1 + y1)), (.long (x0 + y0)), (.ref b1), (.ref b1)])) rfl rfl (hb hby d4_41)
  refine Wp.step st37 ?_
  show Wp p e below _ (T37.setTop (mkF m 44 #[.val (.ref d0), .val (.ref d1)] [(.long x4), (.long (x3 + y3)), (.long (x2 + y2)), (.long (x1 + y1)), (.long (x0 + y0)), (.ref b1), (.ref b1)]))
  refine Wp.step (fun t k => XS.aloadN X37.here hx rfl (hb hby d4_44) rfl rfl k) ?_
  show Wp p e below _ (T37.setTop (mkF m 45 #[.val (.ref d0), .val (.ref d1)] [(.ref d1), (.long x4), (.long (x3 + y3)), (.long (x2 + y2)), (.long (x1 + y1)), (.long (x0 + y0)), (.ref b1), (.ref b1)]))
  obtain ⟨T38, X38, e38, st38⟩ := getF X37 hx hZ hown (host := "") (Or.inl (hw _ (List.mem_of_getElem? (i := 22) rfl))) Via.refl e37 c16 (g := (mkF m 45 #[.val (.ref d0), .val (.ref d1)] [(.ref d1), (.long x4), (.long (x3 + y3)), (.long (x2 + y2)), (.long (x1 + y1)), (.long (x0 + y0)), (.ref b1), (.ref b1)])) rfl rfl (hb hby d4_45)
  refine Wp.step st38 ?_
  show Wp p e below _ (T38.setTop (mkF m 48 #[.val (.ref d0), .val (.ref d1)] [(.long y4), (.long x4), (.long (x3 + y3)), (.long (x2 + y2)), (.long (x1 + y1)), (.long (x0 + y0)), (.ref b1), (.ref b1)]))
  refine Wp.step (fun t k => XS.ladd X38.here hx rfl (hb hby d4_48) rfl k) ?_
  show Wp p e below _ (T38.setTop (mkF m 49 #[.val (.ref d0), .val (.ref d1)] [(.long (x4 + y4)), (.long (x3 + y3)), (.long (x2 + y2)), (.long (x1 + y1)), (.long (x0 + y0)), (.ref b1), (.ref b1)]))
  refine Wp.step (fun t k => XS.aloadN X38.here hx rfl (hb hby d4_49) rfl rfl k) ?_
  show Wp p e below _ (T38.setTop (mkF m 50 #[.val (.ref d0), .val (.ref d1)] [(.ref d0), (.long (x4 + y4)), (.long (x3 + y3)), (.long (x2 + y2)), (.long (x1 + y1)), (.long (x0 + y0)), (.ref b1), (.ref b1)]))
  obtain ⟨T39, X39, e39, st39⟩ := getF X38 hx hZ hown (host := "") (Or.inl (hw _ (List.mem_of_getElem? (i := 24) rfl))) Via.refl e38 c8 (g := (mkF m 50 #[.val (.ref d0), .val (.ref d1)] [(.ref d0), (.long (x4 + y4)), (.long (x3 + y3)), (.long (x2 + y2)), (.long (x1 + y1)), (.long (x0 + y0)), (.ref b1), (.ref b1)])) rfl rfl (hb hby d4_50)
  refine Wp.step st39 ?_
  show Wp p e below _ (T39.setTop (mkF m 53 #[.val (.ref d0), .val (.ref d1)] [(.long x5), (.long (x4 + y4)), (.long (x3 + y3)), (.long (x2 + y2)), (.long (x1 + y1)), (.long (x0 + y0)), (.ref b1), (.ref b1)]))
  refine Wp.step (fun t k => XS.aloadN X39.here hx rfl (hb hby d4_53) rfl rfl k) ?_
  show Wp p e below _ (T39.setTop (mkF m 54 #[.val (.ref d0), .val (.ref d1)] [(.ref d1), (.long x5), (.long (x4 + y4)), (.long (x3 + y3)), (.long (x2 + y2)), (.long (x1 + y1)), (.long (x0 + y0)), (.ref b1), (.ref b1)]))
  obtain ⟨T40, X40, e40, st40⟩ := getF X39 hx hZ hown (host := "") (Or.inl (hw _ (List.mem_of_getElem? (i := 24) rfl))) Via.refl e39 c17 (g := (mkF m 54 #[.val (.ref d0), .val (.ref d1)] [(.ref d1), (.long x5), (.long (x4 + y4)), (.long (x3 + y3)), (.long (x2 + y2)), (.long (x1 + y1)), (.long (x0 + y0)), (.ref b1), (.ref b1)])) rfl rfl (hb hby d4_54)
  refine Wp.step st40 ?_
  show Wp p e below _ (T40.setTop (mkF m 57 #[.val (.ref d0), .val (.ref d1)] [(.long y5), (.long x5), (.long (x4 + y4)), (.long (x3 + y3)), (.long (x2 + y2)), (.long (x1 + y1)), (.long (x0 + y0)), (.ref b1), (.ref b1)]))
  refine Wp.step (fun t k => XS.ladd X40.here hx rfl (hb hby d4_57) rfl k) ?_
  show Wp p e below _ (T40.setTop (mkF m 58 #[.val (.ref d0), .val (.ref d1)] [(.long (x5 + y5)), (.long (x4 + y4)), (.long (x3 + y3)), (.long (x2 + y2)), (.long (x1 + y1)), (.long (x0 + y0)), (.ref b1), (.ref b1)]))
  refine Wp.step (fun t k => XS.aloadN X40.here hx rfl (hb hby d4_58) rfl rfl k) ?_
  show Wp p e below _ (T40.setTop (mkF m 59 #[.val (.ref d0), .val (.ref d1)] [(.ref d0), (.long (x5 + y5)), (.long (x4 + y4)), (.long (x3 + y3)), (.long (x2 + y2)), (.long (x1 + y1)), (.long (x0 + y0)), (.ref b1), (.ref b1)]))
  obtain ⟨T41, X41, e41, st41⟩ := getF X40 hx hZ hown (host := "") (Or.inl (hw _ (List.mem_of_getElem? (i := 26) rfl))) Via.refl e40 c9 (g := (mkF m 59 #[.val (.ref d0), .val (.ref d1)] [(.ref d0), (.long (x5 + y5)), (.long (x4 + y4)), (.long (x3 + y3)), (.long (x2 + y2)), (.long (x1 + y1)), (.long (x0 + y0)), (.ref b1), (.ref b1)])) rfl rfl (hb hby d4_59)
  refine Wp.step st41 ?_
  show Wp p e below _ (T41.setTop (mkF m 62 #[.val (.ref d0), .val (.ref d1)] [(.long x6), (.long (x5 + y5)), (.long (x4 + y4)), (.long (x3 + y3)), (.long (x2 + y2)), (.long (x1 + y1)), (.long (x0 + y0)), (.ref b1), (.ref b1)]))
  refine Wp.step (fun t k => XS.aloadN X41.here hx rfl (hb hby d4_62) rfl rfl k) ?_
  show Wp p e below _ (T41.setTop (mkF m 63 #[.val (.ref d0), .val (.ref d1)] [(.ref d1), (.long x6), (.long (x5 + y5)), (.long (x4 + y4)), (.long (x3 + y3)), (.long (x2 + y2)), (.long (x1 + y1)), (.long (x0 + y0)), (.ref b1), (.ref b1)]))
  obtain ⟨T42, X42, e42, st42⟩ := getF X41 hx hZ hown (host := "") (Or.inl (hw _ (List.mem_of_getElem? (i := 26) rfl))) Via.refl e41 c18 (g := (mkF m 63 #[.val (.ref d0), .val (.ref d1)] [(.ref d1), (.long x6), (.long (x5 + y5)), (.long (x4 + y4)), (.long (x3 + y3)), (.long (x2 + y2)), (.long (x1 + y1)), (.long (x0 + y0)), (.ref b1), (.ref b1)])) rfl rfl (hb hby d4_63)
  refine Wp.step st42 ?_
  show Wp p e below _ (T42.setTop (mkF m 66 #[.val (.ref d0), .val (.ref d1)] [(.long y6), (.long x6), (.long (x5 + y5)), (.long (x4 + y4)), (.long (x3 + y3)), (.long (x2 + y2)), (.long (x1 + y1)), (.long (x0 + y0)), (.ref b1), (.ref b1)]))
  refine Wp.step (fun t k => XS.ladd X42.here hx rfl (hb hby d4_66) rfl k) ?_
  show Wp p e below _ (T42.setTop (mkF m 67 #[.val (.ref d0), .val (.ref d1)] [(.long (x6 + y6)), (.long (x5 + y5)), (.long (x4 + y4)), (.long (x3 + y3)), (.long (x2 + y2)), (.long (x1 + y1)), (.long (x0 + y0)), (.ref b1), (.ref b1)]))
  refine Wp.step (fun t k => XS.aloadN X42.here hx rfl (hb hby d4_67) rfl rfl k) ?_
  show Wp p e below _ (T42.setTop (mkF m 68 #[.val (.ref d0), .val (.ref d1)] [(.ref d0), (.long (x6 + y6)), (.long (x5 + y5)), (.long (x4 + y4)), (.long (x3 + y3)), (.long (x2 + y2)), (.long (x1 + y1)), (.long (x0 + y0)), (.ref b1), (.ref b1)]))
  obtain ⟨T43, X43, e43, st43⟩ := getF X42 hx hZ hown (host := "") (Or.inl (hw _ (List.mem_of_getElem? (i := 28) rfl))) Via.refl e42 c10 (g := (mkF m 68 #[.val (.ref d0), .val (.ref d1)] [(.ref d0), (.long (x6 + y6)), (.long (x5 + y5)), (.long (x4 + y4)), (.long (x3 + y3)), (.long (x2 + y2)), (.long (x1 + y1)), (.long (x0 + y0)), (.ref b1), (.ref b1)])) rfl rfl (hb hby d4_68)
  refine Wp.step st43 ?_
  show Wp p e below _ (T43.setTop (mkF m 71 #[.val (.ref d0), .val (.ref d1)] [(.long x7), (.long (x6 + y6)), (.long (x5 + y5)), (.long (x4 + y4)), (.long (x3 + y3)), (.long (x2 + y2)), (.long (x1 + y1)), (.long (x0 + y0)), (.ref b1), (.ref b1)]))
  refine Wp.step (fun t k => XS.aloadN X43.here hx rfl (hb hby d4_71) rfl rfl k) ?_
  show Wp p e below _ (T43.setTop (mkF m 72 #[.val (.ref d0), .val (.ref d1)] [(.ref d1), (.long x7), (.long (x6 + y6)), (.long (x5 + y5)), (.long (x4 + y4)), (.long (x3 + y3)), (.long (x2 + y2)), (.long (x1 + y1)), (.long (x0 + y0)), (.ref b1), (.ref b1)]))
  obtain ⟨T44, X44, e44, st44⟩ := getF X43 hx hZ hown (host := "") (Or.inl (hw _ (List.mem_of_getElem? (i := 28) rfl))) Via.refl e43 c19 (g := (mkF m 72 #[.val (.ref d0), .val (.ref d1)] [(.ref d1), (.long x7), (.long (x6 + y6)), (.long (x5 + y5)), (.long (x4 + y4)), (.long (x3 + y3)), (.long (x2 + y2)), (.long (x1 + y1)), (.long (x0 + y0)), (.ref b1), (.ref b1)])) rfl rfl (hb hby d4_72)
  refine Wp.step st44 ?_
  show Wp p e below _ (T44.setTop (mkF m 75 #[.val (.ref d0), .val (.ref d1)] [(.long y7), (.long x7), (.long (x6 + y6)), (.long (x5 + y5)), (.long (x4 + y4)), (.long (x3 + y3)), (.long (x2 + y2)), (.long (x1 + y1)), (.long (x0 + y0)), (.ref b1), (.ref b1)]))
  refine Wp.step (fun t k => XS.ladd X44.here hx rfl (hb hby d4_75) rfl k) ?_
  show Wp p e below _ (T44.setTop (mkF m 76 #[.val (.ref d0), .val (.ref d1)] [(.long (x7 + y7)), (.long (x6 + y6)), (.long (x5 + y5)), (.long (x4 + y4)), (.long (x3 + y3)), (.long (x2 + y2)), (.long (x1 + y1)), (.long (x0 + y0)), (.ref b1), (.ref b1)]))
  obtain ⟨_, _, ⟨T45, L45, k45, n45⟩, -, X45, ⟨Lc45, hQ45, l45, y45, z45⟩, st45⟩ := X44.specialBack hx (y := (⟨"com/example/graphloom/graphloom/engine/graph/SideEffects", "<init>", "(JJJJJJJJ)V"⟩ : MethodName)) rfl hown (mvT hZ (hw _ (List.mem_of_getElem? (i := 36) rfl))) (mvT hZ (hw _ (List.mem_of_getElem? (i := 4) rfl))) (mvT hZ (hw _ (List.mem_of_getElem? (i := 5) rfl))) (by decide) (backOf (W := 1) (rm1 l Z a0 hw [] b1 (x0 + y0) (x1 + y1) (x2 + y2) (x3 + y3) (x4 + y4) (x5 + y5) (x6 + y6) (x7 + y7)  h1 n0 (Nat.le_trans Z0 K20.1) g_b1 A1 c21 c22 c23 c24 c25 c26 c27 c28 ) hZ (hw _ (List.mem_of_getElem? (i := 5) rfl)) (hw _ (List.mem_of_getElem? (i := 2) rfl)) (by decide) (by decide)) (g := (mkF m 76 #[.val (.ref d0), .val (.ref d1)] [(.long (x7 + y7)), (.long (x6 + y6)), (.long (x5 + y5)), (.long (x4 + y4)), (.long (x3 + y3)), (.long (x2 + y2)), (.long (x1 + y1)), (.long (x0 + y0)), (.ref b1), (.ref b1)])) rfl (by rw [hml]; rfl) (Steps.refl _) (a := b1) (argsL := [(.long (x0 + y0)), (.long (x1 + y1)), (.long (x2 + y2)), (.long (x3 + y3)), (.long (x4 + y4)), (.long (x5 + y5)), (.long (x6 + y6)), (.long (x7 + y7))]) (rest := [(.ref b1)]) (lenOf pd_28JJJJJJJJ29V rfl) rfl (by show 2 * 0 + _ ≤ _; exact Nat.le_of_eq rfl) (hb hby d4_76) (fun _ _ => ⟨rfl, e44, (by decide : 1 + 0 ≤ _), (by decide : 8 + 0 ≤ _)⟩)
  dsimp only [Pt.U, Pt.locs, Pt.cells, Pt.slots] at X45 l45 y45 z45 st45 hQ45
  subst l45 y45 z45
  obtain ⟨h45, e45⟩ : ∃ z, T45.heap = z := ⟨_, rfl⟩
  rw [e45] at hQ45
  obtain ⟨rfl, N45q, Kc45, cE45, c45_nodesCreated, c45_nodesDeleted, c45_relationshipsCreated, c45_relationshipsDeleted, c45_labelsAdded, c45_labelsRemoved, c45_propertiesSet, c45_propertiesRemoved⟩ := hQ45
  have N45 := Fr.app N0 N45q
  have c46 := c2.keep Kc45
  have c47 := c3.keep Kc45 (ninS ne_d0_b1 nin0)
  have c48 := c4.keep Kc45 (ninS ne_d0_b1 nin0)
  have c49 := c5.keep Kc45 (ninS ne_d0_b1 nin0)
  have c50 := c6.keep Kc45 (ninS ne_d0_b1 nin0)
  have c51 := c7.keep Kc45 (ninS ne_d0_b1 nin0)
  have c52 := c8.keep Kc45 (ninS ne_d0_b1 nin0)
  have c53 := c9.keep Kc45 (ninS ne_d0_b1 nin0)
  have c54 := c10.keep Kc45 (ninS ne_d0_b1 nin0)
  have c55 := c11.keep Kc45
  have c56 := c12.keep Kc45 (ninS ne_d1_b1 nin0)
  have c57 := c13.keep Kc45 (ninS ne_d1_b1 nin0)
  have c58 := c14.keep Kc45 (ninS ne_d1_b1 nin0)
  have c59 := c15.keep Kc45 (ninS ne_d1_b1 nin0)
  have c60 := c16.keep Kc45 (ninS ne_d1_b1 nin0)
  have c61 := c17.keep Kc45 (ninS ne_d1_b1 nin0)
  have c62 := c18.keep Kc45 (ninS ne_d1_b1 nin0)
  have c63 := c19.keep Kc45 (ninS ne_d1_b1 nin0)
  have c64 := A1.keep Kc45
  have K45 := K20.trans Kc45 (allS (Or.inr sz_b1) all0)
  refine Wp.go st45 ?_
  show Wp p e below _ (T45.setTop (mkF m 79 #[.val (.ref d0), .val (.ref d1)] [(.ref b1)]))
  refine Wp.retA X45 hx Bd.returns rfl (hb hby d4_79) hlk ?_ (by decide) (by decide)
  show Q4 Z d0 d1 x0 x1 x2 x3 x4 x5 x6 x7 y0 y1 y2 y3 y4 y5 y6 y7 h0 n0 (some (.ref b1)) T45.heap _
  rw [e45]
  exact ⟨b1, rfl, N45, K45, sz_b1, g_b1, cE45, c45_nodesCreated, c45_nodesDeleted, c45_relationshipsCreated, c45_relationshipsDeleted, c45_labelsAdded, c45_labelsRemoved, c45_propertiesSet, c45_propertiesRemoved⟩
theorem d5_0 : decode prog_207_method_8_code 0 = .ok (.aload_n 0, 1) := by decide +kernel
theorem d5_1 : decode prog_207_method_8_code 1 = .ok (.getfield 7, 3) := by decide +kernel
theorem d5_4 : decode prog_207_method_8_code 4 = .ok (.lreturn, 1) := by decide +kernel
theorem ef_5_0 (m : MethodId) (x0 : Addr) : entryFrame m #[(.ref x0)] 1 = mkF m 0 #[.val (.ref x0)] [] := by first | (simp [entryFrame, mkF, argsToLocals, Value.category]; done) | rfl
def Q5 (Z : State) (d0 : Addr) (f0 : Int64) (h0 : Heap) (n0 : Nat) (v : Option Value) (h : Heap) (L : List Loc) : Prop := v = some (.long f0) ∧ Fr n0 L ∧ h = h0
set_option maxRecDepth 65536 in
set_option maxHeartbeats 40000000 in
theorem rm5 (l : Launch) (Z : State) (a0 : Array Value) (hw : ∀ d ∈ tables_1, d.before a0 Z = true) (ws : List Jvm.Cond) (d0 : Addr) (f0 : Int64) (h0 : Heap) (n0 : Nat) (Z0 : n0 ≤ h0.size) (F_f : Fld Z h0 d0 "com/example/graphloom/graphloom/engine/graph/SideEffects" "nodesCreated" "J" (.long f0)) :
    MetFree l (⟨"com/example/graphloom/graphloom/engine/graph/SideEffects", "nodesCreated", "()J"⟩ : MethodName) (head1 (Jvm.Cond.code (⟨"com/example/graphloom/graphloom/engine/graph/SideEffects", "nodesCreated", "()J"⟩ : MethodName) prog_207_method_8_code 1 (some .long) :: ws) ({ frames := 0, cells := 0, slots := 0, locals := 0 } : Room)) (fun a U => a = #[(.ref d0)] ∧ Z.Warmed39 U.vm ∧ U.heap = h0) (fun _ _ _ _ _ => True) (fun _ U o U' => ∃ v L, o = .returned v ∧ Q5 Z d0 f0 h0 n0 v U'.heap L ∧ FrameEnd U o U' L ({ frames := 0, cells := 0, slots := 0, locals := 0 } : Room).cells ({ frames := 0, cells := 0, slots := 0, locals := 0 } : Room).slots) := by
  refine MetFree.of_bodySF (plainFor_of_name pn_com_example_graphloom_graphloom_engine_graph_SideEffects) hisR ?_
  intro p e s m args below meth c s₁ Bd hml0 hP hK
  obtain ⟨rfl, hZ, hh⟩ := hP
  have hx := Bd.exec
  have hby := Bd.bytes
  have hlk : meth.locks = false := Bd.notSynchronized
  have hml : c.maxLocals = 1 := hml0
  have hown : s.vm.findClass "com/example/graphloom/graphloom/engine/graph/SideEffects" = some m.cls := findClass_of_methodNamed Bd.named
  have hnm := (name_of_methodNamed Bd.named Bd.method).1
  have X0 : Stand p l e ({ frames := 0, cells := 0, slots := 0, locals := 0 } : Room) s m #[(.ref d0)] below meth c s₁ [] 0 0 := Stand.of_body Bd
  have e0 : s₁.heap = h0 := by rw [← hh, Bd.state]; rfl
  have N0 := Fr.nil n0
  have K0 : Keep h0 h0 [] := Keep.refl h0 _
  show Wp p e below (Out s (Q5 Z d0 f0 h0 n0) ({ frames := 0, cells := 0, slots := 0, locals := 0 } : Room).cells ({ frames := 0, cells := 0, slots := 0, locals := 0 } : Room).slots) (s₁.setTop (entryFrame m #[(.ref d0)] 1))
  rw [ef_5_0]
  show Wp p e below _ (s₁.setTop (mkF m 0 #[.val (.ref d0)] []))
  refine Wp.step (fun t k => XS.aloadN X0.here hx rfl (hb hby d5_0) rfl rfl k) ?_
  show Wp p e below _ (s₁.setTop (mkF m 1 #[.val (.ref d0)] [(.ref d0)]))
  obtain ⟨T1, X1, e1, st1⟩ := getF X0 hx hZ hown (host := "") (Or.inl (hw _ (List.mem_of_getElem? (i := 14) rfl))) Via.refl e0 F_f (g := (mkF m 1 #[.val (.ref d0)] [(.ref d0)])) rfl rfl (hb hby d5_1)
  refine Wp.step st1 ?_
  show Wp p e below _ (T1.setTop (mkF m 4 #[.val (.ref d0)] [(.long f0)]))
  refine Wp.retJ X1 hx Bd.returns (hb hby d5_4) hlk ?_ (by decide) (by decide)
  show Q5 Z d0 f0 h0 n0 (some (.long f0)) T1.heap _
  rw [e1]
  exact ⟨rfl, N0, rfl⟩
theorem d6_0 : decode prog_207_method_9_code 0 = .ok (.aload_n 0, 1) := by decide +kernel
theorem d6_1 : decode prog_207_method_9_code 1 = .ok (.getfield 13, 3) := by decide +kernel
theorem d6_4 : decode prog_207_method_9_code 4 = .ok (.lreturn, 1) := by decide +kernel
theorem ef_6_0 (m : MethodId) (x0 : Addr) : entryFrame m #[(.ref x0)] 1 = mkF m 0 #[.val (.ref x0)] [] := by first | (simp [entryFrame, mkF, argsToLocals, Value.category]; done) | rfl
def Q6 (Z : State) (d0 : Addr) (f0 : Int64) (h0 : Heap) (n0 : Nat) (v : Option Value) (h : Heap) (L : List Loc) : Prop := v = some (.long f0) ∧ Fr n0 L ∧ h = h0
set_option maxRecDepth 65536 in
set_option maxHeartbeats 40000000 in
theorem rm6 (l : Launch) (Z : State) (a0 : Array Value) (hw : ∀ d ∈ tables_1, d.before a0 Z = true) (ws : List Jvm.Cond) (d0 : Addr) (f0 : Int64) (h0 : Heap) (n0 : Nat) (Z0 : n0 ≤ h0.size) (F_f : Fld Z h0 d0 "com/example/graphloom/graphloom/engine/graph/SideEffects" "nodesDeleted" "J" (.long f0)) :
    MetFree l (⟨"com/example/graphloom/graphloom/engine/graph/SideEffects", "nodesDeleted", "()J"⟩ : MethodName) (head1 (Jvm.Cond.code (⟨"com/example/graphloom/graphloom/engine/graph/SideEffects", "nodesDeleted", "()J"⟩ : MethodName) prog_207_method_9_code 1 (some .long) :: ws) ({ frames := 0, cells := 0, slots := 0, locals := 0 } : Room)) (fun a U => a = #[(.ref d0)] ∧ Z.Warmed39 U.vm ∧ U.heap = h0) (fun _ _ _ _ _ => True) (fun _ U o U' => ∃ v L, o = .returned v ∧ Q6 Z d0 f0 h0 n0 v U'.heap L ∧ FrameEnd U o U' L ({ frames := 0, cells := 0, slots := 0, locals := 0 } : Room).cells ({ frames := 0, cells := 0, slots := 0, locals := 0 } : Room).slots) := by
  refine MetFree.of_bodySF (plainFor_of_name pn_com_example_graphloom_graphloom_engine_graph_SideEffects) hisR ?_
  intro p e s m args below meth c s₁ Bd hml0 hP hK
  obtain ⟨rfl, hZ, hh⟩ := hP
  have hx := Bd.exec
  have hby := Bd.bytes
  have hlk : meth.locks = false := Bd.notSynchronized
  have hml : c.maxLocals = 1 := hml0
  have hown : s.vm.findClass "com/example/graphloom/graphloom/engine/graph/SideEffects" = some m.cls := findClass_of_methodNamed Bd.named
  have hnm := (name_of_methodNamed Bd.named Bd.method).1
  have X0 : Stand p l e ({ frames := 0, cells := 0, slots := 0, locals := 0 } : Room) s m #[(.ref d0)] below meth c s₁ [] 0 0 := Stand.of_body Bd
  have e0 : s₁.heap = h0 := by rw [← hh, Bd.state]; rfl
  have N0 := Fr.nil n0
  have K0 : Keep h0 h0 [] := Keep.refl h0 _
  show Wp p e below (Out s (Q6 Z d0 f0 h0 n0) ({ frames := 0, cells := 0, slots := 0, locals := 0 } : Room).cells ({ frames := 0, cells := 0, slots := 0, locals := 0 } : Room).slots) (s₁.setTop (entryFrame m #[(.ref d0)] 1))
  rw [ef_6_0]
  show Wp p e below _ (s₁.setTop (mkF m 0 #[.val (.ref d0)] []))
  refine Wp.step (fun t k => XS.aloadN X0.here hx rfl (hb hby d6_0) rfl rfl k) ?_
  show Wp p e below _ (s₁.setTop (mkF m 1 #[.val (.ref d0)] [(.ref d0)]))
  obtain ⟨T1, X1, e1, st1⟩ := getF X0 hx hZ hown (host := "") (Or.inl (hw _ (List.mem_of_getElem? (i := 16) rfl))) Via.refl e0 F_f (g := (mkF m 1 #[.val (.ref d0)] [(.ref d0)])) rfl rfl (hb hby d6_1)
  refine Wp.step st1 ?_
  show Wp p e below _ (T1.setTop (mkF m 4 #[.val (.ref d0)] [(.long f0)]))
  refine Wp.retJ X1 hx Bd.returns (hb hby d6_4) hlk ?_ (by decide) (by decide)
  show Q6 Z d0 f0 h0 n0 (some (.long f0)) T1.heap _
  rw [e1]
  exact ⟨rfl, N0, rfl⟩
theorem d7_0 : decode prog_207_method_10_code 0 = .ok (.aload_n 0, 1) := by decide +kernel
theorem d7_1 : decode prog_207_method_10_code 1 = .ok (.getfield 16, 3) := by decide +kernel
theorem d7_4 : decode prog_207_method_10_code 4 = .ok (.lreturn, 1) := by decide +kernel
theorem ef_7_0 (m : MethodId) (x0 : Addr) : entryFrame m #[(.ref x0)] 1 = mkF m 0 #[.val (.ref x0)] [] := by first | (simp [entryFrame, mkF, argsToLocals, Value.category]; done) | rfl
def Q7 (Z : State) (d0 : Addr) (f0 : Int64) (h0 : Heap) (n0 : Nat) (v : Option Value) (h : Heap) (L : List Loc) : Prop := v = some (.long f0) ∧ Fr n0 L ∧ h = h0
set_option maxRecDepth 65536 in
set_option maxHeartbeats 40000000 in
theorem rm7 (l : Launch) (Z : State) (a0 : Array Value) (hw : ∀ d ∈ tables_1, d.before a0 Z = true) (ws : List Jvm.Cond) (d0 : Addr) (f0 : Int64) (h0 : Heap) (n0 : Nat) (Z0 : n0 ≤ h0.size) (F_f : Fld Z h0 d0 "com/example/graphloom/graphloom/engine/graph/SideEffects" "relationshipsCreated" "J" (.long f0)) :
    MetFree l (⟨"com/example/graphloom/graphloom/engine/graph/SideEffects", "relationshipsCreated", "()J"⟩ : MethodName) (head1 (Jvm.Cond.code (⟨"com/example/graphloom/graphloom/engine/graph/SideEffects", "relationshipsCreated", "()J"⟩ : MethodName) prog_207_method_10_code 1 (some .long) :: ws) ({ frames := 0, cells := 0, slots := 0, locals := 0 } : Room)) (fun a U => a = #[(.ref d0)] ∧ Z.Warmed39 U.vm ∧ U.heap = h0) (fun _ _ _ _ _ => True) (fun _ U o U' => ∃ v L, o = .returned v ∧ Q7 Z d0 f0 h0 n0 v U'.heap L ∧ FrameEnd U o U' L ({ frames := 0, cells := 0, slots := 0, locals := 0 } : Room).cells ({ frames := 0, cells := 0, slots := 0, locals := 0 } : Room).slots) := by
  refine MetFree.of_bodySF (plainFor_of_name pn_com_example_graphloom_graphloom_engine_graph_SideEffects) hisR ?_
  intro p e s m args below meth c s₁ Bd hml0 hP hK
  obtain ⟨rfl, hZ, hh⟩ := hP
  have hx := Bd.exec
  have hby := Bd.bytes
  have hlk : meth.locks = false := Bd.notSynchronized
  have hml : c.maxLocals = 1 := hml0
  have hown : s.vm.findClass "com/example/graphloom/graphloom/engine/graph/SideEffects" = some m.cls := findClass_of_methodNamed Bd.named
  have hnm := (name_of_methodNamed Bd.named Bd.method).1
  have X0 : Stand p l e ({ frames := 0, cells := 0, slots := 0, locals := 0 } : Room) s m #[(.ref d0)] below meth c s₁ [] 0 0 := Stand.of_body Bd
  have e0 : s₁.heap = h0 := by rw [← hh, Bd.state]; rfl
  have N0 := Fr.nil n0
  have K0 : Keep h0 h0 [] := Keep.refl h0 _
  show Wp p e below (Out s (Q7 Z d0 f0 h0 n0) ({ frames := 0, cells := 0, slots := 0, locals := 0 } : Room).cells ({ frames := 0, cells := 0, slots := 0, locals := 0 } : Room).slots) (s₁.setTop (entryFrame m #[(.ref d0)] 1))
  rw [ef_7_0]
  show Wp p e below _ (s₁.setTop (mkF m 0 #[.val (.ref d0)] []))
  refine Wp.step (fun t k => XS.aloadN X0.here hx rfl (hb hby d7_0) rfl rfl k) ?_
  show Wp p e below _ (s₁.setTop (mkF m 1 #[.val (.ref d0)] [(.ref d0)]))
  obtain ⟨T1, X1, e1, st1⟩ := getF X0 hx hZ hown (host := "") (Or.inl (hw _ (List.mem_of_getElem? (i := 18) rfl))) Via.refl e0 F_f (g := (mkF m 1 #[.val (.ref d0)] [(.ref d0)])) rfl rfl (hb hby d7_1)
  refine Wp.step st1 ?_
  show Wp p e below _ (T1.setTop (mkF m 4 #[.val (.ref d0)] [(.long f0)]))
  refine Wp.retJ X1 hx Bd.returns (hb hby d7_4) hlk ?_ (by decide) (by decide)
  show Q7 Z d0 f0 h0 n0 (some (.long f0)) T1.heap _
  rw [e1]
  exact ⟨rfl, N0, rfl⟩
theorem d8_0 : decode prog_207_method_11_code 0 = .ok (.aload_n 0, 1) := by decide +kernel
theorem d8_1 : decode prog_207_method_11_code 1 = .ok (.getfield 19, 3) := by decide +kernel
theorem d8_4 : decode prog_207_method_11_code 4 = .ok (.lreturn, 1) := by decide +kernel
theorem ef_8_0 (m : MethodId) (x0 : Addr) : entryFrame m #[(.ref x0)] 1 = mkF m 0 #[.val (.ref x0)] [] := by first | (simp [entryFrame, mkF, argsToLocals, Value.category]; done) | rfl
def Q8 (Z : State) (d0 : Addr) (f0 : Int64) (h0 : Heap) (n0 : Nat) (v : Option Value) (h : Heap) (L : List Loc) : Prop := v = some (.long f0) ∧ Fr n0 L ∧ h = h0
set_option maxRecDepth 65536 in
set_option maxHeartbeats 40000000 in
theorem rm8 (l : Launch) (Z : State) (a0 : Array Value) (hw : ∀ d ∈ tables_1, d.before a0 Z = true) (ws : List Jvm.Cond) (d0 : Addr) (f0 : Int64) (h0 : Heap) (n0 : Nat) (Z0 : n0 ≤ h0.size) (F_f : Fld Z h0 d0 "com/example/graphloom/graphloom/engine/graph/SideEffects" "relationshipsDeleted" "J" (.long f0)) :
    MetFree l (⟨"com/example/graphloom/graphloom/engine/graph/SideEffects", "relationshipsDeleted", "()J"⟩ : MethodName) (head1 (Jvm.Cond.code (⟨"com/example/graphloom/graphloom/engine/graph/SideEffects", "relationshipsDeleted", "()J"⟩ : MethodName) prog_207_method_11_code 1 (some .long) :: ws) ({ frames := 0, cells := 0, slots := 0, locals := 0 } : Room)) (fun a U => a = #[(.ref d0)] ∧ Z.Warmed39 U.vm ∧ U.heap = h0) (fun _ _ _ _ _ => True) (fun _ U o U' => ∃ v L, o = .returned v ∧ Q8 Z d0 f0 h0 n0 v U'.heap L ∧ FrameEnd U o U' L ({ frames := 0, cells := 0, slots := 0, locals := 0 } : Room).cells ({ frames := 0, cells := 0, slots := 0, locals := 0 } : Room).slots) := by
  refine MetFree.of_bodySF (plainFor_of_name pn_com_example_graphloom_graphloom_engine_graph_SideEffects) hisR ?_
  intro p e s m args below meth c s₁ Bd hml0 hP hK
  obtain ⟨rfl, hZ, hh⟩ := hP
  have hx := Bd.exec
  have hby := Bd.bytes
  have hlk : meth.locks = false := Bd.notSynchronized
  have hml : c.maxLocals = 1 := hml0
  have hown : s.vm.findClass "com/example/graphloom/graphloom/engine/graph/SideEffects" = some m.cls := findClass_of_methodNamed Bd.named
  have hnm := (name_of_methodNamed Bd.named Bd.method).1
  have X0 : Stand p l e ({ frames := 0, cells := 0, slots := 0, locals := 0 } : Room) s m #[(.ref d0)] below meth c s₁ [] 0 0 := Stand.of_body Bd
  have e0 : s₁.heap = h0 := by rw [← hh, Bd.state]; rfl
  have N0 := Fr.nil n0
  have K0 : Keep h0 h0 [] := Keep.refl h0 _
  show Wp p e below (Out s (Q8 Z d0 f0 h0 n0) ({ frames := 0, cells := 0, slots := 0, locals := 0 } : Room).cells ({ frames := 0, cells := 0, slots := 0, locals := 0 } : Room).slots) (s₁.setTop (entryFrame m #[(.ref d0)] 1))
  rw [ef_8_0]
  show Wp p e below _ (s₁.setTop (mkF m 0 #[.val (.ref d0)] []))
  refine Wp.step (fun t k => XS.aloadN X0.here hx rfl (hb hby d8_0) rfl rfl k) ?_
  show Wp p e below _ (s₁.setTop (mkF m 1 #[.val (.ref d0)] [(.ref d0)]))
  obtain ⟨T1, X1, e1, st1⟩ := getF X0 hx hZ hown (host := "") (Or.inl (hw _ (List.mem_of_getElem? (i := 20) rfl))) Via.refl e0 F_f (g := (mkF m 1 #[.val (.ref d0)] [(.ref d0)])) rfl rfl (hb hby d8_1)
  refine Wp.step st1 ?_
  show Wp p e below _ (T1.setTop (mkF m 4 #[.val (.ref d0)] [(.long f0)]))
  refine Wp.retJ X1 hx Bd.returns (hb hby d8_4) hlk ?_ (by decide) (by decide)
  show Q8 Z d0 f0 h0 n0 (some (.long f0)) T1.heap _
  rw [e1]
  exact ⟨rfl, N0, rfl⟩
theorem d9_0 : decode prog_207_method_12_code 0 = .ok (.aload_n 0, 1) := by decide +kernel
theorem d9_1 : decode prog_207_method_12_code 1 = .ok (.getfield 22, 3) := by decide +kernel
theorem d9_4 : decode prog_207_method_12_code 4 = .ok (.lreturn, 1) := by decide +kernel
theorem ef_9_0 (m : MethodId) (x0 : Addr) : entryFrame m #[(.ref x0)] 1 = mkF m 0 #[.val (.ref x0)] [] := by first | (simp [entryFrame, mkF, argsToLocals, Value.category]; done) | rfl
def Q9 (Z : State) (d0 : Addr) (f0 : Int64) (h0 : Heap) (n0 : Nat) (v : Option Value) (h : Heap) (L : List Loc) : Prop := v = some (.long f0) ∧ Fr n0 L ∧ h = h0
set_option maxRecDepth 65536 in
set_option maxHeartbeats 40000000 in
theorem rm9 (l : Launch) (Z : State) (a0 : Array Value) (hw : ∀ d ∈ tables_1, d.before a0 Z = true) (ws : List Jvm.Cond) (d0 : Addr) (f0 : Int64) (h0 : Heap) (n0 : Nat) (Z0 : n0 ≤ h0.size) (F_f : Fld Z h0 d0 "com/example/graphloom/graphloom/engine/graph/SideEffects" "labelsAdded" "J" (.long f0)) :
    MetFree l (⟨"com/example/graphloom/graphloom/engine/graph/SideEffects", "labelsAdded", "()J"⟩ : MethodName) (head1 (Jvm.Cond.code (⟨"com/example/graphloom/graphloom/engine/graph/SideEffects", "labelsAdded", "()J"⟩ : MethodName) prog_207_method_12_code 1 (some .long) :: ws) ({ frames := 0, cells := 0, slots := 0, locals := 0 } : Room)) (fun a U => a = #[(.ref d0)] ∧ Z.Warmed39 U.vm ∧ U.heap = h0) (fun _ _ _ _ _ => True) (fun _ U o U' => ∃ v L, o = .returned v ∧ Q9 Z d0 f0 h0 n0 v U'.heap L ∧ FrameEnd U o U' L ({ frames := 0, cells := 0, slots := 0, locals := 0 } : Room).cells ({ frames := 0, cells := 0, slots := 0, locals := 0 } : Room).slots) := by
  refine MetFree.of_bodySF (plainFor_of_name pn_com_example_graphloom_graphloom_engine_graph_SideEffects) hisR ?_
  intro p e s m args below meth c s₁ Bd hml0 hP hK
  obtain ⟨rfl, hZ, hh⟩ := hP
  have hx := Bd.exec
  have hby := Bd.bytes
  have hlk : meth.locks = false := Bd.notSynchronized
  have hml : c.maxLocals = 1 := hml0
  have hown : s.vm.findClass "com/example/graphloom/graphloom/engine/graph/SideEffects" = some m.cls := findClass_of_methodNamed Bd.named
  have hnm := (name_of_methodNamed Bd.named Bd.method).1
  have X0 : Stand p l e ({ frames := 0, cells := 0, slots := 0, locals := 0 } : Room) s m #[(.ref d0)] below meth c s₁ [] 0 0 := Stand.of_body Bd
  have e0 : s₁.heap = h0 := by rw [← hh, Bd.state]; rfl
  have N0 := Fr.nil n0
  have K0 : Keep h0 h0 [] := Keep.refl h0 _
  show Wp p e below (Out s (Q9 Z d0 f0 h0 n0) ({ frames := 0, cells := 0, slots := 0, locals := 0 } : Room).cells ({ frames := 0, cells := 0, slots := 0, locals := 0 } : Room).slots) (s₁.setTop (entryFrame m #[(.ref d0)] 1))
  rw [ef_9_0]
  show Wp p e below _ (s₁.setTop (mkF m 0 #[.val (.ref d0)] []))
  refine Wp.step (fun t k => XS.aloadN X0.here hx rfl (hb hby d9_0) rfl rfl k) ?_
  show Wp p e below _ (s₁.setTop (mkF m 1 #[.val (.ref d0)] [(.ref d0)]))
  obtain ⟨T1, X1, e1, st1⟩ := getF X0 hx hZ hown (host := "") (Or.inl (hw _ (List.mem_of_getElem? (i := 22) rfl))) Via.refl e0 F_f (g := (mkF m 1 #[.val (.ref d0)] [(.ref d0)])) rfl rfl (hb hby d9_1)
  refine Wp.step st1 ?_
  show Wp p e below _ (T1.setTop (mkF m 4 #[.val (.ref d0)] [(.long f0)]))
  refine Wp.retJ X1 hx Bd.returns (hb hby d9_4) hlk ?_ (by decide) (by decide)
  show Q9 Z d0 f0 h0 n0 (some (.long f0)) T1.heap _
  rw [e1]
  exact ⟨rfl, N0, rfl⟩
theorem d10_0 : decode prog_207_method_13_code 0 = .ok (.aload_n 0, 1) := by decide +kernel
theorem d10_1 : decode prog_207_method_13_code 1 = .ok (.getfield 25, 3) := by decide +kernel
theorem d10_4 : decode prog_207_method_13_code 4 = .ok (.lreturn, 1) := by decide +kernel
theorem ef_10_0 (m : MethodId) (x0 : Addr) : entryFrame m #[(.ref x0)] 1 = mkF m 0 #[.val (.ref x0)] [] := by first | (simp [entryFrame, mkF, argsToLocals, Value.category]; done) | rfl
def Q10 (Z : State) (d0 : Addr) (f0 : Int64) (h0 : Heap) (n0 : Nat) (v : Option Value) (h : Heap) (L : List Loc) : Prop := v = some (.long f0) ∧ Fr n0 L ∧ h = h0
set_option maxRecDepth 65536 in
set_option maxHeartbeats 40000000 in
theorem rm10 (l : Launch) (Z : State) (a0 : Array Value) (hw : ∀ d ∈ tables_1, d.before a0 Z = true) (ws : List Jvm.Cond) (d0 : Addr) (f0 : Int64) (h0 : Heap) (n0 : Nat) (Z0 : n0 ≤ h0.size) (F_f : Fld Z h0 d0 "com/example/graphloom/graphloom/engine/graph/SideEffects" "labelsRemoved" "J" (.long f0)) :
    MetFree l (⟨"com/example/graphloom/graphloom/engine/graph/SideEffects", "labelsRemoved", "()J"⟩ : MethodName) (head1 (Jvm.Cond.code (⟨"com/example/graphloom/graphloom/engine/graph/SideEffects", "labelsRemoved", "()J"⟩ : MethodName) prog_207_method_13_code 1 (some .long) :: ws) ({ frames := 0, cells := 0, slots := 0, locals := 0 } : Room)) (fun a U => a = #[(.ref d0)] ∧ Z.Warmed39 U.vm ∧ U.heap = h0) (fun _ _ _ _ _ => True) (fun _ U o U' => ∃ v L, o = .returned v ∧ Q10 Z d0 f0 h0 n0 v U'.heap L ∧ FrameEnd U o U' L ({ frames := 0, cells := 0, slots := 0, locals := 0 } : Room).cells ({ frames := 0, cells := 0, slots := 0, locals := 0 } : Room).slots) := by
  refine MetFree.of_bodySF (plainFor_of_name pn_com_example_graphloom_graphloom_engine_graph_SideEffects) hisR ?_
  intro p e s m args below meth c s₁ Bd hml0 hP hK
  obtain ⟨rfl, hZ, hh⟩ := hP
  have hx := Bd.exec
  have hby := Bd.bytes
  have hlk : meth.locks = false := Bd.notSynchronized
  have hml : c.maxLocals = 1 := hml0
  have hown : s.vm.findClass "com/example/graphloom/graphloom/engine/graph/SideEffects" = some m.cls := findClass_of_methodNamed Bd.named
  have hnm := (name_of_methodNamed Bd.named Bd.method).1
  have X0 : Stand p l e ({ frames := 0, cells := 0, slots := 0, locals := 0 } : Room) s m #[(.ref d0)] below meth c s₁ [] 0 0 := Stand.of_body Bd
  have e0 : s₁.heap = h0 := by rw [← hh, Bd.state]; rfl
  have N0 := Fr.nil n0
  have K0 : Keep h0 h0 [] := Keep.refl h0 _
  show Wp p e below (Out s (Q10 Z d0 f0 h0 n0) ({ frames := 0, cells := 0, slots := 0, locals := 0 } : Room).cells ({ frames := 0, cells := 0, slots := 0, locals := 0 } : Room).slots) (s₁.setTop (entryFrame m #[(.ref d0)] 1))
  rw [ef_10_0]
  show Wp p e below _ (s₁.setTop (mkF m 0 #[.val (.ref d0)] []))
  refine Wp.step (fun t k => XS.aloadN X0.here hx rfl (hb hby d10_0) rfl rfl k) ?_
  show Wp p e below _ (s₁.setTop (mkF m 1 #[.val (.ref d0)] [(.ref d0)]))
  obtain ⟨T1, X1, e1, st1⟩ := getF X0 hx hZ hown (host := "") (Or.inl (hw _ (List.mem_of_getElem? (i := 24) rfl))) Via.refl e0 F_f (g := (mkF m 1 #[.val (.ref d0)] [(.ref d0)])) rfl rfl (hb hby d10_1)
  refine Wp.step st1 ?_
  show Wp p e below _ (T1.setTop (mkF m 4 #[.val (.ref d0)] [(.long f0)]))
  refine Wp.retJ X1 hx Bd.returns (hb hby d10_4) hlk ?_ (by decide) (by decide)
  show Q10 Z d0 f0 h0 n0 (some (.long f0)) T1.heap _
  rw [e1]
  exact ⟨rfl, N0, rfl⟩
theorem d11_0 : decode prog_207_method_14_code 0 = .ok (.aload_n 0, 1) := by decide +kernel
theorem d11_1 : decode prog_207_method_14_code 1 = .ok (.getfield 28, 3) := by decide +kernel
theorem d11_4 : decode prog_207_method_14_code 4 = .ok (.lreturn, 1) := by decide +kernel
theorem ef_11_0 (m : MethodId) (x0 : Addr) : entryFrame m #[(.ref x0)] 1 = mkF m 0 #[.val (.ref x0)] [] := by first | (simp [entryFrame, mkF, argsToLocals, Value.category]; done) | rfl
def Q11 (Z : State) (d0 : Addr) (f0 : Int64) (h0 : Heap) (n0 : Nat) (v : Option Value) (h : Heap) (L : List Loc) : Prop := v = some (.long f0) ∧ Fr n0 L ∧ h = h0
set_option maxRecDepth 65536 in
set_option maxHeartbeats 40000000 in
theorem rm11 (l : Launch) (Z : State) (a0 : Array Value) (hw : ∀ d ∈ tables_1, d.before a0 Z = true) (ws : List Jvm.Cond) (d0 : Addr) (f0 : Int64) (h0 : Heap) (n0 : Nat) (Z0 : n0 ≤ h0.size) (F_f : Fld Z h0 d0 "com/example/graphloom/graphloom/engine/graph/SideEffects" "propertiesSet" "J" (.long f0)) :
    MetFree l (⟨"com/example/graphloom/graphloom/engine/graph/SideEffects", "propertiesSet", "()J"⟩ : MethodName) (head1 (Jvm.Cond.code (⟨"com/example/graphloom/graphloom/engine/graph/SideEffects", "propertiesSet", "()J"⟩ : MethodName) prog_207_method_14_code 1 (some .long) :: ws) ({ frames := 0, cells := 0, slots := 0, locals := 0 } : Room)) (fun a U => a = #[(.ref d0)] ∧ Z.Warmed39 U.vm ∧ U.heap = h0) (fun _ _ _ _ _ => True) (fun _ U o U' => ∃ v L, o = .returned v ∧ Q11 Z d0 f0 h0 n0 v U'.heap L ∧ FrameEnd U o U' L ({ frames := 0, cells := 0, slots := 0, locals := 0 } : Room).cells ({ frames := 0, cells := 0, slots := 0, locals := 0 } : Room).slots) := by
  refine MetFree.of_bodySF (plainFor_of_name pn_com_example_graphloom_graphloom_engine_graph_SideEffects) hisR ?_
  intro p e s m args below meth c s₁ Bd hml0 hP hK
  obtain ⟨rfl, hZ, hh⟩ := hP
  have hx := Bd.exec
  have hby := Bd.bytes
  have hlk : meth.locks = false := Bd.notSynchronized
  have hml : c.maxLocals = 1 := hml0
  have hown : s.vm.findClass "com/example/graphloom/graphloom/engine/graph/SideEffects" = some m.cls := findClass_of_methodNamed Bd.named
  have hnm := (name_of_methodNamed Bd.named Bd.method).1
  have X0 : Stand p l e ({ frames := 0, cells := 0, slots := 0, locals := 0 } : Room) s m #[(.ref d0)] below meth c s₁ [] 0 0 := Stand.of_body Bd
  have e0 : s₁.heap = h0 := by rw [← hh, Bd.state]; rfl
  have N0 := Fr.nil n0
  have K0 : Keep h0 h0 [] := Keep.refl h0 _
  show Wp p e below (Out s (Q11 Z d0 f0 h0 n0) ({ frames := 0, cells := 0, slots := 0, locals := 0 } : Room).cells ({ frames := 0, cells := 0, slots := 0, locals := 0 } : Room).slots) (s₁.setTop (entryFrame m #[(.ref d0)] 1))
  rw [ef_11_0]
  show Wp p e below _ (s₁.setTop (mkF m 0 #[.val (.ref d0)] []))
  refine Wp.step (fun t k => XS.aloadN X0.here hx rfl (hb hby d11_0) rfl rfl k) ?_
  show Wp p e below _ (s₁.setTop (mkF m 1 #[.val (.ref d0)] [(.ref d0)]))
  obtain ⟨T1, X1, e1, st1⟩ := getF X0 hx hZ hown (host := "") (Or.inl (hw _ (List.mem_of_getElem? (i := 26) rfl))) Via.refl e0 F_f (g := (mkF m 1 #[.val (.ref d0)] [(.ref d0)])) rfl rfl (hb hby d11_1)
  refine Wp.step st1 ?_
  show Wp p e below _ (T1.setTop (mkF m 4 #[.val (.ref d0)] [(.long f0)]))
  refine Wp.retJ X1 hx Bd.returns (hb hby d11_4) hlk ?_ (by decide) (by decide)
  show Q11 Z d0 f0 h0 n0 (some (.long f0)) T1.heap _
  rw [e1]
  exact ⟨rfl, N0, rfl⟩
theorem d12_0 : decode prog_207_method_15_code 0 = .ok (.aload_n 0, 1) := by decide +kernel
theorem d12_1 : decode prog_207_method_15_code 1 = .ok (.getfield 31, 3) := by decide +kernel
theorem d12_4 : decode prog_207_method_15_code 4 = .ok (.lreturn, 1) := by decide +kernel
theorem ef_12_0 (m : MethodId) (x0 : Addr) : entryFrame m #[(.ref x0)] 1 = mkF m 0 #[.val (.ref x0)] [] := by first | (simp [entryFrame, mkF, argsToLocals, Value.category]; done) | rfl
def Q12 (Z : State) (d0 : Addr) (f0 : Int64) (h0 : Heap) (n0 : Nat) (v : Option Value) (h : Heap) (L : List Loc) : Prop := v = some (.long f0) ∧ Fr n0 L ∧ h = h0
set_option maxRecDepth 65536 in
set_option maxHeartbeats 40000000 in
theorem rm12 (l : Launch) (Z : State) (a0 : Array Value) (hw : ∀ d ∈ tables_1, d.before a0 Z = true) (ws : List Jvm.Cond) (d0 : Addr) (f0 : Int64) (h0 : Heap) (n0 : Nat) (Z0 : n0 ≤ h0.size) (F_f : Fld Z h0 d0 "com/example/graphloom/graphloom/engine/graph/SideEffects" "propertiesRemoved" "J" (.long f0)) :
    MetFree l (⟨"com/example/graphloom/graphloom/engine/graph/SideEffects", "propertiesRemoved", "()J"⟩ : MethodName) (head1 (Jvm.Cond.code (⟨"com/example/graphloom/graphloom/engine/graph/SideEffects", "propertiesRemoved", "()J"⟩ : MethodName) prog_207_method_15_code 1 (some .long) :: ws) ({ frames := 0, cells := 0, slots := 0, locals := 0 } : Room)) (fun a U => a = #[(.ref d0)] ∧ Z.Warmed39 U.vm ∧ U.heap = h0) (fun _ _ _ _ _ => True) (fun _ U o U' => ∃ v L, o = .returned v ∧ Q12 Z d0 f0 h0 n0 v U'.heap L ∧ FrameEnd U o U' L ({ frames := 0, cells := 0, slots := 0, locals := 0 } : Room).cells ({ frames := 0, cells := 0, slots := 0, locals := 0 } : Room).slots) := by
  refine MetFree.of_bodySF (plainFor_of_name pn_com_example_graphloom_graphloom_engine_graph_SideEffects) hisR ?_
  intro p e s m args below meth c s₁ Bd hml0 hP hK
  obtain ⟨rfl, hZ, hh⟩ := hP
  have hx := Bd.exec
  have hby := Bd.bytes
  have hlk : meth.locks = false := Bd.notSynchronized
  have hml : c.maxLocals = 1 := hml0
  have hown : s.vm.findClass "com/example/graphloom/graphloom/engine/graph/SideEffects" = some m.cls := findClass_of_methodNamed Bd.named
  have hnm := (name_of_methodNamed Bd.named Bd.method).1
  have X0 : Stand p l e ({ frames := 0, cells := 0, slots := 0, locals := 0 } : Room) s m #[(.ref d0)] below meth c s₁ [] 0 0 := Stand.of_body Bd
  have e0 : s₁.heap = h0 := by rw [← hh, Bd.state]; rfl
  have N0 := Fr.nil n0
  have K0 : Keep h0 h0 [] := Keep.refl h0 _
  show Wp p e below (Out s (Q12 Z d0 f0 h0 n0) ({ frames := 0, cells := 0, slots := 0, locals := 0 } : Room).cells ({ frames := 0, cells := 0, slots := 0, locals := 0 } : Room).slots) (s₁.setTop (entryFrame m #[(.ref d0)] 1))
  rw [ef_12_0]
  show Wp p e below _ (s₁.setTop (mkF m 0 #[.val (.ref d0)] []))
  refine Wp.step (fun t k => XS.aloadN X0.here hx rfl (hb hby d12_0) rfl rfl k) ?_
  show Wp p e below _ (s₁.setTop (mkF m 1 #[.val (.ref d0)] [(.ref d0)]))
  obtain ⟨T1, X1, e1, st1⟩ := getF X0 hx hZ hown (host := "") (Or.inl (hw _ (List.mem_of_getElem? (i := 28) rfl))) Via.refl e0 F_f (g := (mkF m 1 #[.val (.ref d0)] [(.ref d0)])) rfl rfl (hb hby d12_1)
  refine Wp.step st1 ?_
  show Wp p e below _ (T1.setTop (mkF m 4 #[.val (.ref d0)] [(.long f0)]))
  refine Wp.retJ X1 hx Bd.returns (hb hby d12_4) hlk ?_ (by decide) (by decide)
  show Q12 Z d0 f0 h0 n0 (some (.long f0)) T1.heap _
  rw [e1]
  exact ⟨rfl, N0, rfl⟩
theorem pd_28Lcom2fexample2fgraphloom2fgraphloom2fengine2fgraph2fSideEffects3b29Lcom2fexample2fgraphloom2fgraphloom2fengine2fgraph2fSideEffects3b : parseMethodDescriptor "(Lcom/example/graphloom/graphloom/engine/graph/SideEffects;)Lcom/example/graphloom/graphloom/engine/graph/SideEffects;" = some ⟨[(.object "com/example/graphloom/graphloom/engine/graph/SideEffects")], some (.object "com/example/graphloom/graphloom/engine/graph/SideEffects")⟩ := by decide +kernel
theorem pd_2829J : parseMethodDescriptor "()J" = some ⟨[], some .long⟩ := by decide +kernel
theorem pn_com_example_graphloom_graphloom_engine_graph_SideEffectsPlusPinLaw : plainName "com/example/graphloom/graphloom/engine/graph/SideEffectsPlusPinLaw" = true := by first | (simp [plainName, overriddenIn]; done) | decide +kernel
theorem ef_0_000000 (m : MethodId) (x0 : Int64) (x1 : Int64) (x2 : Int64) (x3 : Int64) (x4 : Int64) (x5 : Int64) : entryFrame m #[(.long x0), (.long x1), (.long x2), (.long x3), (.long x4), (.long x5)] maxLocals = mkF m 0 #[.val (.long x0), .second, .val (.long x1), .second, .val (.long x2), .second, .val (.long x3), .second, .val (.long x4), .second, .val (.long x5), .second, .unset, .unset, .unset, .unset, .unset, .unset, .unset, .unset, .unset, .unset, .unset, .unset, .unset, .unset, .unset, .unset, .unset, .unset, .unset, .unset, .unset, .unset, .unset, .unset, .unset, .unset, .unset, .unset, .unset, .unset, .unset, .unset, .unset, .unset, .unset] [] := by first | (simp [entryFrame, mkF, argsToLocals, Value.category, maxLocals]; done) | rfl
def Q0 (Z : State) (q0 : Int64) (q1 : Int64) (q2 : Int64) (q3 : Int64) (q4 : Int64) (q5 : Int64) (h0 : Heap) (n0 : Nat) (v : Option Value) (h : Heap) (L : List Loc) : Prop := v = some (.int 1) ∧ Fr n0 L
set_option maxRecDepth 65536 in
set_option maxHeartbeats 40000000 in
theorem rm0 (l : Launch) (Z : State) (a0 : Array Value) (hw : ∀ d ∈ tables_1, d.before a0 Z = true) (ws : List Jvm.Cond) (q0 : Int64) (q1 : Int64) (q2 : Int64) (q3 : Int64) (q4 : Int64) (q5 : Int64) (h0 : Heap) (n0 : Nat) (Z0 : n0 ≤ h0.size) :
    MetFree l x (head1 (Jvm.Cond.code x code maxLocals ret :: ws) room_1) (fun a U => a = #[(.long q0), (.long q1), (.long q2), (.long q3), (.long q4), (.long q5)] ∧ Z.Warmed39 U.vm ∧ U.heap = h0) (fun _ _ _ _ _ => True) (fun _ U o U' => ∃ v L, o = .returned v ∧ Q0 Z q0 q1 q2 q3 q4 q5 h0 n0 v U'.heap L ∧ FrameEnd U o U' L room_1.cells room_1.slots) := by
  refine MetFree.of_bodySF (plainFor_of_name pn_com_example_graphloom_graphloom_engine_graph_SideEffectsPlusPinLaw) hisR ?_
  intro p e s m args below meth c s₁ Bd hml0 hP hK
  obtain ⟨rfl, hZ, hh⟩ := hP
  have hx := Bd.exec
  have hby := Bd.bytes
  have hlk : meth.locks = false := Bd.notSynchronized
  have hml : c.maxLocals = 47 := hml0
  have hown : s.vm.findClass "com/example/graphloom/graphloom/engine/graph/SideEffectsPlusPinLaw" = some m.cls := findClass_of_methodNamed Bd.named
  have hnm := (name_of_methodNamed Bd.named Bd.method).1
  have X0 : Stand p l e room_1 s m #[(.long q0), (.long q1), (.long q2), (.long q3), (.long q4), (.long q5)] below meth c s₁ [] 0 0 := Stand.of_body Bd
  have e0 : s₁.heap = h0 := by rw [← hh, Bd.state]; rfl
  have N0 := Fr.nil n0
  have K0 : Keep h0 h0 [] := Keep.refl h0 _
  show Wp p e below (Out s (Q0 Z q0 q1 q2 q3 q4 q5 h0 n0) room_1.cells room_1.slots) (s₁.setTop (entryFrame m #[(.long q0), (.long q1), (.long q2), (.long q3), (.long q4), (.long q5)] maxLocals))
  rw [ef_0_000000]
  show Wp p e below _ (s₁.setTop (mkF m 0 #[.val (.long q0), .second, .val (.long q1), .second, .val (.long q2), .second, .val (.long q3), .second, .val (.long q4), .second, .val (.long q5), .second, .unset, .unset, .unset, .unset, .unset, .unset, .unset, .unset, .unset, .unset, .unset, .unset, .unset, .unset, .unset, .unset, .unset, .unset, .unset, .unset, .unset, .unset, .unset, .unset, .unset, .unset, .unset, .unset, .unset, .unset, .unset, .unset, .unset, .unset, .unset] []))
  refine Wp.step (fun t k => XS.lloadN X0.here hx rfl (hb hby at_0) rfl k) ?_
  show Wp p e below _ (s₁.setTop (mkF m 1 #[.val (.long q0), .second, .val (.long q1), .second, .val (.long q2), .second, .val (.long q3), .second, .val (.long q4), .second, .val (.long q5), .second, .unset, .unset, .unset, .unset, .unset, .unset, .unset, .unset, .unset, .unset, .unset, .unset, .unset, .unset, .unset, .unset, .unset, .unset, .unset, .unset, .unset, .unset, .unset, .unset, .unset, .unset, .unset, .unset, .unset, .unset, .unset, .unset, .unset, .unset, .unset] [(.long q0)]))
  refine Wp.step (fun t k => XS.lstore X0.here hx rfl (hb hby at_1) rfl (l' := #[.val (.long q0), .second, .val (.long q1), .second, .val (.long q2), .second, .val (.long q3), .second, .val (.long q4), .second, .val (.long q5), .second, .val (.long q0), .second, .unset, .unset, .unset, .unset, .unset, .unset, .unset, .unset, .unset, .unset, .unset, .unset, .unset, .unset, .unset, .unset, .unset, .unset, .unset, .unset, .unset, .unset, .unset, .unset, .unset, .unset, .unset, .unset, .unset, .unset, .unset, .unset, .unset]) rfl k) ?_
  show Wp p e below _ (s₁.setTop (mkF m 3 #[.val (.long q0), .second, .val (.long q1), .second, .val (.long q2), .second, .val (.long q3), .second, .val (.long q4), .second, .val (.long q5), .second, .val (.long q0), .second, .unset, .unset, .unset, .unset, .unset, .unset, .unset, .unset, .unset, .unset, .unset, .unset, .unset, .unset, .unset, .unset, .unset, .unset, .unset, .unset, .unset, .unset, .unset, .unset, .unset, .unset, .unset, .unset, .unset, .unset, .unset, .unset, .unset] []))
  refine Wp.step (fun t k => XS.lloadN X0.here hx rfl (hb hby at_3) rfl k) ?_
  show Wp p e below _ (s₁.setTop (mkF m 4 #[.val (.long q0), .second, .val (.long q1), .second, .val (.long q2), .second, .val (.long q3), .second, .val (.long q4), .second, .val (.long q5), .second, .val (.long q0), .second, .unset, .unset, .unset, .unset, .unset, .unset, .unset, .unset, .unset, .unset, .unset, .unset, .unset, .unset, .unset, .unset, .unset, .unset, .unset, .unset, .unset, .unset, .unset, .unset, .unset, .unset, .unset, .unset, .unset, .unset, .unset, .unset, .unset] [(.long q1)]))
  refine Wp.step (fun t k => XS.lstore X0.here hx rfl (hb hby at_4) rfl (l' := #[.val (.long q0), .second, .val (.long q1), .second, .val (.long q2), .second, .val (.long q3), .second, .val (.long q4), .second, .val (.long q5), .second, .val (.long q0), .second, .val (.long q1), .second, .unset, .unset, .unset, .unset, .unset, .unset, .unset, .unset, .unset, .unset, .unset, .unset, .unset, .unset, .unset, .unset, .unset, .unset, .unset, .unset, .unset, .unset, .unset, .unset, .unset, .unset, .unset, .unset, .unset, .unset, .unset]) rfl k) ?_
  show Wp p e below _ (s₁.setTop (mkF m 6 #[.val (.long q0), .second, .val (.long q1), .second, .val (.long q2), .second, .val (.long q3), .second, .val (.long q4), .second, .val (.long q5), .second, .val (.long q0), .second, .val (.long q1), .second, .unset, .unset, .unset, .unset, .unset, .unset, .unset, .unset, .unset, .unset, .unset, .unset, .unset, .unset, .unset, .unset, .unset, .unset, .unset, .unset, .unset, .unset, .unset, .unset, .unset, .unset, .unset, .unset, .unset, .unset, .unset] []))
  refine Wp.step (fun t k => XS.lload X0.here hx rfl (hb hby at_6) rfl k) ?_
  show Wp p e below _ (s₁.setTop (mkF m 8 #[.val (.long q0), .second, .val (.long q1), .second, .val (.long q2), .second, .val (.long q3), .second, .val (.long q4), .second, .val (.long q5), .second, .val (.long q0), .second, .val (.long q1), .second, .unset, .unset, .unset, .unset, .unset, .unset, .unset, .unset, .unset, .unset, .unset, .unset, .unset, .unset, .unset, .unset, .unset, .unset, .unset, .unset, .unset, .unset, .unset, .unset, .unset, .unset, .unset, .unset, .unset, .unset, .unset] [(.long q2)]))
  refine Wp.step (fun t k => XS.lstore X0.here hx rfl (hb hby at_8) rfl (l' := #[.val (.long q0), .second, .val (.long q1), .second, .val (.long q2), .second, .val (.long q3), .second, .val (.long q4), .second, .val (.long q5), .second, .val (.long q0), .second, .val (.long q1), .second, .val (.long q2), .second, .unset, .unset, .unset, .unset, .unset, .unset, .unset, .unset, .unset, .unset, .unset, .unset, .unset, .unset, .unset, .unset, .unset, .unset, .unset, .unset, .unset, .unset, .unset, .unset, .unset, .unset, .unset, .unset, .unset]) rfl k) ?_
  show Wp p e below _ (s₁.setTop (mkF m 10 #[.val (.long q0), .second, .val (.long q1), .second, .val (.long q2), .second, .val (.long q3), .second, .val (.long q4), .second, .val (.long q5), .second, .val (.long q0), .second, .val (.long q1), .second, .val (.long q2), .second, .unset, .unset, .unset, .unset, .unset, .unset, .unset, .unset, .unset, .unset, .unset, .unset, .unset, .unset, .unset, .unset, .unset, .unset, .unset, .unset, .unset, .unset, .unset, .unset, .unset, .unset, .unset, .unset, .unset] []))
  refine Wp.step (fun t k => XS.lload X0.here hx rfl (hb hby at_10) rfl k) ?_
  show Wp p e below _ (s₁.setTop (mkF m 12 #[.val (.long q0), .second, .val (.long q1), .second, .val (.long q2), .second, .val (.long q3), .second, .val (.long q4), .second, .val (.long q5), .second, .val (.long q0), .second, .val (.long q1), .second, .val (.long q2), .second, .unset, .unset, .unset, .unset, .unset, .unset, .unset, .unset, .unset, .unset, .unset, .unset, .unset, .unset, .unset, .unset, .unset, .unset, .unset, .unset, .unset, .unset, .unset, .unset, .unset, .unset, .unset, .unset, .unset] [(.long q3)]))
  refine Wp.step (fun t k => XS.lstore X0.here hx rfl (hb hby at_12) rfl (l' := #[.val (.long q0), .second, .val (.long q1), .second, .val (.long q2), .second, .val (.long q3), .second, .val (.long q4), .second, .val (.long q5), .second, .val (.long q0), .second, .val (.long q1), .second, .val (.long q2), .second, .val (.long q3), .second, .unset, .unset, .unset, .unset, .unset, .unset, .unset, .unset, .unset, .unset, .unset, .unset, .unset, .unset, .unset, .unset, .unset, .unset, .unset, .unset, .unset, .unset, .unset, .unset, .unset, .unset, .unset]) rfl k) ?_
  show Wp p e below _ (s₁.setTop (mkF m 14 #[.val (.long q0), .second, .val (.long q1), .second, .val (.long q2), .second, .val (.long q3), .second, .val (.long q4), .second, .val (.long q5), .second, .val (.long q0), .second, .val (.long q1), .second, .val (.long q2), .second, .val (.long q3), .second, .unset, .unset, .unset, .unset, .unset, .unset, .unset, .unset, .unset, .unset, .unset, .unset, .unset, .unset, .unset, .unset, .unset, .unset, .unset, .unset, .unset, .unset, .unset, .unset, .unset, .unset, .unset] []))
  refine Wp.step (fun t k => XS.lload X0.here hx rfl (hb hby at_14) rfl k) ?_
  show Wp p e below _ (s₁.setTop (mkF m 16 #[.val (.long q0), .second, .val (.long q1), .second, .val (.long q2), .second, .val (.long q3), .second, .val (.long q4), .second, .val (.long q5), .second, .val (.long q0), .second, .val (.long q1), .second, .val (.long q2), .second, .val (.long q3), .second, .unset, .unset, .unset, .unset, .unset, .unset, .unset, .unset, .unset, .unset, .unset, .unset, .unset, .unset, .unset, .unset, .unset, .unset, .unset, .unset, .unset, .unset, .unset, .unset, .unset, .unset, .unset] [(.long q4)]))
  refine Wp.step (fun t k => XS.lstore X0.here hx rfl (hb hby at_16) rfl (l' := #[.val (.long q0), .second, .val (.long q1), .second, .val (.long q2), .second, .val (.long q3), .second, .val (.long q4), .second, .val (.long q5), .second, .val (.long q0), .second, .val (.long q1), .second, .val (.long q2), .second, .val (.long q3), .second, .val (.long q4), .second, .unset, .unset, .unset, .unset, .unset, .unset, .unset, .unset, .unset, .unset, .unset, .unset, .unset, .unset, .unset, .unset, .unset, .unset, .unset, .unset, .unset, .unset, .unset, .unset, .unset]) rfl k) ?_
  show Wp p e below _ (s₁.setTop (mkF m 18 #[.val (.long q0), .second, .val (.long q1), .second, .val (.long q2), .second, .val (.long q3), .second, .val (.long q4), .second, .val (.long q5), .second, .val (.long q0), .second, .val (.long q1), .second, .val (.long q2), .second, .val (.long q3), .second, .val (.long q4), .second, .unset, .unset, .unset, .unset, .unset, .unset, .unset, .unset, .unset, .unset, .unset, .unset, .unset, .unset, .unset, .unset, .unset, .unset, .unset, .unset, .unset, .unset, .unset, .unset, .unset] []))
  refine Wp.step (fun t k => XS.lload X0.here hx rfl (hb hby at_18) rfl k) ?_
  show Wp p e below _ (s₁.setTop (mkF m 20 #[.val (.long q0), .second, .val (.long q1), .second, .val (.long q2), .second, .val (.long q3), .second, .val (.long q4), .second, .val (.long q5), .second, .val (.long q0), .second, .val (.long q1), .second, .val (.long q2), .second, .val (.long q3), .second, .val (.long q4), .second, .unset, .unset, .unset, .unset, .unset, .unset, .unset, .unset, .unset, .unset, .unset, .unset, .unset, .unset, .unset, .unset, .unset, .unset, .unset, .unset, .unset, .unset, .unset, .unset, .unset] [(.long q5)]))
  refine Wp.step (fun t k => XS.lstore X0.here hx rfl (hb hby at_20) rfl (l' := #[.val (.long q0), .second, .val (.long q1), .second, .val (.long q2), .second, .val (.long q3), .second, .val (.long q4), .second, .val (.long q5), .second, .val (.long q0), .second, .val (.long q1), .second, .val (.long q2), .second, .val (.long q3), .second, .val (.long q4), .second, .val (.long q5), .second, .unset, .unset, .unset, .unset, .unset, .unset, .unset, .unset, .unset, .unset, .unset, .unset, .unset, .unset, .unset, .unset, .unset, .unset, .unset, .unset, .unset, .unset, .unset]) rfl k) ?_
  show Wp p e below _ (s₁.setTop (mkF m 22 #[.val (.long q0), .second, .val (.long q1), .second, .val (.long q2), .second, .val (.long q3), .second, .val (.long q4), .second, .val (.long q5), .second, .val (.long q0), .second, .val (.long q1), .second, .val (.long q2), .second, .val (.long q3), .second, .val (.long q4), .second, .val (.long q5), .second, .unset, .unset, .unset, .unset, .unset, .unset, .unset, .unset, .unset, .unset, .unset, .unset, .unset, .unset, .unset, .unset, .unset, .unset, .unset, .unset, .unset, .unset, .unset] []))
  refine Wp.step (fun t k => XS.lloadN X0.here hx rfl (hb hby at_22) rfl k) ?_
  show Wp p e below _ (s₁.setTop (mkF m 23 #[.val (.long q0), .second, .val (.long q1), .second, .val (.long q2), .second, .val (.long q3), .second, .val (.long q4), .second, .val (.long q5), .second, .val (.long q0), .second, .val (.long q1), .second, .val (.long q2), .second, .val (.long q3), .second, .val (.long q4), .second, .val (.long q5), .second, .unset, .unset, .unset, .unset, .unset, .unset, .unset, .unset, .unset, .unset, .unset, .unset, .unset, .unset, .unset, .unset, .unset, .unset, .unset, .unset, .unset, .unset, .unset] [(.long q0)]))
  refine Wp.step (fun t k => XS.lloadN X0.here hx rfl (hb hby at_23) rfl k) ?_
  show Wp p e below _ (s₁.setTop (mkF m 24 #[.val (.long q0), .second, .val (.long q1), .second, .val (.long q2), .second, .val (.long q3), .second, .val (.long q4), .second, .val (.long q5), .second, .val (.long q0), .second, .val (.long q1), .second, .val (.long q2), .second, .val (.long q3), .second, .val (.long q4), .second, .val (.long q5), .second, .unset, .unset, .unset, .unset, .unset, .unset, .unset, .unset, .unset, .unset, .unset, .unset, .unset, .unset, .unset, .unset, .unset, .unset, .unset, .unset, .unset, .unset, .unset] [(.long q1), (.long q0)]))
  refine Wp.step (fun t k => XS.lxor X0.here hx rfl (hb hby at_24) rfl k) ?_
  show Wp p e below _ (s₁.setTop (mkF m 25 #[.val (.long q0), .second, .val (.long q1), .second, .val (.long q2), .second, .val (.long q3), .second, .val (.long q4), .second, .val (.long q5), .second, .val (.long q0), .second, .val (.long q1), .second, .val (.long q2), .second, .val (.long q3), .second, .val (.long q4), .second, .val (.long q5), .second, .unset, .unset, .unset, .unset, .unset, .unset, .unset, .unset, .unset, .unset, .unset, .unset, .unset, .unset, .unset, .unset, .unset, .unset, .unset, .unset, .unset, .unset, .unset] [(.long (q0 ^^^ q1))]))
  refine Wp.step (fun t k => XS.lstore X0.here hx rfl (hb hby at_25) rfl (l' := #[.val (.long q0), .second, .val (.long q1), .second, .val (.long q2), .second, .val (.long q3), .second, .val (.long q4), .second, .val (.long q5), .second, .val (.long q0), .second, .val (.long q1), .second, .val (.long q2), .second, .val (.long q3), .second, .val (.long q4), .second, .val (.long q5), .second, .val (.long (q0 ^^^ q1)), .second, .unset, .unset, .unset, .unset, .unset, .unset, .unset, .unset, .unset, .unset, .unset, .unset, .unset, .unset, .unset, .unset, .unset, .unset, .unset, .unset, .unset]) rfl k) ?_
  show Wp p e below _ (s₁.setTop (mkF m 27 #[.val (.long q0), .second, .val (.long q1), .second, .val (.long q2), .second, .val (.long q3), .second, .val (.long q4), .second, .val (.long q5), .second, .val (.long q0), .second, .val (.long q1), .second, .val (.long q2), .second, .val (.long q3), .second, .val (.long q4), .second, .val (.long q5), .second, .val (.long (q0 ^^^ q1)), .second, .unset, .unset, .unset, .unset, .unset, .unset, .unset, .unset, .unset, .unset, .unset, .unset, .unset, .unset, .unset, .unset, .unset, .unset, .unset, .unset, .unset] []))
  refine Wp.step (fun t k => XS.lload X0.here hx rfl (hb hby at_27) rfl k) ?_
  show Wp p e below _ (s₁.setTop (mkF m 29 #[.val (.long q0), .second, .val (.long q1), .second, .val (.long q2), .second, .val (.long q3), .second, .val (.long q4), .second, .val (.long q5), .second, .val (.long q0), .second, .val (.long q1), .second, .val (.long q2), .second, .val (.long q3), .second, .val (.long q4), .second, .val (.long q5), .second, .val (.long (q0 ^^^ q1)), .second, .unset, .unset, .unset, .unset, .unset, .unset, .unset, .unset, .unset, .unset, .unset, .unset, .unset, .unset, .unset, .unset, .unset, .unset, .unset, .unset, .unset] [(.long q2)]))
  refine Wp.step (fun t k => XS.lload X0.here hx rfl (hb hby at_29) rfl k) ?_
  show Wp p e below _ (s₁.setTop (mkF m 31 #[.val (.long q0), .second, .val (.long q1), .second, .val (.long q2), .second, .val (.long q3), .second, .val (.long q4), .second, .val (.long q5), .second, .val (.long q0), .second, .val (.long q1), .second, .val (.long q2), .second, .val (.long q3), .second, .val (.long q4), .second, .val (.long q5), .second, .val (.long (q0 ^^^ q1)), .second, .unset, .unset, .unset, .unset, .unset, .unset, .unset, .unset, .unset, .unset, .unset, .unset, .unset, .unset, .unset, .unset, .unset, .unset, .unset, .unset, .unset] [(.long q3), (.long q2)]))
  refine Wp.step (fun t k => XS.lxor X0.here hx rfl (hb hby at_31) rfl k) ?_
  show Wp p e below _ (s₁.setTop (mkF m 32 #[.val (.long q0), .second, .val (.long q1), .second, .val (.long q2), .second, .val (.long q3), .second, .val (.long q4), .second, .val (.long q5), .second, .val (.long q0), .second, .val (.long q1), .second, .val (.long q2), .second, .val (.long q3), .second, .val (.long q4), .second, .val (.long q5), .second, .val (.long (q0 ^^^ q1)), .second, .unset, .unset, .unset, .unset, .unset, .unset, .unset, .unset, .unset, .unset, .unset, .unset, .unset, .unset, .unset, .unset, .unset, .unset, .unset, .unset, .unset] [(.long (q2 ^^^ q3))]))
  refine Wp.step (fun t k => XS.lstore X0.here hx rfl (hb hby at_32) rfl (l' := #[.val (.long q0), .second, .val (.long q1), .second, .val (.long q2), .second, .val (.long q3), .second, .val (.long q4), .second, .val (.long q5), .second, .val (.long q0), .second, .val (.long q1), .second, .val (.long q2), .second, .val (.long q3), .second, .val (.long q4), .second, .val (.long q5), .second, .val (.long (q0 ^^^ q1)), .second, .val (.long (q2 ^^^ q3)), .second, .unset, .unset, .unset, .unset, .unset, .unset, .unset, .unset, .unset, .unset, .unset, .unset, .unset, .unset, .unset, .unset, .unset, .unset, .unset]) rfl k) ?_
  show Wp p e below _ (s₁.setTop (mkF m 34 #[.val (.long q0), .second, .val (.long q1), .second, .val (.long q2), .second, .val (.long q3), .second, .val (.long q4), .second, .val (.long q5), .second, .val (.long q0), .second, .val (.long q1), .second, .val (.long q2), .second, .val (.long q3), .second, .val (.long q4), .second, .val (.long q5), .second, .val (.long (q0 ^^^ q1)), .second, .val (.long (q2 ^^^ q3)), .second, .unset, .unset, .unset, .unset, .unset, .unset, .unset, .unset, .unset, .unset, .unset, .unset, .unset, .unset, .unset, .unset, .unset, .unset, .unset] []))
  refine Wp.step (fun t k => XS.lload X0.here hx rfl (hb hby at_34) rfl k) ?_
  show Wp p e below _ (s₁.setTop (mkF m 36 #[.val (.long q0), .second, .val (.long q1), .second, .val (.long q2), .second, .val (.long q3), .second, .val (.long q4), .second, .val (.long q5), .second, .val (.long q0), .second, .val (.long q1), .second, .val (.long q2), .second, .val (.long q3), .second, .val (.long q4), .second, .val (.long q5), .second, .val (.long (q0 ^^^ q1)), .second, .val (.long (q2 ^^^ q3)), .second, .unset, .unset, .unset, .unset, .unset, .unset, .unset, .unset, .unset, .unset, .unset, .unset, .unset, .unset, .unset, .unset, .unset, .unset, .unset] [(.long q4)]))
  refine Wp.step (fun t k => XS.lstore X0.here hx rfl (hb hby at_36) rfl (l' := #[.val (.long q0), .second, .val (.long q1), .second, .val (.long q2), .second, .val (.long q3), .second, .val (.long q4), .second, .val (.long q5), .second, .val (.long q0), .second, .val (.long q1), .second, .val (.long q2), .second, .val (.long q3), .second, .val (.long q4), .second, .val (.long q5), .second, .val (.long (q0 ^^^ q1)), .second, .val (.long (q2 ^^^ q3)), .second, .val (.long q4), .second, .unset, .unset, .unset, .unset, .unset, .unset, .unset, .unset, .unset, .unset, .unset, .unset, .unset, .unset, .unset, .unset, .unset]) rfl k) ?_
  show Wp p e below _ (s₁.setTop (mkF m 38 #[.val (.long q0), .second, .val (.long q1), .second, .val (.long q2), .second, .val (.long q3), .second, .val (.long q4), .second, .val (.long q5), .second, .val (.long q0), .second, .val (.long q1), .second, .val (.long q2), .second, .val (.long q3), .second, .val (.long q4), .second, .val (.long q5), .second, .val (.long (q0 ^^^ q1)), .second, .val (.long (q2 ^^^ q3)), .second, .val (.long q4), .second, .unset, .unset, .unset, .unset, .unset, .unset, .unset, .unset, .unset, .unset, .unset, .unset, .unset, .unset, .unset, .unset, .unset] []))
  refine Wp.step (fun t k => XS.lload X0.here hx rfl (hb hby at_38) rfl k) ?_
  show Wp p e below _ (s₁.setTop (mkF m 40 #[.val (.long q0), .second, .val (.long q1), .second, .val (.long q2), .second, .val (.long q3), .second, .val (.long q4), .second, .val (.long q5), .second, .val (.long q0), .second, .val (.long q1), .second, .val (.long q2), .second, .val (.long q3), .second, .val (.long q4), .second, .val (.long q5), .second, .val (.long (q0 ^^^ q1)), .second, .val (.long (q2 ^^^ q3)), .second, .val (.long q4), .second, .unset, .unset, .unset, .unset, .unset, .unset, .unset, .unset, .unset, .unset, .unset, .unset, .unset, .unset, .unset, .unset, .unset] [(.long q5)]))
  refine Wp.step (fun t k => XS.lstore X0.here hx rfl (hb hby at_40) rfl (l' := #[.val (.long q0), .second, .val (.long q1), .second, .val (.long q2), .second, .val (.long q3), .second, .val (.long q4), .second, .val (.long q5), .second, .val (.long q0), .second, .val (.long q1), .second, .val (.long q2), .second, .val (.long q3), .second, .val (.long q4), .second, .val (.long q5), .second, .val (.long (q0 ^^^ q1)), .second, .val (.long (q2 ^^^ q3)), .second, .val (.long q4), .second, .val (.long q5), .second, .unset, .unset, .unset, .unset, .unset, .unset, .unset, .unset, .unset, .unset, .unset, .unset, .unset, .unset, .unset]) rfl k) ?_
  show Wp p e below _ (s₁.setTop (mkF m 42 #[.val (.long q0), .second, .val (.long q1), .second, .val (.long q2), .second, .val (.long q3), .second, .val (.long q4), .second, .val (.long q5), .second, .val (.long q0), .second, .val (.long q1), .second, .val (.long q2), .second, .val (.long q3), .second, .val (.long q4), .second, .val (.long q5), .second, .val (.long (q0 ^^^ q1)), .second, .val (.long (q2 ^^^ q3)), .second, .val (.long q4), .second, .val (.long q5), .second, .unset, .unset, .unset, .unset, .unset, .unset, .unset, .unset, .unset, .unset, .unset, .unset, .unset, .unset, .unset] []))
  refine Wp.step (fun t k => XS.lload X0.here hx rfl (hb hby at_42) rfl k) ?_
  show Wp p e below _ (s₁.setTop (mkF m 44 #[.val (.long q0), .second, .val (.long q1), .second, .val (.long q2), .second, .val (.long q3), .second, .val (.long q4), .second, .val (.long q5), .second, .val (.long q0), .second, .val (.long q1), .second, .val (.long q2), .second, .val (.long q3), .second, .val (.long q4), .second, .val (.long q5), .second, .val (.long (q0 ^^^ q1)), .second, .val (.long (q2 ^^^ q3)), .second, .val (.long q4), .second, .val (.long q5), .second, .unset, .unset, .unset, .unset, .unset, .unset, .unset, .unset, .unset, .unset, .unset, .unset, .unset, .unset, .unset] [(.long q3)]))
  refine Wp.step (fun t k => XS.lloadN X0.here hx rfl (hb hby at_44) rfl k) ?_
  show Wp p e below _ (s₁.setTop (mkF m 45 #[.val (.long q0), .second, .val (.long q1), .second, .val (.long q2), .second, .val (.long q3), .second, .val (.long q4), .second, .val (.long q5), .second, .val (.long q0), .second, .val (.long q1), .second, .val (.long q2), .second, .val (.long q3), .second, .val (.long q4), .second, .val (.long q5), .second, .val (.long (q0 ^^^ q1)), .second, .val (.long (q2 ^^^ q3)), .second, .val (.long q4), .second, .val (.long q5), .second, .unset, .unset, .unset, .unset, .unset, .unset, .unset, .unset, .unset, .unset, .unset, .unset, .unset, .unset, .unset] [(.long q0), (.long q3)]))
  refine Wp.step (fun t k => XS.lxor X0.here hx rfl (hb hby at_45) rfl k) ?_
  show Wp p e below _ (s₁.setTop (mkF m 46 #[.val (.long q0), .second, .val (.long q1), .second, .val (.long q2), .second, .val (.long q3), .second, .val (.long q4), .second, .val (.long q5), .second, .val (.long q0), .second, .val (.long q1), .second, .val (.long q2), .second, .val (.long q3), .second, .val (.long q4), .second, .val (.long q5), .second, .val (.long (q0 ^^^ q1)), .second, .val (.long (q2 ^^^ q3)), .second, .val (.long q4), .second, .val (.long q5), .second, .unset, .unset, .unset, .unset, .unset, .unset, .unset, .unset, .unset, .unset, .unset, .unset, .unset, .unset, .unset] [(.long (q3 ^^^ q0))]))
  refine Wp.step (fun t k => XS.lstore X0.here hx rfl (hb hby at_46) rfl (l' := #[.val (.long q0), .second, .val (.long q1), .second, .val (.long q2), .second, .val (.long q3), .second, .val (.long q4), .second, .val (.long q5), .second, .val (.long q0), .second, .val (.long q1), .second, .val (.long q2), .second, .val (.long q3), .second, .val (.long q4), .second, .val (.long q5), .second, .val (.long (q0 ^^^ q1)), .second, .val (.long (q2 ^^^ q3)), .second, .val (.long q4), .second, .val (.long q5), .second, .val (.long (q3 ^^^ q0)), .second, .unset, .unset, .unset, .unset, .unset, .unset, .unset, .unset, .unset, .unset, .unset, .unset, .unset]) rfl k) ?_
  show Wp p e below _ (s₁.setTop (mkF m 48 #[.val (.long q0), .second, .val (.long q1), .second, .val (.long q2), .second, .val (.long q3), .second, .val (.long q4), .second, .val (.long q5), .second, .val (.long q0), .second, .val (.long q1), .second, .val (.long q2), .second, .val (.long q3), .second, .val (.long q4), .second, .val (.long q5), .second, .val (.long (q0 ^^^ q1)), .second, .val (.long (q2 ^^^ q3)), .second, .val (.long q4), .second, .val (.long q5), .second, .val (.long (q3 ^^^ q0)), .second, .unset, .unset, .unset, .unset, .unset, .unset, .unset, .unset, .unset, .unset, .unset, .unset, .unset] []))
  refine Wp.step (fun t k => XS.lloadN X0.here hx rfl (hb hby at_48) rfl k) ?_
  show Wp p e below _ (s₁.setTop (mkF m 49 #[.val (.long q0), .second, .val (.long q1), .second, .val (.long q2), .second, .val (.long q3), .second, .val (.long q4), .second, .val (.long q5), .second, .val (.long q0), .second, .val (.long q1), .second, .val (.long q2), .second, .val (.long q3), .second, .val (.long q4), .second, .val (.long q5), .second, .val (.long (q0 ^^^ q1)), .second, .val (.long (q2 ^^^ q3)), .second, .val (.long q4), .second, .val (.long q5), .second, .val (.long (q3 ^^^ q0)), .second, .unset, .unset, .unset, .unset, .unset, .unset, .unset, .unset, .unset, .unset, .unset, .unset, .unset] [(.long q1)]))
  refine Wp.step (fun t k => XS.lload X0.here hx rfl (hb hby at_49) rfl k) ?_
  show Wp p e below _ (s₁.setTop (mkF m 51 #[.val (.long q0), .second, .val (.long q1), .second, .val (.long q2), .second, .val (.long q3), .second, .val (.long q4), .second, .val (.long q5), .second, .val (.long q0), .second, .val (.long q1), .second, .val (.long q2), .second, .val (.long q3), .second, .val (.long q4), .second, .val (.long q5), .second, .val (.long (q0 ^^^ q1)), .second, .val (.long (q2 ^^^ q3)), .second, .val (.long q4), .second, .val (.long q5), .second, .val (.long (q3 ^^^ q0)), .second, .unset, .unset, .unset, .unset, .unset, .unset, .unset, .unset, .unset, .unset, .unset, .unset, .unset] [(.long q4), (.long q1)]))
  refine Wp.step (fun t k => XS.lxor X0.here hx rfl (hb hby at_51) rfl k) ?_
  show Wp p e below _ (s₁.setTop (mkF m 52 #[.val (.long q0), .second, .val (.long q1), .second, .val (.long q2), .second, .val (.long q3), .second, .val (.long q4), .second, .val (.long q5), .second, .val (.long q0), .second, .val (.long q1), .second, .val (.long q2), .second, .val (.long q3), .second, .val (.long q4), .second, .val (.long q5), .second, .val (.long (q0 ^^^ q1)), .second, .val (.long (q2 ^^^ q3)), .second, .val (.long q4), .second, .val (.long q5), .second, .val (.long (q3 ^^^ q0)), .second, .unset, .unset, .unset, .unset, .unset, .unset, .unset, .unset, .unset, .unset, .unset, .unset, .unset] [(.long (q1 ^^^ q4))]))
  refine Wp.step (fun t k => XS.lstore X0.here hx rfl (hb hby at_52) rfl (l' := #[.val (.long q0), .second, .val (.long q1), .second, .val (.long q2), .second, .val (.long q3), .second, .val (.long q4), .second, .val (.long q5), .second, .val (.long q0), .second, .val (.long q1), .second, .val (.long q2), .second, .val (.long q3), .second, .val (.long q4), .second, .val (.long q5), .second, .val (.long (q0 ^^^ q1)), .second, .val (.long (q2 ^^^ q3)), .second, .val (.long q4), .second, .val (.long q5), .second, .val (.long (q3 ^^^ q0)), .second, .val (.long (q1 ^^^ q4)), .second, .unset, .unset, .unset, .unset, .unset, .unset, .unset, .unset, .unset, .unset, .unset]) rfl k) ?_
  show Wp p e below _ (s₁.setTop (mkF m 54 #[.val (.long q0), .second, .val (.long q1), .second, .val (.long q2), .second, .val (.long q3), .second, .val (.long q4), .second, .val (.long q5), .second, .val (.long q0), .second, .val (.long q1), .second, .val (.long q2), .second, .val (.long q3), .second, .val (.long q4), .second, .val (.long q5), .second, .val (.long (q0 ^^^ q1)), .second, .val (.long (q2 ^^^ q3)), .second, .val (.long q4), .second, .val (.long q5), .second, .val (.long (q3 ^^^ q0)), .second, .val (.long (q1 ^^^ q4)), .second, .unset, .unset, .unset, .unset, .unset, .unset, .unset, .unset, .unset, .unset, .unset] []))
  refine Wp.step (fun t k => XS.lload X0.here hx rfl (hb hby at_54) rfl k) ?_
  show Wp p e below _ (s₁.setTop (mkF m 56 #[.val (.long q0), .second, .val (.long q1), .second, .val (.long q2), .second, .val (.long q3), .second, .val (.long q4), .second, .val (.long q5), .second, .val (.long q0), .second, .val (.long q1), .second, .val (.long q2), .second, .val (.long q3), .second, .val (.long q4), .second, .val (.long q5), .second, .val (.long (q0 ^^^ q1)), .second, .val (.long (q2 ^^^ q3)), .second, .val (.long q4), .second, .val (.long q5), .second, .val (.long (q3 ^^^ q0)), .second, .val (.long (q1 ^^^ q4)), .second, .unset, .unset, .unset, .unset, .unset, .unset, .unset, .unset, .unset, .unset, .unset] [(.long q2)]))
  refine Wp.step (fun t k => XS.lstore X0.here hx rfl (hb hby at_56) rfl (l' := #[.val (.long q0), .second, .val (.long q1), .second, .val (.long q2), .second, .val (.long q3), .second, .val (.long q4), .second, .val (.long q5), .second, .val (.long q0), .second, .val (.long q1), .second, .val (.long q2), .second, .val (.long q3), .second, .val (.long q4), .second, .val (.long q5), .second, .val (.long (q0 ^^^ q1)), .second, .val (.long (q2 ^^^ q3)), .second, .val (.long q4), .second, .val (.long q5), .second, .val (.long (q3 ^^^ q0)), .second, .val (.long (q1 ^^^ q4)), .second, .val (.long q2), .second, .unset, .unset, .unset, .unset, .unset, .unset, .unset, .unset, .unset]) rfl k) ?_
  show Wp p e below _ (s₁.setTop (mkF m 58 #[.val (.long q0), .second, .val (.long q1), .second, .val (.long q2), .second, .val (.long q3), .second, .val (.long q4), .second, .val (.long q5), .second, .val (.long q0), .second, .val (.long q1), .second, .val (.long q2), .second, .val (.long q3), .second, .val (.long q4), .second, .val (.long q5), .second, .val (.long (q0 ^^^ q1)), .second, .val (.long (q2 ^^^ q3)), .second, .val (.long q4), .second, .val (.long q5), .second, .val (.long (q3 ^^^ q0)), .second, .val (.long (q1 ^^^ q4)), .second, .val (.long q2), .second, .unset, .unset, .unset, .unset, .unset, .unset, .unset, .unset, .unset] []))
  refine Wp.step (fun t k => XS.lloadN X0.here hx rfl (hb hby at_58) rfl k) ?_
  show Wp p e below _ (s₁.setTop (mkF m 59 #[.val (.long q0), .second, .val (.long q1), .second, .val (.long q2), .second, .val (.long q3), .second, .val (.long q4), .second, .val (.long q5), .second, .val (.long q0), .second, .val (.long q1), .second, .val (.long q2), .second, .val (.long q3), .second, .val (.long q4), .second, .val (.long q5), .second, .val (.long (q0 ^^^ q1)), .second, .val (.long (q2 ^^^ q3)), .second, .val (.long q4), .second, .val (.long q5), .second, .val (.long (q3 ^^^ q0)), .second, .val (.long (q1 ^^^ q4)), .second, .val (.long q2), .second, .unset, .unset, .unset, .unset, .unset, .unset, .unset, .unset, .unset] [(.long q0)]))
  refine Wp.step (fun t k => XS.lstore X0.here hx rfl (hb hby at_59) rfl (l' := #[.val (.long q0), .second, .val (.long q1), .second, .val (.long q2), .second, .val (.long q3), .second, .val (.long q4), .second, .val (.long q5), .second, .val (.long q0), .second, .val (.long q1), .second, .val (.long q2), .second, .val (.long q3), .second, .val (.long q4), .second, .val (.long q5), .second, .val (.long (q0 ^^^ q1)), .second, .val (.long (q2 ^^^ q3)), .second, .val (.long q4), .second, .val (.long q5), .second, .val (.long (q3 ^^^ q0)), .second, .val (.long (q1 ^^^ q4)), .second, .val (.long q2), .second, .val (.long q0), .second, .unset, .unset, .unset, .unset, .unset, .unset, .unset]) rfl k) ?_
  show Wp p e below _ (s₁.setTop (mkF m 61 #[.val (.long q0), .second, .val (.long q1), .second, .val (.long q2), .second, .val (.long q3), .second, .val (.long q4), .second, .val (.long q5), .second, .val (.long q0), .second, .val (.long q1), .second, .val (.long q2), .second, .val (.long q3), .second, .val (.long q4), .second, .val (.long q5), .second, .val (.long (q0 ^^^ q1)), .second, .val (.long (q2 ^^^ q3)), .second, .val (.long q4), .second, .val (.long q5), .second, .val (.long (q3 ^^^ q0)), .second, .val (.long (q1 ^^^ q4)), .second, .val (.long q2), .second, .val (.long q0), .second, .unset, .unset, .unset, .unset, .unset, .unset, .unset] []))
  refine Wp.step (fun t k => XS.lload X0.here hx rfl (hb hby at_61) rfl k) ?_
  show Wp p e below _ (s₁.setTop (mkF m 63 #[.val (.long q0), .second, .val (.long q1), .second, .val (.long q2), .second, .val (.long q3), .second, .val (.long q4), .second, .val (.long q5), .second, .val (.long q0), .second, .val (.long q1), .second, .val (.long q2), .second, .val (.long q3), .second, .val (.long q4), .second, .val (.long q5), .second, .val (.long (q0 ^^^ q1)), .second, .val (.long (q2 ^^^ q3)), .second, .val (.long q4), .second, .val (.long q5), .second, .val (.long (q3 ^^^ q0)), .second, .val (.long (q1 ^^^ q4)), .second, .val (.long q2), .second, .val (.long q0), .second, .unset, .unset, .unset, .unset, .unset, .unset, .unset] [(.long q5)]))
  refine Wp.step (fun t k => XS.lload X0.here hx rfl (hb hby at_63) rfl k) ?_
  show Wp p e below _ (s₁.setTop (mkF m 65 #[.val (.long q0), .second, .val (.long q1), .second, .val (.long q2), .second, .val (.long q3), .second, .val (.long q4), .second, .val (.long q5), .second, .val (.long q0), .second, .val (.long q1), .second, .val (.long q2), .second, .val (.long q3), .second, .val (.long q4), .second, .val (.long q5), .second, .val (.long (q0 ^^^ q1)), .second, .val (.long (q2 ^^^ q3)), .second, .val (.long q4), .second, .val (.long q5), .second, .val (.long (q3 ^^^ q0)), .second, .val (.long (q1 ^^^ q4)), .second, .val (.long q2), .second, .val (.long q0), .second, .unset, .unset, .unset, .unset, .unset, .unset, .unset] [(.long q2), (.long q5)]))
  refine Wp.step (fun t k => XS.lxor X0.here hx rfl (hb hby at_65) rfl k) ?_
  show Wp p e below _ (s₁.setTop (mkF m 66 #[.val (.long q0), .second, .val (.long q1), .second, .val (.long q2), .second, .val (.long q3), .second, .val (.long q4), .second, .val (.long q5), .second, .val (.long q0), .second, .val (.long q1), .second, .val (.long q2), .second, .val (.long q3), .second, .val (.long q4), .second, .val (.long q5), .second, .val (.long (q0 ^^^ q1)), .second, .val (.long (q2 ^^^ q3)), .second, .val (.long q4), .second, .val (.long q5), .second, .val (.long (q3 ^^^ q0)), .second, .val (.long (q1 ^^^ q4)), .second, .val (.long q2), .second, .val (.long q0), .second, .unset, .unset, .unset, .unset, .unset, .unset, .unset] [(.long (q5 ^^^ q2))]))
  refine Wp.step (fun t k => XS.lstore X0.here hx rfl (hb hby at_66) rfl (l' := #[.val (.long q0), .second, .val (.long q1), .second, .val (.long q2), .second, .val (.long q3), .second, .val (.long q4), .second, .val (.long q5), .second, .val (.long q0), .second, .val (.long q1), .second, .val (.long q2), .second, .val (.long q3), .second, .val (.long q4), .second, .val (.long q5), .second, .val (.long (q0 ^^^ q1)), .second, .val (.long (q2 ^^^ q3)), .second, .val (.long q4), .second, .val (.long q5), .second, .val (.long (q3 ^^^ q0)), .second, .val (.long (q1 ^^^ q4)), .second, .val (.long q2), .second, .val (.long q0), .second, .val (.long (q5 ^^^ q2)), .second, .unset, .unset, .unset, .unset, .unset]) rfl k) ?_
  show Wp p e below _ (s₁.setTop (mkF m 68 #[.val (.long q0), .second, .val (.long q1), .second, .val (.long q2), .second, .val (.long q3), .second, .val (.long q4), .second, .val (.long q5), .second, .val (.long q0), .second, .val (.long q1), .second, .val (.long q2), .second, .val (.long q3), .second, .val (.long q4), .second, .val (.long q5), .second, .val (.long (q0 ^^^ q1)), .second, .val (.long (q2 ^^^ q3)), .second, .val (.long q4), .second, .val (.long q5), .second, .val (.long (q3 ^^^ q0)), .second, .val (.long (q1 ^^^ q4)), .second, .val (.long q2), .second, .val (.long q0), .second, .val (.long (q5 ^^^ q2)), .second, .unset, .unset, .unset, .unset, .unset] []))
  refine Wp.step (fun t k => XS.lload X0.here hx rfl (hb hby at_68) rfl k) ?_
  show Wp p e below _ (s₁.setTop (mkF m 70 #[.val (.long q0), .second, .val (.long q1), .second, .val (.long q2), .second, .val (.long q3), .second, .val (.long q4), .second, .val (.long q5), .second, .val (.long q0), .second, .val (.long q1), .second, .val (.long q2), .second, .val (.long q3), .second, .val (.long q4), .second, .val (.long q5), .second, .val (.long (q0 ^^^ q1)), .second, .val (.long (q2 ^^^ q3)), .second, .val (.long q4), .second, .val (.long q5), .second, .val (.long (q3 ^^^ q0)), .second, .val (.long (q1 ^^^ q4)), .second, .val (.long q2), .second, .val (.long q0), .second, .val (.long (q5 ^^^ q2)), .second, .unset, .unset, .unset, .unset, .unset] [(.long q3)]))
  refine Wp.step (fun t k => XS.lloadN X0.here hx rfl (hb hby at_70) rfl k) ?_
  show Wp p e below _ (s₁.setTop (mkF m 71 #[.val (.long q0), .second, .val (.long q1), .second, .val (.long q2), .second, .val (.long q3), .second, .val (.long q4), .second, .val (.long q5), .second, .val (.long q0), .second, .val (.long q1), .second, .val (.long q2), .second, .val (.long q3), .second, .val (.long q4), .second, .val (.long q5), .second, .val (.long (q0 ^^^ q1)), .second, .val (.long (q2 ^^^ q3)), .second, .val (.long q4), .second, .val (.long q5), .second, .val (.long (q3 ^^^ q0)), .second, .val (.long (q1 ^^^ q4)), .second, .val (.long q2), .second, .val (.long q0), .second, .val (.long (q5 ^^^ q2)), .second, .unset, .unset, .unset, .unset, .unset] [(.long q1), (.long q3)]))
  refine Wp.step (fun t k => XS.lxor X0.here hx rfl (hb hby at_71) rfl k) ?_
  show Wp p e below _ (s₁.setTop (mkF m 72 #[.val (.long q0), .second, .val (.long q1), .second, .val (.long q2), .second, .val (.long q3), .second, .val (.long q4), .second, .val (.long q5), .second, .val (.long q0), .second, .val (.long q1), .second, .val (.long q2), .second, .val (.long q3), .second, .val (.long q4), .second, .val (.long q5), .second, .val (.long (q0 ^^^ q1)), .second, .val (.long (q2 ^^^ q3)), .second, .val (.long q4), .second, .val (.long q5), .second, .val (.long (q3 ^^^ q0)), .second, .val (.long (q1 ^^^ q4)), .second, .val (.long q2), .second, .val (.long q0), .second, .val (.long (q5 ^^^ q2)), .second, .unset, .unset, .unset, .unset, .unset] [(.long (q3 ^^^ q1))]))
  refine Wp.step (fun t k => XS.lstore X0.here hx rfl (hb hby at_72) rfl (l' := #[.val (.long q0), .second, .val (.long q1), .second, .val (.long q2), .second, .val (.long q3), .second, .val (.long q4), .second, .val (.long q5), .second, .val (.long q0), .second, .val (.long q1), .second, .val (.long q2), .second, .val (.long q3), .second, .val (.long q4), .second, .val (.long q5), .second, .val (.long (q0 ^^^ q1)), .second, .val (.long (q2 ^^^ q3)), .second, .val (.long q4), .second, .val (.long q5), .second, .val (.long (q3 ^^^ q0)), .second, .val (.long (q1 ^^^ q4)), .second, .val (.long q2), .second, .val (.long q0), .second, .val (.long (q5 ^^^ q2)), .second, .val (.long (q3 ^^^ q1)), .second, .unset, .unset, .unset]) rfl k) ?_
  show Wp p e below _ (s₁.setTop (mkF m 74 #[.val (.long q0), .second, .val (.long q1), .second, .val (.long q2), .second, .val (.long q3), .second, .val (.long q4), .second, .val (.long q5), .second, .val (.long q0), .second, .val (.long q1), .second, .val (.long q2), .second, .val (.long q3), .second, .val (.long q4), .second, .val (.long q5), .second, .val (.long (q0 ^^^ q1)), .second, .val (.long (q2 ^^^ q3)), .second, .val (.long q4), .second, .val (.long q5), .second, .val (.long (q3 ^^^ q0)), .second, .val (.long (q1 ^^^ q4)), .second, .val (.long q2), .second, .val (.long q0), .second, .val (.long (q5 ^^^ q2)), .second, .val (.long (q3 ^^^ q1)), .second, .unset, .unset, .unset] []))
  obtain ⟨T1, h1, X1, e1, E1, A1, D1, -, st1⟩ := newO X0 hx hZ hown (hw _ (List.mem_of_getElem? (i := 0) rfl)) (hw _ (List.mem_of_getElem? (i := 1) rfl)) (hw _ (List.mem_of_getElem? (i := 2) rfl)) e0 (g := (mkF m 74 #[.val (.long q0), .second, .val (.long q1), .second, .val (.long q2), .second, .val (.long q3), .second, .val (.long q4), .second, .val (.long q5), .second, .val (.long q0), .second, .val (.long q1), .second, .val (.long q2), .second, .val (.long q3), .second, .val (.long q4), .second, .val (.long q5), .second, .val (.long (q0 ^^^ q1)), .second, .val (.long (q2 ^^^ q3)), .second, .val (.long q4), .second, .val (.long q5), .second, .val (.long (q3 ^^^ q0)), .second, .val (.long (q1 ^^^ q4)), .second, .val (.long q2), .second, .val (.long q0), .second, .val (.long (q5 ^^^ q2)), .second, .val (.long (q3 ^^^ q1)), .second, .unset, .unset, .unset] [])) rfl (hb hby at_74) (by decide) (by decide)
  obtain ⟨b1, g1⟩ : ∃ z, z = h0.size := ⟨_, rfl⟩
  rw [← g1] at A1 D1 st1
  have g_b1 : n0 ≤ b1 := Nat.le_trans (Nat.le_trans Z0 K0.1) (Nat.le_of_eq g1.symm)
  have sz_b1 : h0.size ≤ b1 := Nat.le_trans K0.1 (Nat.le_of_eq g1.symm)
  have K2 := K0.ext E1
  have c3 : Fld Z h1 b1 "com/example/graphloom/graphloom/engine/graph/SideEffects" "nodesCreated" "J" (.long (0 : Int64)) := D1 (Or.inr (hw _ (List.mem_of_getElem? (i := 15) rfl))) (ty := .long) (by decide)
  have c4 : Fld Z h1 b1 "com/example/graphloom/graphloom/engine/graph/SideEffects" "nodesDeleted" "J" (.long (0 : Int64)) := D1 (Or.inr (hw _ (List.mem_of_getElem? (i := 17) rfl))) (ty := .long) (by decide)
  have c5 : Fld Z h1 b1 "com/example/graphloom/graphloom/engine/graph/SideEffects" "relationshipsCreated" "J" (.long (0 : Int64)) := D1 (Or.inr (hw _ (List.mem_of_getElem? (i := 19) rfl))) (ty := .long) (by decide)
  have c6 : Fld Z h1 b1 "com/example/graphloom/graphloom/engine/graph/SideEffects" "relationshipsDeleted" "J" (.long (0 : Int64)) := D1 (Or.inr (hw _ (List.mem_of_getElem? (i := 21) rfl))) (ty := .long) (by decide)
  have c7 : Fld Z h1 b1 "com/example/graphloom/graphloom/engine/graph/SideEffects" "labelsAdded" "J" (.long (0 : Int64)) := D1 (Or.inr (hw _ (List.mem_of_getElem? (i := 23) rfl))) (ty := .long) (by decide)
  have c8 : Fld Z h1 b1 "com/example/graphloom/graphloom/engine/graph/SideEffects" "labelsRemoved" "J" (.long (0 : Int64)) := D1 (Or.inr (hw _ (List.mem_of_getElem? (i := 25) rfl))) (ty := .long) (by decide)
  have c9 : Fld Z h1 b1 "com/example/graphloom/graphloom/engine/graph/SideEffects" "propertiesSet" "J" (.long (0 : Int64)) := D1 (Or.inr (hw _ (List.mem_of_getElem? (i := 27) rfl))) (ty := .long) (by decide)
  have c10 : Fld Z h1 b1 "com/example/graphloom/graphloom/engine/graph/SideEffects" "propertiesRemoved" "J" (.long (0 : Int64)) := D1 (Or.inr (hw _ (List.mem_of_getElem? (i := 29) rfl))) (ty := .long) (by decide)
  refine Wp.step st1 ?_
  show Wp p e below _ (T1.setTop (mkF m 77 #[.val (.long q0), .second, .val (.long q1), .second, .val (.long q2), .second, .val (.long q3), .second, .val (.long q4), .second, .val (.long q5), .second, .val (.long q0), .second, .val (.long q1), .second, .val (.long q2), .second, .val (.long q3), .second, .val (.long q4), .second, .val (.long q5), .second, .val (.long (q0 ^^^ q1)), .second, .val (.long (q2 ^^^ q3)), .second, .val (.long q4), .second, .val (.long q5), .second, .val (.long (q3 ^^^ q0)), .second, .val (.long (q1 ^^^ q4)), .second, .val (.long q2), .second, .val (.long q0), .second, .val (.long (q5 ^^^ q2)), .second, .val (.long (q3 ^^^ q1)), .second, .unset, .unset, .unset] [(.ref b1)]))
  refine Wp.step (fun t k => XS.dup X1.here hx rfl (hb hby at_77) rfl rfl k) ?_
  show Wp p e below _ (T1.setTop (mkF m 78 #[.val (.long q0), .second, .val (.long q1), .second, .val (.long q2), .second, .val (.long q3), .second, .val (.long q4), .second, .val (.long q5), .second, .val (.long q0), .second, .val (.long q1), .second, .val (.long q2), .second, .val (.long q3), .second, .val (.long q4), .second, .val (.long q5), .second, .val (.long (q0 ^^^ q1)), .second, .val (.long (q2 ^^^ q3)), .second, .val (.long q4), .second, .val (.long q5), .second, .val (.long (q3 ^^^ q0)), .second, .val (.long (q1 ^^^ q4)), .second, .val (.long q2), .second, .val (.long q0), .second, .val (.long (q5 ^^^ q2)), .second, .val (.long (q3 ^^^ q1)), .second, .unset, .unset, .unset] [(.ref b1), (.ref b1)]))
  refine Wp.step (fun t k => XS.lload X1.here hx rfl (hb hby at_78) rfl k) ?_
  show Wp p e below _ (T1.setTop (mkF m 80 #[.val (.long q0), .second, .val (.long q1), .second, .val (.long q2), .second, .val (.long q3), .second, .val (.long q4), .second, .val (.long q5), .second, .val (.long q0), .second, .val (.long q1), .second, .val (.long q2), .second, .val (.long q3), .second, .val (.long q4), .second, .val (.long q5), .second, .val (.long (q0 ^^^ q1)), .second, .val (.long (q2 ^^^ q3)), .second, .val (.long q4), .second, .val (.long q5), .second, .val (.long (q3 ^^^ q0)), .second, .val (.long (q1 ^^^ q4)), .second, .val (.long q2), .second, .val (.long q0), .second, .val (.long (q5 ^^^ q2)), .second, .val (.long (q3 ^^^ q1)), .second, .unset, .unset, .unset] [(.long q0), (.ref b1), (.ref b1)]))
  refine Wp.step (fun t k => XS.lload X1.here hx rfl (hb hby at_80) rfl k) ?_
  show Wp p e below _ (T1.setTop (mkF m 82 #[.val (.long q0), .second, .val (.long q1), .second, .val (.long q2), .second, .val (.long q3), .second, .val (.long q4), .second, .val (.long q5), .second, .val (.long q0), .second, .val (.long q1), .second, .val (.long q2), .second, .val (.long q3), .second, .val (.long q4), .second, .val (.long q5), .second, .val (.long (q0 ^^^ q1)), .second, .val (.long (q2 ^^^ q3)), .second, .val (.long q4), .second, .val (.long q5), .second, .val (.long (q3 ^^^ q0)), .second, .val (.long (q1 ^^^ q4)), .second, .val (.long q2), .second, .val (.long q0), .second, .val (.long (q5 ^^^ q2)), .second, .val (.long (q3 ^^^ q1)), .second, .unset, .unset, .unset] [(.long q1), (.long q0), (.ref b1), (.ref b1)]))
  refine Wp.step (fun t k => XS.lload X1.here hx rfl (hb hby at_82) rfl k) ?_
  show Wp p e below _ (T1.setTop (mkF m 84 #[.val (.long q0), .second, .val (.long q1), .second, .val (.long q2), .second, .val (.long q3), .second, .val (.long q4), .second, .val (.long q5), .second, .val (.long q0), .second, .val (.long q1), .second, .val (.long q2), .second, .val (.long q3), .second, .val (.long q4), .second, .val (.long q5), .second, .val (.long (q0 ^^^ q1)), .second, .val (.long (q2 ^^^ q3)), .second, .val (.long q4), .second, .val (.long q5), .second, .val (.long (q3 ^^^ q0)), .second, .val (.long (q1 ^^^ q4)), .second, .val (.long q2), .second, .val (.long q0), .second, .val (.long (q5 ^^^ q2)), .second, .val (.long (q3 ^^^ q1)), .second, .unset, .unset, .unset] [(.long q2), (.long q1), (.long q0), (.ref b1), (.ref b1)]))
  refine Wp.step (fun t k => XS.lload X1.here hx rfl (hb hby at_84) rfl k) ?_
  show Wp p e below _ (T1.setTop (mkF m 86 #[.val (.long q0), .second, .val (.long q1), .second, .val (.long q2), .second, .val (.long q3), .second, .val (.long q4), .second, .val (.long q5), .second, .val (.long q0), .second, .val (.long q1), .second, .val (.long q2), .second, .val (.long q3), .second, .val (.long q4), .second, .val (.long q5), .second, .val (.long (q0 ^^^ q1)), .second, .val (.long (q2 ^^^ q3)), .second, .val (.long q4), .second, .val (.long q5), .second, .val (.long (q3 ^^^ q0)), .second, .val (.long (q1 ^^^ q4)), .second, .val (.long q2), .second, .val (.long q0), .second, .val (.long (q5 ^^^ q2)), .second, .val (.long (q3 ^^^ q1)), .second, .unset, .unset, .unset] [(.long q3), (.long q2), (.long q1), (.long q0), (.ref b1), (.ref b1)]))
  refine Wp.step (fun t k => XS.lload X1.here hx rfl (hb hby at_86) rfl k) ?_
  show Wp p e below _ (T1.setTop (mkF m 88 #[.val (.long q0), .second, .val (.long q1), .second, .val (.long q2), .second, .val (.long q3), .second, .val (.long q4), .second, .val (.long q5), .second, .val (.long q0), .second, .val (.long q1), .second, .val (.long q2), .second, .val (.long q3), .second, .val (.long q4), .second, .val (.long q5), .second, .val (.long (q0 ^^^ q1)), .second, .val (.long (q2 ^^^ q3)), .second, .val (.long q4), .second, .val (.long q5), .second, .val (.long (q3 ^^^ q0)), .second, .val (.long (q1 ^^^ q4)), .second, .val (.long q2), .second, .val (.long q0), .second, .val (.long (q5 ^^^ q2)), .second, .val (.long (q3 ^^^ q1)), .second, .unset, .unset, .unset] [(.long q4), (.long q3), (.long q2), (.long q1), (.long q0), (.ref b1), (.ref b1)]))
  refine Wp.step (fun t k => XS.lload X1.here hx rfl (hb hby at_88) rfl k) ?_
  show Wp p e below _ (T1.setTop (mkF m 90 #[.val (.long q0), .second, .val (.long q1), .second, .val (.long q2), .second, .val (.long q3), .second, .val (.long q4), .second, .val (.long q5), .second, .val (.long q0), .second, .val (.long q1), .second, .val (.long q2), .second, .val (.long q3), .second, .val (.long q4), .second, .val (.long q5), .second, .val (.long (q0 ^^^ q1)), .second, .val (.long (q2 ^^^ q3)), .second, .val (.long q4), .second, .val (.long q5), .second, .val (.long (q3 ^^^ q0)), .second, .val (.long (q1 ^^^ q4)), .second, .val (.long q2), .second, .val (.long q0), .second, .val (.long (q5 ^^^ q2)), .second, .val (.long (q3 ^^^ q1)), .second, .unset, .unset, .unset] [(.long q5), (.long q4), (.long q3), (.long q2), (.long q1), (.long q0), (.ref b1), (.ref b1)]))
  refine Wp.step (fun t k => XS.lload X1.here hx rfl (hb hby at_90) rfl k) ?_
  show Wp p e below _ (T1.setTop (mkF m 92 #[.val (.long q0), .second, .val (.long q1), .second, .val (.long q2), .second, .val (.long q3), .second, .val (.long q4), .second, .val (.long q5), .second, .val (.long q0), .second, .val (.long q1), .second, .val (.long q2), .second, .val (.long q3), .second, .val (.long q4), .second, .val (.long q5), .second, .val (.long (q0 ^^^ q1)), .second, .val (.long (q2 ^^^ q3)), .second, .val (.long q4), .second, .val (.long q5), .second, .val (.long (q3 ^^^ q0)), .second, .val (.long (q1 ^^^ q4)), .second, .val (.long q2), .second, .val (.long q0), .second, .val (.long (q5 ^^^ q2)), .second, .val (.long (q3 ^^^ q1)), .second, .unset, .unset, .unset] [(.long (q0 ^^^ q1)), (.long q5), (.long q4), (.long q3), (.long q2), (.long q1), (.long q0), (.ref b1), (.ref b1)]))
  refine Wp.step (fun t k => XS.lload X1.here hx rfl (hb hby at_92) rfl k) ?_
  show Wp p e below _ (T1.setTop (mkF m 94 #[.val (.long q0), .second, .val (.long q1), .second, .val (.long q2), .second, .val (.long q3), .second, .val (.long q4), .second, .val (.long q5), .second, .val (.long q0), .second, .val (.long q1), .second, .val (.long q2), .second, .val (.long q3), .second, .val (.long q4), .second, .val (.long q5), .second, .val (.long (q0 ^^^ q1)), .second, .val (.long (q2 ^^^ q3)), .second, .val (.long q4), .second, .val (.long q5), .second, .val (.long (q3 ^^^ q0)), .second, .val (.long (q1 ^^^ q4)), .second, .val (.long q2), .second, .val (.long q0), .second, .val (.long (q5 ^^^ q2)), .second, .val (.long (q3 ^^^ q1)), .second, .unset, .unset, .unset] [(.long (q2 ^^^ q3)), (.long (q0 ^^^ q1)), (.long q5), (.long q4), (.long q3), (.long q2), (.long q1), (.long q0), (.ref b1), (.ref b1)]))
  obtain ⟨_, _, ⟨T11, L11, k11, n11⟩, -, X11, ⟨Lc11, hQ11, l11, y11, z11⟩, st11⟩ := X1.specialBack hx (y := (⟨"com/example/graphloom/graphloom/engine/graph/SideEffects", "<init>", "(JJJJJJJJ)V"⟩ : MethodName)) rfl hown (mvT hZ (hw _ (List.mem_of_getElem? (i := 3) rfl))) (mvT hZ (hw _ (List.mem_of_getElem? (i := 4) rfl))) (mvT hZ (hw _ (List.mem_of_getElem? (i := 5) rfl))) (by decide) (backOf (W := 1) (rm1 l Z a0 hw [] b1 q0 q1 q2 q3 q4 q5 (q0 ^^^ q1) (q2 ^^^ q3)  h1 n0 (Nat.le_trans Z0 K2.1) g_b1 A1 c3 c4 c5 c6 c7 c8 c9 c10 ) hZ (hw _ (List.mem_of_getElem? (i := 5) rfl)) (hw _ (List.mem_of_getElem? (i := 2) rfl)) (by decide) (by decide)) (g := (mkF m 94 #[.val (.long q0), .second, .val (.long q1), .second, .val (.long q2), .second, .val (.long q3), .second, .val (.long q4), .second, .val (.long q5), .second, .val (.long q0), .second, .val (.long q1), .second, .val (.long q2), .second, .val (.long q3), .second, .val (.long q4), .second, .val (.long q5), .second, .val (.long (q0 ^^^ q1)), .second, .val (.long (q2 ^^^ q3)), .second, .val (.long q4), .second, .val (.long q5), .second, .val (.long (q3 ^^^ q0)), .second, .val (.long (q1 ^^^ q4)), .second, .val (.long q2), .second, .val (.long q0), .second, .val (.long (q5 ^^^ q2)), .second, .val (.long (q3 ^^^ q1)), .second, .unset, .unset, .unset] [(.long (q2 ^^^ q3)), (.long (q0 ^^^ q1)), (.long q5), (.long q4), (.long q3), (.long q2), (.long q1), (.long q0), (.ref b1), (.ref b1)])) rfl (by rw [hml]; rfl) (Steps.refl _) (a := b1) (argsL := [(.long q0), (.long q1), (.long q2), (.long q3), (.long q4), (.long q5), (.long (q0 ^^^ q1)), (.long (q2 ^^^ q3))]) (rest := [(.ref b1)]) (lenOf pd_28JJJJJJJJ29V rfl) rfl (by show 2 * 0 + _ ≤ _; exact Nat.le_of_eq rfl) (hb hby at_94) (fun _ _ => ⟨rfl, e1, (by decide : 1 + 0 ≤ _), (by decide : 8 + 0 ≤ _)⟩)
  dsimp only [Pt.U, Pt.locs, Pt.cells, Pt.slots] at X11 l11 y11 z11 st11 hQ11
  subst l11 y11 z11
  obtain ⟨h11, e11⟩ : ∃ z, T11.heap = z := ⟨_, rfl⟩
  rw [e11] at hQ11
  obtain ⟨rfl, N11q, Kc11, cE11, c11_nodesCreated, c11_nodesDeleted, c11_relationshipsCreated, c11_relationshipsDeleted, c11_labelsAdded, c11_labelsRemoved, c11_propertiesSet, c11_propertiesRemoved⟩ := hQ11
  have N11 := Fr.app N0 N11q
  have c12 := A1.keep Kc11
  have K11 := K2.trans Kc11 (allS (Or.inr sz_b1) all0)
  refine Wp.go st11 ?_
  show Wp p e below _ (T11.setTop (mkF m 97 #[.val (.long q0), .second, .val (.long q1), .second, .val (.long q2), .second, .val (.long q3), .second, .val (.long q4), .second, .val (.long q5), .second, .val (.long q0), .second, .val (.long q1), .second, .val (.long q2), .second, .val (.long q3), .second, .val (.long q4), .second, .val (.long q5), .second, .val (.long (q0 ^^^ q1)), .second, .val (.long (q2 ^^^ q3)), .second, .val (.long q4), .second, .val (.long q5), .second, .val (.long (q3 ^^^ q0)), .second, .val (.long (q1 ^^^ q4)), .second, .val (.long q2), .second, .val (.long q0), .second, .val (.long (q5 ^^^ q2)), .second, .val (.long (q3 ^^^ q1)), .second, .unset, .unset, .unset] [(.ref b1)]))
  refine Wp.step (fun t k => XS.astore X11.here hx rfl (hb hby at_97) rfl rfl (l' := #[.val (.long q0), .second, .val (.long q1), .second, .val (.long q2), .second, .val (.long q3), .second, .val (.long q4), .second, .val (.long q5), .second, .val (.long q0), .second, .val (.long q1), .second, .val (.long q2), .second, .val (.long q3), .second, .val (.long q4), .second, .val (.long q5), .second, .val (.long (q0 ^^^ q1)), .second, .val (.long (q2 ^^^ q3)), .second, .val (.long q4), .second, .val (.long q5), .second, .val (.long (q3 ^^^ q0)), .second, .val (.long (q1 ^^^ q4)), .second, .val (.long q2), .second, .val (.long q0), .second, .val (.long (q5 ^^^ q2)), .second, .val (.long (q3 ^^^ q1)), .second, .val (.ref b1), .unset, .unset]) rfl k) ?_
  show Wp p e below _ (T11.setTop (mkF m 99 #[.val (.long q0), .second, .val (.long q1), .second, .val (.long q2), .second, .val (.long q3), .second, .val (.long q4), .second, .val (.long q5), .second, .val (.long q0), .second, .val (.long q1), .second, .val (.long q2), .second, .val (.long q3), .second, .val (.long q4), .second, .val (.long q5), .second, .val (.long (q0 ^^^ q1)), .second, .val (.long (q2 ^^^ q3)), .second, .val (.long q4), .second, .val (.long q5), .second, .val (.long (q3 ^^^ q0)), .second, .val (.long (q1 ^^^ q4)), .second, .val (.long q2), .second, .val (.long q0), .second, .val (.long (q5 ^^^ q2)), .second, .val (.long (q3 ^^^ q1)), .second, .val (.ref b1), .unset, .unset] []))
  obtain ⟨T13, h13, X13, e13, E13, A13, D13, -, st13⟩ := newO X11 hx hZ hown (hw _ (List.mem_of_getElem? (i := 0) rfl)) (hw _ (List.mem_of_getElem? (i := 1) rfl)) (hw _ (List.mem_of_getElem? (i := 2) rfl)) e11 (g := (mkF m 99 #[.val (.long q0), .second, .val (.long q1), .second, .val (.long q2), .second, .val (.long q3), .second, .val (.long q4), .second, .val (.long q5), .second, .val (.long q0), .second, .val (.long q1), .second, .val (.long q2), .second, .val (.long q3), .second, .val (.long q4), .second, .val (.long q5), .second, .val (.long (q0 ^^^ q1)), .second, .val (.long (q2 ^^^ q3)), .second, .val (.long q4), .second, .val (.long q5), .second, .val (.long (q3 ^^^ q0)), .second, .val (.long (q1 ^^^ q4)), .second, .val (.long q2), .second, .val (.long q0), .second, .val (.long (q5 ^^^ q2)), .second, .val (.long (q3 ^^^ q1)), .second, .val (.ref b1), .unset, .unset] [])) rfl (hb hby at_99) (by decide) (by decide)
  obtain ⟨b13, g13⟩ : ∃ z, z = h11.size := ⟨_, rfl⟩
  rw [← g13] at A13 D13 st13
  have g_b13 : n0 ≤ b13 := Nat.le_trans (Nat.le_trans Z0 K11.1) (Nat.le_of_eq g13.symm)
  have sz_b13 : h0.size ≤ b13 := Nat.le_trans K11.1 (Nat.le_of_eq g13.symm)
  have ne_b1_b13 : b1 ≠ b13 := Nat.ne_of_lt (Nat.lt_of_lt_of_le cE11.lt (Nat.le_of_eq g13.symm))
  have c14 := cE11.ext E13
  have c15 := c11_nodesCreated.ext E13
  have c16 := c11_nodesDeleted.ext E13
  have c17 := c11_relationshipsCreated.ext E13
  have c18 := c11_relationshipsDeleted.ext E13
  have c19 := c11_labelsAdded.ext E13
  have c20 := c11_labelsRemoved.ext E13
  have c21 := c11_propertiesSet.ext E13
  have c22 := c11_propertiesRemoved.ext E13
  have K23 := K11.ext E13
  have c24 : Fld Z h13 b13 "com/example/graphloom/graphloom/engine/graph/SideEffects" "nodesCreated" "J" (.long (0 : Int64)) := D13 (Or.inr (hw _ (List.mem_of_getElem? (i := 15) rfl))) (ty := .long) (by decide)
  have c25 : Fld Z h13 b13 "com/example/graphloom/graphloom/engine/graph/SideEffects" "nodesDeleted" "J" (.long (0 : Int64)) := D13 (Or.inr (hw _ (List.mem_of_getElem? (i := 17) rfl))) (ty := .long) (by decide)
  have c26 : Fld Z h13 b13 "com/example/graphloom/graphloom/engine/graph/SideEffects" "relationshipsCreated" "J" (.long (0 : Int64)) := D13 (Or.inr (hw _ (List.mem_of_getElem? (i := 19) rfl))) (ty := .long) (by decide)
  have c27 : Fld Z h13 b13 "com/example/graphloom/graphloom/engine/graph/SideEffects" "relationshipsDeleted" "J" (.long (0 : Int64)) := D13 (Or.inr (hw _ (List.mem_of_getElem? (i := 21) rfl))) (ty := .long) (by decide)
  have c28 : Fld Z h13 b13 "com/example/graphloom/graphloom/engine/graph/SideEffects" "labelsAdded" "J" (.long (0 : Int64)) := D13 (Or.inr (hw _ (List.mem_of_getElem? (i := 23) rfl))) (ty := .long) (by decide)
  have c29 : Fld Z h13 b13 "com/example/graphloom/graphloom/engine/graph/SideEffects" "labelsRemoved" "J" (.long (0 : Int64)) := D13 (Or.inr (hw _ (List.mem_of_getElem? (i := 25) rfl))) (ty := .long) (by decide)
  have c30 : Fld Z h13 b13 "com/example/graphloom/graphloom/engine/graph/SideEffects" "propertiesSet" "J" (.long (0 : Int64)) := D13 (Or.inr (hw _ (List.mem_of_getElem? (i := 27) rfl))) (ty := .long) (by decide)
  have c31 : Fld Z h13 b13 "com/example/graphloom/graphloom/engine/graph/SideEffects" "propertiesRemoved" "J" (.long (0 : Int64)) := D13 (Or.inr (hw _ (List.mem_of_getElem? (i := 29) rfl))) (ty := .long) (by decide)
  refine Wp.step st13 ?_
  show Wp p e below _ (T13.setTop (mkF m 102 #[.val (.long q0), .second, .val (.long q1), .second, .val (.long q2), .second, .val (.long q3), .second, .val (.long q4), .second, .val (.long q5), .second, .val (.long q0), .second, .val (.long q1), .second, .val (.long q2), .second, .val (.long q3), .second, .val (.long q4), .second, .val (.long q5), .second, .val (.long (q0 ^^^ q1)), .second, .val (.long (q2 ^^^ q3)), .second, .val (.long q4), .second, .val (.long q5), .second, .val (.long (q3 ^^^ q0)), .second, .val (.long (q1 ^^^ q4)), .second, .val (.long q2), .second, .val (.long q0), .second, .val (.long (q5 ^^^ q2)), .second, .val (.long (q3 ^^^ q1)), .second, .val (.ref b1), .unset, .unset] [(.ref b13)]))
  refine Wp.step (fun t k => XS.dup X13.here hx rfl (hb hby at_102) rfl rfl k) ?_
  show Wp p e below _ (T13.setTop (mkF m 103 #[.val (.long q0), .second, .val (.long q1), .second, .val (.long q2), .second, .val (.long q3), .second, .val (.long q4), .second, .val (.long q5), .second, .val (.long q0), .second, .val (.long q1), .second, .val (.long q2), .second, .val (.long q3), .second, .val (.long q4), .second, .val (.long q5), .second, .val (.long (q0 ^^^ q1)), .second, .val (.long (q2 ^^^ q3)), .second, .val (.long q4), .second, .val (.long q5), .second, .val (.long (q3 ^^^ q0)), .second, .val (.long (q1 ^^^ q4)), .second, .val (.long q2), .second, .val (.long q0), .second, .val (.long (q5 ^^^ q2)), .second, .val (.long (q3 ^^^ q1)), .second, .val (.ref b1), .unset, .unset] [(.ref b13), (.ref b13)]))
  refine Wp.step (fun t k => XS.lload X13.here hx rfl (hb hby at_103) rfl k) ?_
  show Wp p e below _ (T13.setTop (mkF m 105 #[.val (.long q0), .second, .val (.long q1), .second, .val (.long q2), .second, .val (.long q3), .second, .val (.long q4), .second, .val (.long q5), .second, .val (.long q0), .second, .val (.long q1), .second, .val (.long q2), .second, .val (.long q3), .second, .val (.long q4), .second, .val (.long q5), .second, .val (.long (q0 ^^^ q1)), .second, .val (.long (q2 ^^^ q3)), .second, .val (.long q4), .second, .val (.long q5), .second, .val (.long (q3 ^^^ q0)), .second, .val (.long (q1 ^^^ q4)), .second, .val (.long q2), .second, .val (.long q0), .second, .val (.long (q5 ^^^ q2)), .second, .val (.long (q3 ^^^ q1)), .second, .val (.ref b1), .unset, .unset] [(.long q4), (.ref b13), (.ref b13)]))
  refine Wp.step (fun t k => XS.lload X13.here hx rfl (hb hby at_105) rfl k) ?_
  show Wp p e below _ (T13.setTop (mkF m 107 #[.val (.long q0), .second, .val (.long q1), .second, .val (.long q2), .second, .val (.long q3), .second, .val (.long q4), .second, .val (.long q5), .second, .val (.long q0), .second, .val (.long q1), .second, .val (.long q2), .second, .val (.long q3), .second, .val (.long q4), .second, .val (.long q5), .second, .val (.long (q0 ^^^ q1)), .second, .val (.long (q2 ^^^ q3)), .second, .val (.long q4), .second, .val (.long q5), .second, .val (.long (q3 ^^^ q0)), .second, .val (.long (q1 ^^^ q4)), .second, .val (.long q2), .second, .val (.long q0), .second, .val (.long (q5 ^^^ q2)), .second, .val (.long (q3 ^^^ q1)), .second, .val (.ref b1), .unset, .unset] [(.long q5), (.long q4), (.ref b13), (.ref b13)]))
  refine Wp.step (fun t k => XS.lload X13.here hx rfl (hb hby at_107) rfl k) ?_
  show Wp p e below _ (T13.setTop (mkF m 109 #[.val (.long q0), .second, .val (.long q1), .second, .val (.long q2), .second, .val (.long q3), .second, .val (.long q4), .second, .val (.long q5), .second, .val (.long q0), .second, .val (.long q1), .second, .val (.long q2), .second, .val (.long q3), .second, .val (.long q4), .second, .val (.long q5), .second, .val (.long (q0 ^^^ q1)), .second, .val (.long (q2 ^^^ q3)), .second, .val (.long q4), .second, .val (.long q5), .second, .val (.long (q3 ^^^ q0)), .second, .val (.long (q1 ^^^ q4)), .second, .val (.long q2), .second, .val (.long q0), .second, .val (.long (q5 ^^^ q2)), .second, .val (.long (q3 ^^^ q1)), .second, .val (.ref b1), .unset, .unset] [(.long (q3 ^^^ q0)), (.long q5), (.long q4), (.ref b13), (.ref b13)]))
  refine Wp.step (fun t k => XS.lload X13.here hx rfl (hb hby at_109) rfl k) ?_
  show Wp p e below _ (T13.setTop (mkF m 111 #[.val (.long q0), .second, .val (.long q1), .second, .val (.long q2), .second, .val (.long q3), .second, .val (.long q4), .second, .val (.long q5), .second, .val (.long q0), .second, .val (.long q1), .second, .val (.long q2), .second, .val (.long q3), .second, .val (.long q4), .second, .val (.long q5), .second, .val (.long (q0 ^^^ q1)), .second, .val (.long (q2 ^^^ q3)), .second, .val (.long q4), .second, .val (.long q5), .second, .val (.long (q3 ^^^ q0)), .second, .val (.long (q1 ^^^ q4)), .second, .val (.long q2), .second, .val (.long q0), .second, .val (.long (q5 ^^^ q2)), .second, .val (.long (q3 ^^^ q1)), .second, .val (.ref b1), .unset, .unset] [(.long (q1 ^^^ q4)), (.long (q3 ^^^ q0)), (.long q5), (.long q4), (.ref b13), (.ref b13)]))
  refine Wp.step (fun t k => XS.lload X13.here hx rfl (hb hby at_111) rfl k) ?_
  show Wp p e below _ (T13.setTop (mkF m 113 #[.val (.long q0), .second, .val (.long q1), .second, .val (.long q2), .second, .val (.long q3), .second, .val (.long q4), .second, .val (.long q5), .second, .val (.long q0), .second, .val (.long q1), .second, .val (.long q2), .second, .val (.long q3), .second, .val (.long q4), .second, .val (.long q5), .second, .val (.long (q0 ^^^ q1)), .second, .val (.long (q2 ^^^ q3)), .second, .val (.long q4), .second, .val (.long q5), .second, .val (.long (q3 ^^^ q0)), .second, .val (.long (q1 ^^^ q4)), .second, .val (.long q2), .second, .val (.long q0), .second, .val (.long (q5 ^^^ q2)), .second, .val (.long (q3 ^^^ q1)), .second, .val (.ref b1), .unset, .unset] [(.long q2), (.long (q1 ^^^ q4)), (.long (q3 ^^^ q0)), (.long q5), (.long q4), (.ref b13), (.ref b13)]))
  refine Wp.step (fun t k => XS.lload X13.here hx rfl (hb hby at_113) rfl k) ?_
  show Wp p e below _ (T13.setTop (mkF m 115 #[.val (.long q0), .second, .val (.long q1), .second, .val (.long q2), .second, .val (.long q3), .second, .val (.long q4), .second, .val (.long q5), .second, .val (.long q0), .second, .val (.long q1), .second, .val (.long q2), .second, .val (.long q3), .second, .val (.long q4), .second, .val (.long q5), .second, .val (.long (q0 ^^^ q1)), .second, .val (.long (q2 ^^^ q3)), .second, .val (.long q4), .second, .val (.long q5), .second, .val (.long (q3 ^^^ q0)), .second, .val (.long (q1 ^^^ q4)), .second, .val (.long q2), .second, .val (.long q0), .second, .val (.long (q5 ^^^ q2)), .second, .val (.long (q3 ^^^ q1)), .second, .val (.ref b1), .unset, .unset] [(.long q0), (.long q2), (.long (q1 ^^^ q4)), (.long (q3 ^^^ q0)), (.long q5), (.long q4), (.ref b13), (.ref b13)]))
  refine Wp.step (fun t k => XS.lload X13.here hx rfl (hb hby at_115) rfl k) ?_
  show Wp p e below _ (T13.setTop (mkF m 117 #[.val (.long q0), .second, .val (.long q1), .second, .val (.long q2), .second, .val (.long q3), .second, .val (.long q4), .second, .val (.long q5), .second, .val (.long q0), .second, .val (.long q1), .second, .val (.long q2), .second, .val (.long q3), .second, .val (.long q4), .second, .val (.long q5), .second, .val (.long (q0 ^^^ q1)), .second, .val (.long (q2 ^^^ q3)), .second, .val (.long q4), .second, .val (.long q5), .second, .val (.long (q3 ^^^ q0)), .second, .val (.long (q1 ^^^ q4)), .second, .val (.long q2), .second, .val (.long q0), .second, .val (.long (q5 ^^^ q2)), .second, .val (.long (q3 ^^^ q1)), .second, .val (.ref b1), .unset, .unset] [(.long (q5 ^^^ q2)), (.long q0), (.long q2), (.long (q1 ^^^ q4)), (.long (q3 ^^^ q0)), (.long q5), (.long q4), (.ref b13), (.ref b13)]))
  refine Wp.step (fun t k => XS.lload X13.here hx rfl (hb hby at_117) rfl k) ?_
  show Wp p e below _ (T13.setTop (mkF m 119 #[.val (.long q0), .second, .val (.long q1), .second, .val (.long q2), .second, .val (.long q3), .second, .val (.long q4), .second, .val (.long q5), .second, .val (.long q0), .second, .val (.long q1), .second, .val (.long q2), .second, .val (.long q3), .second, .val (.long q4), .second, .val (.long q5), .second, .val (.long (q0 ^^^ q1)), .second, .val (.long (q2 ^^^ q3)), .second, .val (.long q4), .second, .val (.long q5), .second, .val (.long (q3 ^^^ q0)), .second, .val (.long (q1 ^^^ q4)), .second, .val (.long q2), .second, .val (.long q0), .second, .val (.long (q5 ^^^ q2)), .second, .val (.long (q3 ^^^ q1)), .second, .val (.ref b1), .unset, .unset] [(.long (q3 ^^^ q1)), (.long (q5 ^^^ q2)), (.long q0), (.long q2), (.long (q1 ^^^ q4)), (.long (q3 ^^^ q0)), (.long q5), (.long q4), (.ref b13), (.ref b13)]))
  obtain ⟨_, _, ⟨T32, L32, k32, n32⟩, -, X32, ⟨Lc32, hQ32, l32, y32, z32⟩, st32⟩ := X13.specialBack hx (y := (⟨"com/example/graphloom/graphloom/engine/graph/SideEffects", "<init>", "(JJJJJJJJ)V"⟩ : MethodName)) rfl hown (mvT hZ (hw _ (List.mem_of_getElem? (i := 3) rfl))) (mvT hZ (hw _ (List.mem_of_getElem? (i := 4) rfl))) (mvT hZ (hw _ (List.mem_of_getElem? (i := 5) rfl))) (by decide) (backOf (W := 1) (rm1 l Z a0 hw [] b13 q4 q5 (q3 ^^^ q0) (q1 ^^^ q4) q2 q0 (q5 ^^^ q2) (q3 ^^^ q1)  h13 n0 (Nat.le_trans Z0 K23.1) g_b13 A13 c24 c25 c26 c27 c28 c29 c30 c31 ) hZ (hw _ (List.mem_of_getElem? (i := 5) rfl)) (hw _ (List.mem_of_getElem? (i := 2) rfl)) (by decide) (by decide)) (g := (mkF m 119 #[.val (.long q0), .second, .val (.long q1), .second, .val (.long q2), .second, .val (.long q3), .second, .val (.long q4), .second, .val (.long q5), .second, .val (.long q0), .second, .val (.long q1), .second, .val (.long q2), .second, .val (.long q3), .second, .val (.long q4), .second, .val (.long q5), .second, .val (.long (q0 ^^^ q1)), .second, .val (.long (q2 ^^^ q3)), .second, .val (.long q4), .second, .val (.long q5), .second, .val (.long (q3 ^^^ q0)), .second, .val (.long (q1 ^^^ q4)), .second, .val (.long q2), .second, .val (.long q0), .second, .val (.long (q5 ^^^ q2)), .second, .val (.long (q3 ^^^ q1)), .second, .val (.ref b1), .unset, .unset] [(.long (q3 ^^^ q1)), (.long (q5 ^^^ q2)), (.long q0), (.long q2), (.long (q1 ^^^ q4)), (.long (q3 ^^^ q0)), (.long q5), (.long q4), (.ref b13), (.ref b13)])) rfl (by rw [hml]; rfl) (Steps.refl _) (a := b13) (argsL := [(.long q4), (.long q5), (.long (q3 ^^^ q0)), (.long (q1 ^^^ q4)), (.long q2), (.long q0), (.long (q5 ^^^ q2)), (.long (q3 ^^^ q1))]) (rest := [(.ref b13)]) (lenOf pd_28JJJJJJJJ29V rfl) rfl (by show 2 * 0 + _ ≤ _; exact Nat.le_of_eq rfl) (hb hby at_119) (fun _ _ => ⟨rfl, e13, (by decide : 2 + 0 ≤ _), (by decide : 16 + 0 ≤ _)⟩)
  dsimp only [Pt.U, Pt.locs, Pt.cells, Pt.slots] at X32 l32 y32 z32 st32 hQ32
  subst l32 y32 z32
  obtain ⟨h32, e32⟩ : ∃ z, T32.heap = z := ⟨_, rfl⟩
  rw [e32] at hQ32
  obtain ⟨rfl, N32q, Kc32, cE32, c32_nodesCreated, c32_nodesDeleted, c32_relationshipsCreated, c32_relationshipsDeleted, c32_labelsAdded, c32_labelsRemoved, c32_propertiesSet, c32_propertiesRemoved⟩ := hQ32
  have N32 := Fr.app N11 N32q
  have c33 := c14.keep Kc32
  have c34 := c15.keep Kc32 (ninS ne_b1_b13 nin0)
  have c35 := c16.keep Kc32 (ninS ne_b1_b13 nin0)
  have c36 := c17.keep Kc32 (ninS ne_b1_b13 nin0)
  have c37 := c18.keep Kc32 (ninS ne_b1_b13 nin0)
  have c38 := c19.keep Kc32 (ninS ne_b1_b13 nin0)
  have c39 := c20.keep Kc32 (ninS ne_b1_b13 nin0)
  have c40 := c21.keep Kc32 (ninS ne_b1_b13 nin0)
  have c41 := c22.keep Kc32 (ninS ne_b1_b13 nin0)
  have c42 := A13.keep Kc32
  have K32 := K23.trans Kc32 (allS (Or.inr sz_b13) all0)
  refine Wp.go st32 ?_
  show Wp p e below _ (T32.setTop (mkF m 122 #[.val (.long q0), .second, .val (.long q1), .second, .val (.long q2), .second, .val (.long q3), .second, .val (.long q4), .second, .val (.long q5), .second, .val (.long q0), .second, .val (.long q1), .second, .val (.long q2), .second, .val (.long q3), .second, .val (.long q4), .second, .val (.long q5), .second, .val (.long (q0 ^^^ q1)), .second, .val (.long (q2 ^^^ q3)), .second, .val (.long q4), .second, .val (.long q5), .second, .val (.long (q3 ^^^ q0)), .second, .val (.long (q1 ^^^ q4)), .second, .val (.long q2), .second, .val (.long q0), .second, .val (.long (q5 ^^^ q2)), .second, .val (.long (q3 ^^^ q1)), .second, .val (.ref b1), .unset, .unset] [(.ref b13)]))
  refine Wp.step (fun t k => XS.astore X32.here hx rfl (hb hby at_122) rfl rfl (l' := #[.val (.long q0), .second, .val (.long q1), .second, .val (.long q2), .second, .val (.long q3), .second, .val (.long q4), .second, .val (.long q5), .second, .val (.long q0), .second, .val (.long q1), .second, .val (.long q2), .second, .val (.long q3), .second, .val (.long q4), .second, .val (.long q5), .second, .val (.long (q0 ^^^ q1)), .second, .val (.long (q2 ^^^ q3)), .second, .val (.long q4), .second, .val (.long q5), .second, .val (.long (q3 ^^^ q0)), .second, .val (.long (q1 ^^^ q4)), .second, .val (.long q2), .second, .val (.long q0), .second, .val (.long (q5 ^^^ q2)), .second, .val (.long (q3 ^^^ q1)), .second, .val (.ref b1), .val (.ref b13), .unset]) rfl k) ?_
  show Wp p e below _ (T32.setTop (mkF m 124 #[.val (.long q0), .second, .val (.long q1), .second, .val (.long q2), .second, .val (.long q3), .second, .val (.long q4), .second, .val (.long q5), .second, .val (.long q0), .second, .val (.long q1), .second, .val (.long q2), .second, .val (.long q3), .second, .val (.long q4), .second, .val (.long q5), .second, .val (.long (q0 ^^^ q1)), .second, .val (.long (q2 ^^^ q3)), .second, .val (.long q4), .second, .val (.long q5), .second, .val (.long (q3 ^^^ q0)), .second, .val (.long (q1 ^^^ q4)), .second, .val (.long q2), .second, .val (.long q0), .second, .val (.long (q5 ^^^ q2)), .second, .val (.long (q3 ^^^ q1)), .second, .val (.ref b1), .val (.ref b13), .unset] []))
  refine Wp.step (fun t k => XS.aload X32.here hx rfl (hb hby at_124) rfl rfl k) ?_
  show Wp p e below _ (T32.setTop (mkF m 126 #[.val (.long q0), .second, .val (.long q1), .second, .val (.long q2), .second, .val (.long q3), .second, .val (.long q4), .second, .val (.long q5), .second, .val (.long q0), .second, .val (.long q1), .second, .val (.long q2), .second, .val (.long q3), .second, .val (.long q4), .second, .val (.long q5), .second, .val (.long (q0 ^^^ q1)), .second, .val (.long (q2 ^^^ q3)), .second, .val (.long q4), .second, .val (.long q5), .second, .val (.long (q3 ^^^ q0)), .second, .val (.long (q1 ^^^ q4)), .second, .val (.long q2), .second, .val (.long q0), .second, .val (.long (q5 ^^^ q2)), .second, .val (.long (q3 ^^^ q1)), .second, .val (.ref b1), .val (.ref b13), .unset] [(.ref b1)]))
  refine Wp.step (fun t k => XS.aload X32.here hx rfl (hb hby at_126) rfl rfl k) ?_
  show Wp p e below _ (T32.setTop (mkF m 128 #[.val (.long q0), .second, .val (.long q1), .second, .val (.long q2), .second, .val (.long q3), .second, .val (.long q4), .second, .val (.long q5), .second, .val (.long q0), .second, .val (.long q1), .second, .val (.long q2), .second, .val (.long q3), .second, .val (.long q4), .second, .val (.long q5), .second, .val (.long (q0 ^^^ q1)), .second, .val (.long (q2 ^^^ q3)), .second, .val (.long q4), .second, .val (.long q5), .second, .val (.long (q3 ^^^ q0)), .second, .val (.long (q1 ^^^ q4)), .second, .val (.long q2), .second, .val (.long q0), .second, .val (.long (q5 ^^^ q2)), .second, .val (.long (q3 ^^^ q1)), .second, .val (.ref b1), .val (.ref b13), .unset] [(.ref b13), (.ref b1)]))
  obtain ⟨cq43, kq43, q43a, q43b, q43c⟩ := isOf hZ e32 c33
  obtain ⟨_, _, ⟨T43, L43, k43, n43⟩, -, X43, ⟨Lc43, hQ43, l43, y43, z43⟩, st43⟩ := X32.virtualBack hx (y := (⟨"com/example/graphloom/graphloom/engine/graph/SideEffects", "plus", "(Lcom/example/graphloom/graphloom/engine/graph/SideEffects;)Lcom/example/graphloom/graphloom/engine/graph/SideEffects;"⟩ : MethodName)) (z := (⟨"com/example/graphloom/graphloom/engine/graph/SideEffects", "plus", "(Lcom/example/graphloom/graphloom/engine/graph/SideEffects;)Lcom/example/graphloom/graphloom/engine/graph/SideEffects;"⟩ : MethodName)) hown (mvT hZ (hw _ (List.mem_of_getElem? (i := 30) rfl))) (mvT hZ (hw _ (List.mem_of_getElem? (i := 31) rfl))) (notFace_of_selects (args := #[]) (mvT hZ (hw _ (List.mem_of_getElem? (i := 33) rfl)))) (mvT hZ (hw _ (List.mem_of_getElem? (i := 33) rfl))) (mvT hZ (hw _ (List.mem_of_getElem? (i := 32) rfl))) (by decide) (backOf (W := 0) (rm4 l Z a0 hw [] b1 b13 q0 q1 q2 q3 q4 q5 (q0 ^^^ q1) (q2 ^^^ q3) q4 q5 (q3 ^^^ q0) (q1 ^^^ q4) q2 q0 (q5 ^^^ q2) (q3 ^^^ q1) h32 n0 (Nat.le_trans Z0 K32.1) c33 c34 c35 c36 c37 c38 c39 c40 c41 cE32 c32_nodesCreated c32_nodesDeleted c32_relationshipsCreated c32_relationshipsDeleted c32_labelsAdded c32_labelsRemoved c32_propertiesSet c32_propertiesRemoved) hZ (hw _ (List.mem_of_getElem? (i := 34) rfl)) (hw _ (List.mem_of_getElem? (i := 2) rfl)) (by decide) (by decide)) q43a q43c (g := (mkF m 128 #[.val (.long q0), .second, .val (.long q1), .second, .val (.long q2), .second, .val (.long q3), .second, .val (.long q4), .second, .val (.long q5), .second, .val (.long q0), .second, .val (.long q1), .second, .val (.long q2), .second, .val (.long q3), .second, .val (.long q4), .second, .val (.long q5), .second, .val (.long (q0 ^^^ q1)), .second, .val (.long (q2 ^^^ q3)), .second, .val (.long q4), .second, .val (.long q5), .second, .val (.long (q3 ^^^ q0)), .second, .val (.long (q1 ^^^ q4)), .second, .val (.long q2), .second, .val (.long q0), .second, .val (.long (q5 ^^^ q2)), .second, .val (.long (q3 ^^^ q1)), .second, .val (.ref b1), .val (.ref b13), .unset] [(.ref b13), (.ref b1)])) rfl (by rw [hml]; rfl) (Steps.refl _) (argsL := [(.ref b13)]) (rest := []) (lenOf pd_28Lcom2fexample2fgraphloom2fgraphloom2fengine2fgraph2fSideEffects3b29Lcom2fexample2fgraphloom2fgraphloom2fengine2fgraph2fSideEffects3b rfl) rfl (by show 2 * 0 + _ ≤ _; exact Nat.le_of_eq rfl) (hb hby at_128) (fun _ _ => ⟨rfl, e32, (by decide : 2 + 1 ≤ _), (by decide : 16 + 8 ≤ _)⟩)
  dsimp only [Pt.U, Pt.locs, Pt.cells, Pt.slots] at X43 l43 y43 z43 st43 hQ43
  subst l43 y43 z43
  obtain ⟨h43, e43⟩ : ∃ z, T43.heap = z := ⟨_, rfl⟩
  rw [e43] at hQ43
  obtain ⟨r43, rfl, N43q, Kc43, sz_r43, g_r43, E_r43, c43_nodesCreated, c43_nodesDeleted, c43_relationshipsCreated, c43_relationshipsDeleted, c43_labelsAdded, c43_labelsRemoved, c43_propertiesSet, c43_propertiesRemoved⟩ := hQ43
  have N43 := Fr.app N32 N43q
  have K43 := K32.trans Kc43 all0
  refine Wp.go st43 ?_
  show Wp p e below _ (T43.setTop (mkF m 131 #[.val (.long q0), .second, .val (.long q1), .second, .val (.long q2), .second, .val (.long q3), .second, .val (.long q4), .second, .val (.long q5), .second, .val (.long q0), .second, .val (.long q1), .second, .val (.long q2), .second, .val (.long q3), .second, .val (.long q4), .second, .val (.long q5), .second, .val (.long (q0 ^^^ q1)), .second, .val (.long (q2 ^^^ q3)), .second, .val (.long q4), .second, .val (.long q5), .second, .val (.long (q3 ^^^ q0)), .second, .val (.long (q1 ^^^ q4)), .second, .val (.long q2), .second, .val (.long q0), .second, .val (.long (q5 ^^^ q2)), .second, .val (.long (q3 ^^^ q1)), .second, .val (.ref b1), .val (.ref b13), .unset] [(.ref r43)]))
  refine Wp.step (fun t k => XS.astore X43.here hx rfl (hb hby at_131) rfl rfl (l' := #[.val (.long q0), .second, .val (.long q1), .second, .val (.long q2), .second, .val (.long q3), .second, .val (.long q4), .second, .val (.long q5), .second, .val (.long q0), .second, .val (.long q1), .second, .val (.long q2), .second, .val (.long q3), .second, .val (.long q4), .second, .val (.long q5), .second, .val (.long (q0 ^^^ q1)), .second, .val (.long (q2 ^^^ q3)), .second, .val (.long q4), .second, .val (.long q5), .second, .val (.long (q3 ^^^ q0)), .second, .val (.long (q1 ^^^ q4)), .second, .val (.long q2), .second, .val (.long q0), .second, .val (.long (q5 ^^^ q2)), .second, .val (.long (q3 ^^^ q1)), .second, .val (.ref b1), .val (.ref b13), .val (.ref r43)]) rfl k) ?_
  show Wp p e below _ (T43.setTop (mkF m 133 #[.val (.long q0), .second, .val (.long q1), .second, .val (.long q2), .second, .val (.long q3), .second, .val (.long q4), .second, .val (.long q5), .second, .val (.long q0), .second, .val (.long q1), .second, .val (.long q2), .second, .val (.long q3), .second, .val (.long q4), .second, .val (.long q5), .second, .val (.long (q0 ^^^ q1)), .second, .val (.long (q2 ^^^ q3)), .second, .val (.long q4), .second, .val (.long q5), .second, .val (.long (q3 ^^^ q0)), .second, .val (.long (q1 ^^^ q4)), .second, .val (.long q2), .second, .val (.long q0), .second, .val (.long (q5 ^^^ q2)), .second, .val (.long (q3 ^^^ q1)), .second, .val (.ref b1), .val (.ref b13), .val (.ref r43)] []))
  refine Wp.step (fun t k => XS.aload X43.here hx rfl (hb hby at_133) rfl rfl k) ?_
  show Wp p e below _ (T43.setTop (mkF m 135 #[.val (.long q0), .second, .val (.long q1), .second, .val (.long q2), .second, .val (.long q3), .second, .val (.long q4), .second, .val (.long q5), .second, .val (.long q0), .second, .val (.long q1), .second, .val (.long q2), .second, .val (.long q3), .second, .val (.long q4), .second, .val (.long q5), .second, .val (.long (q0 ^^^ q1)), .second, .val (.long (q2 ^^^ q3)), .second, .val (.long q4), .second, .val (.long q5), .second, .val (.long (q3 ^^^ q0)), .second, .val (.long (q1 ^^^ q4)), .second, .val (.long q2), .second, .val (.long q0), .second, .val (.long (q5 ^^^ q2)), .second, .val (.long (q3 ^^^ q1)), .second, .val (.ref b1), .val (.ref b13), .val (.ref r43)] [(.ref r43)]))
  obtain ⟨cq44, kq44, q44a, q44b, q44c⟩ := isOf hZ e43 E_r43
  obtain ⟨_, _, ⟨T44, L44, k44, n44⟩, -, X44, ⟨Lc44, hQ44, l44, y44, z44⟩, st44⟩ := X43.virtualBack hx (y := (⟨"com/example/graphloom/graphloom/engine/graph/SideEffects", "nodesCreated", "()J"⟩ : MethodName)) (z := (⟨"com/example/graphloom/graphloom/engine/graph/SideEffects", "nodesCreated", "()J"⟩ : MethodName)) hown (mvT hZ (hw _ (List.mem_of_getElem? (i := 37) rfl))) (mvT hZ (hw _ (List.mem_of_getElem? (i := 38) rfl))) (notFace_of_selects (args := #[]) (mvT hZ (hw _ (List.mem_of_getElem? (i := 40) rfl)))) (mvT hZ (hw _ (List.mem_of_getElem? (i := 40) rfl))) (mvT hZ (hw _ (List.mem_of_getElem? (i := 39) rfl))) (by decide) (backOf (W := 0) (rm5 l Z a0 hw [] r43 (q0 + q4) h43 n0 (Nat.le_trans Z0 K43.1) c43_nodesCreated) hZ (hw _ (List.mem_of_getElem? (i := 41) rfl)) (hw _ (List.mem_of_getElem? (i := 2) rfl)) (by decide) (by decide)) q44a q44c (g := (mkF m 135 #[.val (.long q0), .second, .val (.long q1), .second, .val (.long q2), .second, .val (.long q3), .second, .val (.long q4), .second, .val (.long q5), .second, .val (.long q0), .second, .val (.long q1), .second, .val (.long q2), .second, .val (.long q3), .second, .val (.long q4), .second, .val (.long q5), .second, .val (.long (q0 ^^^ q1)), .second, .val (.long (q2 ^^^ q3)), .second, .val (.long q4), .second, .val (.long q5), .second, .val (.long (q3 ^^^ q0)), .second, .val (.long (q1 ^^^ q4)), .second, .val (.long q2), .second, .val (.long q0), .second, .val (.long (q5 ^^^ q2)), .second, .val (.long (q3 ^^^ q1)), .second, .val (.ref b1), .val (.ref b13), .val (.ref r43)] [(.ref r43)])) rfl (by rw [hml]; rfl) (Steps.refl _) (argsL := []) (rest := []) (lenOf pd_2829J rfl) rfl (by show 2 * 0 + _ ≤ _; exact Nat.le_of_eq rfl) (hb hby at_135) (fun _ _ => ⟨rfl, e43, (by decide : 3 + 0 ≤ _), (by decide : 24 + 0 ≤ _)⟩)
  dsimp only [Pt.U, Pt.locs, Pt.cells, Pt.slots] at X44 l44 y44 z44 st44 hQ44
  subst l44 y44 z44
  obtain ⟨rfl, N44q, e44⟩ := hQ44
  have N44 := Fr.app N43 N44q
  refine Wp.go st44 ?_
  show Wp p e below _ (T44.setTop (mkF m 138 #[.val (.long q0), .second, .val (.long q1), .second, .val (.long q2), .second, .val (.long q3), .second, .val (.long q4), .second, .val (.long q5), .second, .val (.long q0), .second, .val (.long q1), .second, .val (.long q2), .second, .val (.long q3), .second, .val (.long q4), .second, .val (.long q5), .second, .val (.long (q0 ^^^ q1)), .second, .val (.long (q2 ^^^ q3)), .second, .val (.long q4), .second, .val (.long q5), .second, .val (.long (q3 ^^^ q0)), .second, .val (.long (q1 ^^^ q4)), .second, .val (.long q2), .second, .val (.long q0), .second, .val (.long (q5 ^^^ q2)), .second, .val (.long (q3 ^^^ q1)), .second, .val (.ref b1), .val (.ref b13), .val (.ref r43)] [(.long (q0 + q4))]))
  refine Wp.step (fun t k => XS.lload X44.here hx rfl (hb hby at_138) rfl k) ?_
  show Wp p e below _ (T44.setTop (mkF m 140 #[.val (.long q0), .second, .val (.long q1), .second, .val (.long q2), .second, .val (.long q3), .second, .val (.long q4), .second, .val (.long q5), .second, .val (.long q0), .second, .val (.long q1), .second, .val (.long q2), .second, .val (.long q3), .second, .val (.long q4), .second, .val (.long q5), .second, .val (.long (q0 ^^^ q1)), .second, .val (.long (q2 ^^^ q3)), .second, .val (.long q4), .second, .val (.long q5), .second, .val (.long (q3 ^^^ q0)), .second, .val (.long (q1 ^^^ q4)), .second, .val (.long q2), .second, .val (.long q0), .second, .val (.long (q5 ^^^ q2)), .second, .val (.long (q3 ^^^ q1)), .second, .val (.ref b1), .val (.ref b13), .val (.ref r43)] [(.long q0), (.long (q0 + q4))]))
  refine Wp.step (fun t k => XS.lload X44.here hx rfl (hb hby at_140) rfl k) ?_
  show Wp p e below _ (T44.setTop (mkF m 142 #[.val (.long q0), .second, .val (.long q1), .second, .val (.long q2), .second, .val (.long q3), .second, .val (.long q4), .second, .val (.long q5), .second, .val (.long q0), .second, .val (.long q1), .second, .val (.long q2), .second, .val (.long q3), .second, .val (.long q4), .second, .val (.long q5), .second, .val (.long (q0 ^^^ q1)), .second, .val (.long (q2 ^^^ q3)), .second, .val (.long q4), .second, .val (.long q5), .second, .val (.long (q3 ^^^ q0)), .second, .val (.long (q1 ^^^ q4)), .second, .val (.long q2), .second, .val (.long q0), .second, .val (.long (q5 ^^^ q2)), .second, .val (.long (q3 ^^^ q1)), .second, .val (.ref b1), .val (.ref b13), .val (.ref r43)] [(.long q4), (.long q0), (.long (q0 + q4))]))
  refine Wp.step (fun t k => XS.ladd X44.here hx rfl (hb hby at_142) rfl k) ?_
  show Wp p e below _ (T44.setTop (mkF m 143 #[.val (.long q0), .second, .val (.long q1), .second, .val (.long q2), .second, .val (.long q3), .second, .val (.long q4), .second, .val (.long q5), .second, .val (.long q0), .second, .val (.long q1), .second, .val (.long q2), .second, .val (.long q3), .second, .val (.long q4), .second, .val (.long q5), .second, .val (.long (q0 ^^^ q1)), .second, .val (.long (q2 ^^^ q3)), .second, .val (.long q4), .second, .val (.long q5), .second, .val (.long (q3 ^^^ q0)), .second, .val (.long (q1 ^^^ q4)), .second, .val (.long q2), .second, .val (.long q0), .second, .val (.long (q5 ^^^ q2)), .second, .val (.long (q3 ^^^ q1)), .second, .val (.ref b1), .val (.ref b13), .val (.ref r43)] [(.long (q0 + q4)), (.long (q0 + q4))]))
  refine Wp.step (fun t k => XS.lcmp X44.here hx rfl (hb hby at_143) rfl k) ?_
  show Wp p e below _ (T44.setTop (mkF m 144 #[.val (.long q0), .second, .val (.long q1), .second, .val (.long q2), .second, .val (.long q3), .second, .val (.long q4), .second, .val (.long q5), .second, .val (.long q0), .second, .val (.long q1), .second, .val (.long q2), .second, .val (.long q3), .second, .val (.long q4), .second, .val (.long q5), .second, .val (.long (q0 ^^^ q1)), .second, .val (.long (q2 ^^^ q3)), .second, .val (.long q4), .second, .val (.long q5), .second, .val (.long (q3 ^^^ q0)), .second, .val (.long (q1 ^^^ q4)), .second, .val (.long q2), .second, .val (.long q0), .second, .val (.long (q5 ^^^ q2)), .second, .val (.long (q3 ^^^ q1)), .second, .val (.ref b1), .val (.ref b13), .val (.ref r43)] [(.int (lcmpW (q0 + q4) (q0 + q4)))]))
  refine Wp.step (fun t k => XS.ifNo X44.here hx rfl (hb hby at_144) rfl ((if0 _ _).trans (teq (show (lcmpW (q0 + q4) (q0 + q4)) = (0 : Int32) from (lw_eq _ _).mpr rfl)).2) k) ?_
  show Wp p e below _ (T44.setTop (mkF m 147 #[.val (.long q0), .second, .val (.long q1), .second, .val (.long q2), .second, .val (.long q3), .second, .val (.long q4), .second, .val (.long q5), .second, .val (.long q0), .second, .val (.long q1), .second, .val (.long q2), .second, .val (.long q3), .second, .val (.long q4), .second, .val (.long q5), .second, .val (.long (q0 ^^^ q1)), .second, .val (.long (q2 ^^^ q3)), .second, .val (.long q4), .second, .val (.long q5), .second, .val (.long (q3 ^^^ q0)), .second, .val (.long (q1 ^^^ q4)), .second, .val (.long q2), .second, .val (.long q0), .second, .val (.long (q5 ^^^ q2)), .second, .val (.long (q3 ^^^ q1)), .second, .val (.ref b1), .val (.ref b13), .val (.ref r43)] []))
  refine Wp.step (fun t k => XS.aload X44.here hx rfl (hb hby at_147) rfl rfl k) ?_
  show Wp p e below _ (T44.setTop (mkF m 149 #[.val (.long q0), .second, .val (.long q1), .second, .val (.long q2), .second, .val (.long q3), .second, .val (.long q4), .second, .val (.long q5), .second, .val (.long q0), .second, .val (.long q1), .second, .val (.long q2), .second, .val (.long q3), .second, .val (.long q4), .second, .val (.long q5), .second, .val (.long (q0 ^^^ q1)), .second, .val (.long (q2 ^^^ q3)), .second, .val (.long q4), .second, .val (.long q5), .second, .val (.long (q3 ^^^ q0)), .second, .val (.long (q1 ^^^ q4)), .second, .val (.long q2), .second, .val (.long q0), .second, .val (.long (q5 ^^^ q2)), .second, .val (.long (q3 ^^^ q1)), .second, .val (.ref b1), .val (.ref b13), .val (.ref r43)] [(.ref r43)]))
  obtain ⟨cq46, kq46, q46a, q46b, q46c⟩ := isOf hZ e44 E_r43
  obtain ⟨_, _, ⟨T46, L46, k46, n46⟩, -, X46, ⟨Lc46, hQ46, l46, y46, z46⟩, st46⟩ := X44.virtualBack hx (y := (⟨"com/example/graphloom/graphloom/engine/graph/SideEffects", "nodesDeleted", "()J"⟩ : MethodName)) (z := (⟨"com/example/graphloom/graphloom/engine/graph/SideEffects", "nodesDeleted", "()J"⟩ : MethodName)) hown (mvT hZ (hw _ (List.mem_of_getElem? (i := 42) rfl))) (mvT hZ (hw _ (List.mem_of_getElem? (i := 43) rfl))) (notFace_of_selects (args := #[]) (mvT hZ (hw _ (List.mem_of_getElem? (i := 45) rfl)))) (mvT hZ (hw _ (List.mem_of_getElem? (i := 45) rfl))) (mvT hZ (hw _ (List.mem_of_getElem? (i := 44) rfl))) (by decide) (backOf (W := 0) (rm6 l Z a0 hw [] r43 (q1 + q5) h43 n0 (Nat.le_trans Z0 K43.1) c43_nodesDeleted) hZ (hw _ (List.mem_of_getElem? (i := 46) rfl)) (hw _ (List.mem_of_getElem? (i := 2) rfl)) (by decide) (by decide)) q46a q46c (g := (mkF m 149 #[.val (.long q0), .second, .val (.long q1), .second, .val (.long q2), .second, .val (.long q3), .second, .val (.long q4), .second, .val (.long q5), .second, .val (.long q0), .second, .val (.long q1), .second, .val (.long q2), .second, .val (.long q3), .second, .val (.long q4), .second, .val (.long q5), .second, .val (.long (q0 ^^^ q1)), .second, .val (.long (q2 ^^^ q3)), .second, .val (.long q4), .second, .val (.long q5), .second, .val (.long (q3 ^^^ q0)), .second, .val (.long (q1 ^^^ q4)), .second, .val (.long q2), .second, .val (.long q0), .second, .val (.long (q5 ^^^ q2)), .second, .val (.long (q3 ^^^ q1)), .second, .val (.ref b1), .val (.ref b13), .val (.ref r43)] [(.ref r43)])) rfl (by rw [hml]; rfl) (Steps.refl _) (argsL := []) (rest := []) (lenOf pd_2829J rfl) rfl (by show 2 * 0 + _ ≤ _; exact Nat.le_of_eq rfl) (hb hby at_149) (fun _ _ => ⟨rfl, e44, (by decide : 3 + 0 ≤ _), (by decide : 24 + 0 ≤ _)⟩)
  dsimp only [Pt.U, Pt.locs, Pt.cells, Pt.slots] at X46 l46 y46 z46 st46 hQ46
  subst l46 y46 z46
  obtain ⟨rfl, N46q, e46⟩ := hQ46
  have N46 := Fr.app N44 N46q
  refine Wp.go st46 ?_
  show Wp p e below _ (T46.setTop (mkF m 152 #[.val (.long q0), .second, .val (.long q1), .second, .val (.long q2), .second, .val (.long q3), .second, .val (.long q4), .second, .val (.long q5), .second, .val (.long q0), .second, .val (.long q1), .second, .val (.long q2), .second, .val (.long q3), .second, .val (.long q4), .second, .val (.long q5), .second, .val (.long (q0 ^^^ q1)), .second, .val (.long (q2 ^^^ q3)), .second, .val (.long q4), .second, .val (.long q5), .second, .val (.long (q3 ^^^ q0)), .second, .val (.long (q1 ^^^ q4)), .second, .val (.long q2), .second, .val (.long q0), .second, .val (.long (q5 ^^^ q2)), .second, .val (.long (q3 ^^^ q1)), .second, .val (.ref b1), .val (.ref b13), .val (.ref r43)] [(.long (q1 + q5))]))
  refine Wp.step (fun t k => XS.lload X46.here hx rfl (hb hby at_152) rfl k) ?_
  show Wp p e below _ (T46.setTop (mkF m 154 #[.val (.long q0), .second, .val (.long q1), .second, .val (.long q2), .second, .val (.long q3), .second, .val (.long q4), .second, .val (.long q5), .second, .val (.long q0), .second, .val (.long q1), .second, .val (.long q2), .second, .val (.long q3), .second, .val (.long q4), .second, .val (.long q5), .second, .val (.long (q0 ^^^ q1)), .second, .val (.long (q2 ^^^ q3)), .second, .val (.long q4), .second, .val (.long q5), .second, .val (.long (q3 ^^^ q0)), .second, .val (.long (q1 ^^^ q4)), .second, .val (.long q2), .second, .val (.long q0), .second, .val (.long (q5 ^^^ q2)), .second, .val (.long (q3 ^^^ q1)), .second, .val (.ref b1), .val (.ref b13), .val (.ref r43)] [(.long q1), (.long (q1 + q5))]))
  refine Wp.step (fun t k => XS.lload X46.here hx rfl (hb hby at_154) rfl k) ?_
  show Wp p e below _ (T46.setTop (mkF m 156 #[.val (.long q0), .second, .val (.long q1), .second, .val (.long q2), .second, .val (.long q3), .second, .val (.long q4), .second, .val (.long q5), .second, .val (.long q0), .second, .val (.long q1), .second, .val (.long q2), .second, .val (.long q3), .second, .val (.long q4), .second, .val (.long q5), .second, .val (.long (q0 ^^^ q1)), .second, .val (.long (q2 ^^^ q3)), .second, .val (.long q4), .second, .val (.long q5), .second, .val (.long (q3 ^^^ q0)), .second, .val (.long (q1 ^^^ q4)), .second, .val (.long q2), .second, .val (.long q0), .second, .val (.long (q5 ^^^ q2)), .second, .val (.long (q3 ^^^ q1)), .second, .val (.ref b1), .val (.ref b13), .val (.ref r43)] [(.long q5), (.long q1), (.long (q1 + q5))]))
  refine Wp.step (fun t k => XS.ladd X46.here hx rfl (hb hby at_156) rfl k) ?_
  show Wp p e below _ (T46.setTop (mkF m 157 #[.val (.long q0), .second, .val (.long q1), .second, .val (.long q2), .second, .val (.long q3), .second, .val (.long q4), .second, .val (.long q5), .second, .val (.long q0), .second, .val (.long q1), .second, .val (.long q2), .second, .val (.long q3), .second, .val (.long q4), .second, .val (.long q5), .second, .val (.long (q0 ^^^ q1)), .second, .val (.long (q2 ^^^ q3)), .second, .val (.long q4), .second, .val (.long q5), .second, .val (.long (q3 ^^^ q0)), .second, .val (.long (q1 ^^^ q4)), .second, .val (.long q2), .second, .val (.long q0), .second, .val (.long (q5 ^^^ q2)), .second, .val (.long (q3 ^^^ q1)), .second, .val (.ref b1), .val (.ref b13), .val (.ref r43)] [(.long (q1 + q5)), (.long (q1 + q5))]))
  refine Wp.step (fun t k => XS.lcmp X46.here hx rfl (hb hby at_157) rfl k) ?_
  show Wp p e below _ (T46.setTop (mkF m 158 #[.val (.long q0), .second, .val (.long q1), .second, .val (.long q2), .second, .val (.long q3), .second, .val (.long q4), .second, .val (.long q5), .second, .val (.long q0), .second, .val (.long q1), .second, .val (.long q2), .second, .val (.long q3), .second, .val (.long q4), .second, .val (.long q5), .second, .val (.long (q0 ^^^ q1)), .second, .val (.long (q2 ^^^ q3)), .second, .val (.long q4), .second, .val (.long q5), .second, .val (.long (q3 ^^^ q0)), .second, .val (.long (q1 ^^^ q4)), .second, .val (.long q2), .second, .val (.long q0), .second, .val (.long (q5 ^^^ q2)), .second, .val (.long (q3 ^^^ q1)), .second, .val (.ref b1), .val (.ref b13), .val (.ref r43)] [(.int (lcmpW (q1 + q5) (q1 + q5)))]))
  refine Wp.step (fun t k => XS.ifNo X46.here hx rfl (hb hby at_158) rfl ((if0 _ _).trans (teq (show (lcmpW (q1 + q5) (q1 + q5)) = (0 : Int32) from (lw_eq _ _).mpr rfl)).2) k) ?_
  show Wp p e below _ (T46.setTop (mkF m 161 #[.val (.long q0), .second, .val (.long q1), .second, .val (.long q2), .second, .val (.long q3), .second, .val (.long q4), .second, .val (.long q5), .second, .val (.long q0), .second, .val (.long q1), .second, .val (.long q2), .second, .val (.long q3), .second, .val (.long q4), .second, .val (.long q5), .second, .val (.long (q0 ^^^ q1)), .second, .val (.long (q2 ^^^ q3)), .second, .val (.long q4), .second, .val (.long q5), .second, .val (.long (q3 ^^^ q0)), .second, .val (.long (q1 ^^^ q4)), .second, .val (.long q2), .second, .val (.long q0), .second, .val (.long (q5 ^^^ q2)), .second, .val (.long (q3 ^^^ q1)), .second, .val (.ref b1), .val (.ref b13), .val (.ref r43)] []))
  refine Wp.step (fun t k => XS.aload X46.here hx rfl (hb hby at_161) rfl rfl k) ?_
  show Wp p e below _ (T46.setTop (mkF m 163 #[.val (.long q0), .second, .val (.long q1), .second, .val (.long q2), .second, .val (.long q3), .second, .val (.long q4), .second, .val (.long q5), .second, .val (.long q0), .second, .val (.long q1), .second, .val (.long q2), .second, .val (.long q3), .second, .val (.long q4), .second, .val (.long q5), .second, .val (.long (q0 ^^^ q1)), .second, .val (.long (q2 ^^^ q3)), .second, .val (.long q4), .second, .val (.long q5), .second, .val (.long (q3 ^^^ q0)), .second, .val (.long (q1 ^^^ q4)), .second, .val (.long q2), .second, .val (.long q0), .second, .val (.long (q5 ^^^ q2)), .second, .val (.long (q3 ^^^ q1)), .second, .val (.ref b1), .val (.ref b13), .val (.ref r43)] [(.ref r43)]))
  obtain ⟨cq48, kq48, q48a, q48b, q48c⟩ := isOf hZ e46 E_r43
  obtain ⟨_, _, ⟨T48, L48, k48, n48⟩, -, X48, ⟨Lc48, hQ48, l48, y48, z48⟩, st48⟩ := X46.virtualBack hx (y := (⟨"com/example/graphloom/graphloom/engine/graph/SideEffects", "relationshipsCreated", "()J"⟩ : MethodName)) (z := (⟨"com/example/graphloom/graphloom/engine/graph/SideEffects", "relationshipsCreated", "()J"⟩ : MethodName)) hown (mvT hZ (hw _ (List.mem_of_getElem? (i := 47) rfl))) (mvT hZ (hw _ (List.mem_of_getElem? (i := 48) rfl))) (notFace_of_selects (args := #[]) (mvT hZ (hw _ (List.mem_of_getElem? (i := 50) rfl)))) (mvT hZ (hw _ (List.mem_of_getElem? (i := 50) rfl))) (mvT hZ (hw _ (List.mem_of_getElem? (i := 49) rfl))) (by decide) (backOf (W := 0) (rm7 l Z a0 hw [] r43 (q2 + (q3 ^^^ q0)) h43 n0 (Nat.le_trans Z0 K43.1) c43_relationshipsCreated) hZ (hw _ (List.mem_of_getElem? (i := 51) rfl)) (hw _ (List.mem_of_getElem? (i := 2) rfl)) (by decide) (by decide)) q48a q48c (g := (mkF m 163 #[.val (.long q0), .second, .val (.long q1), .second, .val (.long q2), .second, .val (.long q3), .second, .val (.long q4), .second, .val (.long q5), .second, .val (.long q0), .second, .val (.long q1), .second, .val (.long q2), .second, .val (.long q3), .second, .val (.long q4), .second, .val (.long q5), .second, .val (.long (q0 ^^^ q1)), .second, .val (.long (q2 ^^^ q3)), .second, .val (.long q4), .second, .val (.long q5), .second, .val (.long (q3 ^^^ q0)), .second, .val (.long (q1 ^^^ q4)), .second, .val (.long q2), .second, .val (.long q0), .second, .val (.long (q5 ^^^ q2)), .second, .val (.long (q3 ^^^ q1)), .second, .val (.ref b1), .val (.ref b13), .val (.ref r43)] [(.ref r43)])) rfl (by rw [hml]; rfl) (Steps.refl _) (argsL := []) (rest := []) (lenOf pd_2829J rfl) rfl (by show 2 * 0 + _ ≤ _; exact Nat.le_of_eq rfl) (hb hby at_163) (fun _ _ => ⟨rfl, e46, (by decide : 3 + 0 ≤ _), (by decide : 24 + 0 ≤ _)⟩)
  dsimp only [Pt.U, Pt.locs, Pt.cells, Pt.slots] at X48 l48 y48 z48 st48 hQ48
  subst l48 y48 z48
  obtain ⟨rfl, N48q, e48⟩ := hQ48
  have N48 := Fr.app N46 N48q
  refine Wp.go st48 ?_
  show Wp p e below _ (T48.setTop (mkF m 166 #[.val (.long q0), .second, .val (.long q1), .second, .val (.long q2), .second, .val (.long q3), .second, .val (.long q4), .second, .val (.long q5), .second, .val (.long q0), .second, .val (.long q1), .second, .val (.long q2), .second, .val (.long q3), .second, .val (.long q4), .second, .val (.long q5), .second, .val (.long (q0 ^^^ q1)), .second, .val (.long (q2 ^^^ q3)), .second, .val (.long q4), .second, .val (.long q5), .second, .val (.long (q3 ^^^ q0)), .second, .val (.long (q1 ^^^ q4)), .second, .val (.long q2), .second, .val (.long q0), .second, .val (.long (q5 ^^^ q2)), .second, .val (.long (q3 ^^^ q1)), .second, .val (.ref b1), .val (.ref b13), .val (.ref r43)] [(.long (q2 + (q3 ^^^ q0)))]))
  refine Wp.step (fun t k => XS.lload X48.here hx rfl (hb hby at_166) rfl k) ?_
  show Wp p e below _ (T48.setTop (mkF m 168 #[.val (.long q0), .second, .val (.long q1), .second, .val (.long q2), .second, .val (.long q3), .second, .val (.long q4), .second, .val (.long q5), .second, .val (.long q0), .second, .val (.long q1), .second, .val (.long q2), .second, .val (.long q3), .second, .val (.long q4), .second, .val (.long q5), .second, .val (.long (q0 ^^^ q1)), .second, .val (.long (q2 ^^^ q3)), .second, .val (.long q4), .second, .val (.long q5), .second, .val (.long (q3 ^^^ q0)), .second, .val (.long (q1 ^^^ q4)), .second, .val (.long q2), .second, .val (.long q0), .second, .val (.long (q5 ^^^ q2)), .second, .val (.long (q3 ^^^ q1)), .second, .val (.ref b1), .val (.ref b13), .val (.ref r43)] [(.long q2), (.long (q2 + (q3 ^^^ q0)))]))
  refine Wp.step (fun t k => XS.lload X48.here hx rfl (hb hby at_168) rfl k) ?_
  show Wp p e below _ (T48.setTop (mkF m 170 #[.val (.long q0), .second, .val (.long q1), .second, .val (.long q2), .second, .val (.long q3), .second, .val (.long q4), .second, .val (.long q5), .second, .val (.long q0), .second, .val (.long q1), .second, .val (.long q2), .second, .val (.long q3), .second, .val (.long q4), .second, .val (.long q5), .second, .val (.long (q0 ^^^ q1)), .second, .val (.long (q2 ^^^ q3)), .second, .val (.long q4), .second, .val (.long q5), .second, .val (.long (q3 ^^^ q0)), .second, .val (.long (q1 ^^^ q4)), .second, .val (.long q2), .second, .val (.long q0), .second, .val (.long (q5 ^^^ q2)), .second, .val (.long (q3 ^^^ q1)), .second, .val (.ref b1), .val (.ref b13), .val (.ref r43)] [(.long (q3 ^^^ q0)), (.long q2), (.long (q2 + (q3 ^^^ q0)))]))
  refine Wp.step (fun t k => XS.ladd X48.here hx rfl (hb hby at_170) rfl k) ?_
  show Wp p e below _ (T48.setTop (mkF m 171 #[.val (.long q0), .second, .val (.long q1), .second, .val (.long q2), .second, .val (.long q3), .second, .val (.long q4), .second, .val (.long q5), .second, .val (.long q0), .second, .val (.long q1), .second, .val (.long q2), .second, .val (.long q3), .second, .val (.long q4), .second, .val (.long q5), .second, .val (.long (q0 ^^^ q1)), .second, .val (.long (q2 ^^^ q3)), .second, .val (.long q4), .second, .val (.long q5), .second, .val (.long (q3 ^^^ q0)), .second, .val (.long (q1 ^^^ q4)), .second, .val (.long q2), .second, .val (.long q0), .second, .val (.long (q5 ^^^ q2)), .second, .val (.long (q3 ^^^ q1)), .second, .val (.ref b1), .val (.ref b13), .val (.ref r43)] [(.long (q2 + (q3 ^^^ q0))), (.long (q2 + (q3 ^^^ q0)))]))
  refine Wp.step (fun t k => XS.lcmp X48.here hx rfl (hb hby at_171) rfl k) ?_
  show Wp p e below _ (T48.setTop (mkF m 172 #[.val (.long q0), .second, .val (.long q1), .second, .val (.long q2), .second, .val (.long q3), .second, .val (.long q4), .second, .val (.long q5), .second, .val (.long q0), .second, .val (.long q1), .second, .val (.long q2), .second, .val (.long q3), .second, .val (.long q4), .second, .val (.long q5), .second, .val (.long (q0 ^^^ q1)), .second, .val (.long (q2 ^^^ q3)), .second, .val (.long q4), .second, .val (.long q5), .second, .val (.long (q3 ^^^ q0)), .second, .val (.long (q1 ^^^ q4)), .second, .val (.long q2), .second, .val (.long q0), .second, .val (.long (q5 ^^^ q2)), .second, .val (.long (q3 ^^^ q1)), .second, .val (.ref b1), .val (.ref b13), .val (.ref r43)] [(.int (lcmpW (q2 + (q3 ^^^ q0)) (q2 + (q3 ^^^ q0))))]))
  refine Wp.step (fun t k => XS.ifNo X48.here hx rfl (hb hby at_172) rfl ((if0 _ _).trans (teq (show (lcmpW (q2 + (q3 ^^^ q0)) (q2 + (q3 ^^^ q0))) = (0 : Int32) from (lw_eq _ _).mpr rfl)).2) k) ?_
  show Wp p e below _ (T48.setTop (mkF m 175 #[.val (.long q0), .second, .val (.long q1), .second, .val (.long q2), .second, .val (.long q3), .second, .val (.long q4), .second, .val (.long q5), .second, .val (.long q0), .second, .val (.long q1), .second, .val (.long q2), .second, .val (.long q3), .second, .val (.long q4), .second, .val (.long q5), .second, .val (.long (q0 ^^^ q1)), .second, .val (.long (q2 ^^^ q3)), .second, .val (.long q4), .second, .val (.long q5), .second, .val (.long (q3 ^^^ q0)), .second, .val (.long (q1 ^^^ q4)), .second, .val (.long q2), .second, .val (.long q0), .second, .val (.long (q5 ^^^ q2)), .second, .val (.long (q3 ^^^ q1)), .second, .val (.ref b1), .val (.ref b13), .val (.ref r43)] []))
  refine Wp.step (fun t k => XS.aload X48.here hx rfl (hb hby at_175) rfl rfl k) ?_
  show Wp p e below _ (T48.setTop (mkF m 177 #[.val (.long q0), .second, .val (.long q1), .second, .val (.long q2), .second, .val (.long q3), .second, .val (.long q4), .second, .val (.long q5), .second, .val (.long q0), .second, .val (.long q1), .second, .val (.long q2), .second, .val (.long q3), .second, .val (.long q4), .second, .val (.long q5), .second, .val (.long (q0 ^^^ q1)), .second, .val (.long (q2 ^^^ q3)), .second, .val (.long q4), .second, .val (.long q5), .second, .val (.long (q3 ^^^ q0)), .second, .val (.long (q1 ^^^ q4)), .second, .val (.long q2), .second, .val (.long q0), .second, .val (.long (q5 ^^^ q2)), .second, .val (.long (q3 ^^^ q1)), .second, .val (.ref b1), .val (.ref b13), .val (.ref r43)] [(.ref r43)]))
  obtain ⟨cq50, kq50, q50a, q50b, q50c⟩ := isOf hZ e48 E_r43
  obtain ⟨_, _, ⟨T50, L50, k50, n50⟩, -, X50, ⟨Lc50, hQ50, l50, y50, z50⟩, st50⟩ := X48.virtualBack hx (y := (⟨"com/example/graphloom/graphloom/engine/graph/SideEffects", "relationshipsDeleted", "()J"⟩ : MethodName)) (z := (⟨"com/example/graphloom/graphloom/engine/graph/SideEffects", "relationshipsDeleted", "()J"⟩ : MethodName)) hown (mvT hZ (hw _ (List.mem_of_getElem? (i := 52) rfl))) (mvT hZ (hw _ (List.mem_of_getElem? (i := 53) rfl))) (notFace_of_selects (args := #[]) (mvT hZ (hw _ (List.mem_of_getElem? (i := 55) rfl)))) (mvT hZ (hw _ (List.mem_of_getElem? (i := 55) rfl))) (mvT hZ (hw _ (List.mem_of_getElem? (i := 54) rfl))) (by decide) (backOf (W := 0) (rm8 l Z a0 hw [] r43 (q3 + (q1 ^^^ q4)) h43 n0 (Nat.le_trans Z0 K43.1) c43_relationshipsDeleted) hZ (hw _ (List.mem_of_getElem? (i := 56) rfl)) (hw _ (List.mem_of_getElem? (i := 2) rfl)) (by decide) (by decide)) q50a q50c (g := (mkF m 177 #[.val (.long q0), .second, .val (.long q1), .second, .val (.long q2), .second, .val (.long q3), .second, .val (.long q4), .second, .val (.long q5), .second, .val (.long q0), .second, .val (.long q1), .second, .val (.long q2), .second, .val (.long q3), .second, .val (.long q4), .second, .val (.long q5), .second, .val (.long (q0 ^^^ q1)), .second, .val (.long (q2 ^^^ q3)), .second, .val (.long q4), .second, .val (.long q5), .second, .val (.long (q3 ^^^ q0)), .second, .val (.long (q1 ^^^ q4)), .second, .val (.long q2), .second, .val (.long q0), .second, .val (.long (q5 ^^^ q2)), .second, .val (.long (q3 ^^^ q1)), .second, .val (.ref b1), .val (.ref b13), .val (.ref r43)] [(.ref r43)])) rfl (by rw [hml]; rfl) (Steps.refl _) (argsL := []) (rest := []) (lenOf pd_2829J rfl) rfl (by show 2 * 0 + _ ≤ _; exact Nat.le_of_eq rfl) (hb hby at_177) (fun _ _ => ⟨rfl, e48, (by decide : 3 + 0 ≤ _), (by decide : 24 + 0 ≤ _)⟩)
  dsimp only [Pt.U, Pt.locs, Pt.cells, Pt.slots] at X50 l50 y50 z50 st50 hQ50
  subst l50 y50 z50
  obtain ⟨rfl, N50q, e50⟩ := hQ50
  have N50 := Fr.app N48 N50q
  refine Wp.go st50 ?_
  show Wp p e below _ (T50.setTop (mkF m 180 #[.val (.long q0), .second, .val (.long q1), .second, .val (.long q2), .second, .val (.long q3), .second, .val (.long q4), .second, .val (.long q5), .second, .val (.long q0), .second, .val (.long q1), .second, .val (.long q2), .second, .val (.long q3), .second, .val (.long q4), .second, .val (.long q5), .second, .val (.long (q0 ^^^ q1)), .second, .val (.long (q2 ^^^ q3)), .second, .val (.long q4), .second, .val (.long q5), .second, .val (.long (q3 ^^^ q0)), .second, .val (.long (q1 ^^^ q4)), .second, .val (.long q2), .second, .val (.long q0), .second, .val (.long (q5 ^^^ q2)), .second, .val (.long (q3 ^^^ q1)), .second, .val (.ref b1), .val (.ref b13), .val (.ref r43)] [(.long (q3 + (q1 ^^^ q4)))]))
  refine Wp.step (fun t k => XS.lload X50.here hx rfl (hb hby at_180) rfl k) ?_
  show Wp p e below _ (T50.setTop (mkF m 182 #[.val (.long q0), .second, .val (.long q1), .second, .val (.long q2), .second, .val (.long q3), .second, .val (.long q4), .second, .val (.long q5), .second, .val (.long q0), .second, .val (.long q1), .second, .val (.long q2), .second, .val (.long q3), .second, .val (.long q4), .second, .val (.long q5), .second, .val (.long (q0 ^^^ q1)), .second, .val (.long (q2 ^^^ q3)), .second, .val (.long q4), .second, .val (.long q5), .second, .val (.long (q3 ^^^ q0)), .second, .val (.long (q1 ^^^ q4)), .second, .val (.long q2), .second, .val (.long q0), .second, .val (.long (q5 ^^^ q2)), .second, .val (.long (q3 ^^^ q1)), .second, .val (.ref b1), .val (.ref b13), .val (.ref r43)] [(.long q3), (.long (q3 + (q1 ^^^ q4)))]))
  refine Wp.step (fun t k => XS.lload X50.here hx rfl (hb hby at_182) rfl k) ?_
  show Wp p e below _ (T50.setTop (mkF m 184 #[.val (.long q0), .second, .val (.long q1), .second, .val (.long q2), .second, .val (.long q3), .second, .val (.long q4), .second, .val (.long q5), .second, .val (.long q0), .second, .val (.long q1), .second, .val (.long q2), .second, .val (.long q3), .second, .val (.long q4), .second, .val (.long q5), .second, .val (.long (q0 ^^^ q1)), .second, .val (.long (q2 ^^^ q3)), .second, .val (.long q4), .second, .val (.long q5), .second, .val (.long (q3 ^^^ q0)), .second, .val (.long (q1 ^^^ q4)), .second, .val (.long q2), .second, .val (.long q0), .second, .val (.long (q5 ^^^ q2)), .second, .val (.long (q3 ^^^ q1)), .second, .val (.ref b1), .val (.ref b13), .val (.ref r43)] [(.long (q1 ^^^ q4)), (.long q3), (.long (q3 + (q1 ^^^ q4)))]))
  refine Wp.step (fun t k => XS.ladd X50.here hx rfl (hb hby at_184) rfl k) ?_
  show Wp p e below _ (T50.setTop (mkF m 185 #[.val (.long q0), .second, .val (.long q1), .second, .val (.long q2), .second, .val (.long q3), .second, .val (.long q4), .second, .val (.long q5), .second, .val (.long q0), .second, .val (.long q1), .second, .val (.long q2), .second, .val (.long q3), .second, .val (.long q4), .second, .val (.long q5), .second, .val (.long (q0 ^^^ q1)), .second, .val (.long (q2 ^^^ q3)), .second, .val (.long q4), .second, .val (.long q5), .second, .val (.long (q3 ^^^ q0)), .second, .val (.long (q1 ^^^ q4)), .second, .val (.long q2), .second, .val (.long q0), .second, .val (.long (q5 ^^^ q2)), .second, .val (.long (q3 ^^^ q1)), .second, .val (.ref b1), .val (.ref b13), .val (.ref r43)] [(.long (q3 + (q1 ^^^ q4))), (.long (q3 + (q1 ^^^ q4)))]))
  refine Wp.step (fun t k => XS.lcmp X50.here hx rfl (hb hby at_185) rfl k) ?_
  show Wp p e below _ (T50.setTop (mkF m 186 #[.val (.long q0), .second, .val (.long q1), .second, .val (.long q2), .second, .val (.long q3), .second, .val (.long q4), .second, .val (.long q5), .second, .val (.long q0), .second, .val (.long q1), .second, .val (.long q2), .second, .val (.long q3), .second, .val (.long q4), .second, .val (.long q5), .second, .val (.long (q0 ^^^ q1)), .second, .val (.long (q2 ^^^ q3)), .second, .val (.long q4), .second, .val (.long q5), .second, .val (.long (q3 ^^^ q0)), .second, .val (.long (q1 ^^^ q4)), .second, .val (.long q2), .second, .val (.long q0), .second, .val (.long (q5 ^^^ q2)), .second, .val (.long (q3 ^^^ q1)), .second, .val (.ref b1), .val (.ref b13), .val (.ref r43)] [(.int (lcmpW (q3 + (q1 ^^^ q4)) (q3 + (q1 ^^^ q4))))]))
  refine Wp.step (fun t k => XS.ifNo X50.here hx rfl (hb hby at_186) rfl ((if0 _ _).trans (teq (show (lcmpW (q3 + (q1 ^^^ q4)) (q3 + (q1 ^^^ q4))) = (0 : Int32) from (lw_eq _ _).mpr rfl)).2) k) ?_
  show Wp p e below _ (T50.setTop (mkF m 189 #[.val (.long q0), .second, .val (.long q1), .second, .val (.long q2), .second, .val (.long q3), .second, .val (.long q4), .second, .val (.long q5), .second, .val (.long q0), .second, .val (.long q1), .second, .val (.long q2), .second, .val (.long q3), .second, .val (.long q4), .second, .val (.long q5), .second, .val (.long (q0 ^^^ q1)), .second, .val (.long (q2 ^^^ q3)), .second, .val (.long q4), .second, .val (.long q5), .second, .val (.long (q3 ^^^ q0)), .second, .val (.long (q1 ^^^ q4)), .second, .val (.long q2), .second, .val (.long q0), .second, .val (.long (q5 ^^^ q2)), .second, .val (.long (q3 ^^^ q1)), .second, .val (.ref b1), .val (.ref b13), .val (.ref r43)] []))
  refine Wp.step (fun t k => XS.aload X50.here hx rfl (hb hby at_189) rfl rfl k) ?_
  show Wp p e below _ (T50.setTop (mkF m 191 #[.val (.long q0), .second, .val (.long q1), .second, .val (.long q2), .second, .val (.long q3), .second, .val (.long q4), .second, .val (.long q5), .second, .val (.long q0), .second, .val (.long q1), .second, .val (.long q2), .second, .val (.long q3), .second, .val (.long q4), .second, .val (.long q5), .second, .val (.long (q0 ^^^ q1)), .second, .val (.long (q2 ^^^ q3)), .second, .val (.long q4), .second, .val (.long q5), .second, .val (.long (q3 ^^^ q0)), .second, .val (.long (q1 ^^^ q4)), .second, .val (.long q2), .second, .val (.long q0), .second, .val (.long (q5 ^^^ q2)), .second, .val (.long (q3 ^^^ q1)), .second, .val (.ref b1), .val (.ref b13), .val (.ref r43)] [(.ref r43)]))
  obtain ⟨cq52, kq52, q52a, q52b, q52c⟩ := isOf hZ e50 E_r43
  obtain ⟨_, _, ⟨T52, L52, k52, n52⟩, -, X52, ⟨Lc52, hQ52, l52, y52, z52⟩, st52⟩ := X50.virtualBack hx (y := (⟨"com/example/graphloom/graphloom/engine/graph/SideEffects", "labelsAdded", "()J"⟩ : MethodName)) (z := (⟨"com/example/graphloom/graphloom/engine/graph/SideEffects", "labelsAdded", "()J"⟩ : MethodName)) hown (mvT hZ (hw _ (List.mem_of_getElem? (i := 57) rfl))) (mvT hZ (hw _ (List.mem_of_getElem? (i := 58) rfl))) (notFace_of_selects (args := #[]) (mvT hZ (hw _ (List.mem_of_getElem? (i := 60) rfl)))) (mvT hZ (hw _ (List.mem_of_getElem? (i := 60) rfl))) (mvT hZ (hw _ (List.mem_of_getElem? (i := 59) rfl))) (by decide) (backOf (W := 0) (rm9 l Z a0 hw [] r43 (q4 + q2) h43 n0 (Nat.le_trans Z0 K43.1) c43_labelsAdded) hZ (hw _ (List.mem_of_getElem? (i := 61) rfl)) (hw _ (List.mem_of_getElem? (i := 2) rfl)) (by decide) (by decide)) q52a q52c (g := (mkF m 191 #[.val (.long q0), .second, .val (.long q1), .second, .val (.long q2), .second, .val (.long q3), .second, .val (.long q4), .second, .val (.long q5), .second, .val (.long q0), .second, .val (.long q1), .second, .val (.long q2), .second, .val (.long q3), .second, .val (.long q4), .second, .val (.long q5), .second, .val (.long (q0 ^^^ q1)), .second, .val (.long (q2 ^^^ q3)), .second, .val (.long q4), .second, .val (.long q5), .second, .val (.long (q3 ^^^ q0)), .second, .val (.long (q1 ^^^ q4)), .second, .val (.long q2), .second, .val (.long q0), .second, .val (.long (q5 ^^^ q2)), .second, .val (.long (q3 ^^^ q1)), .second, .val (.ref b1), .val (.ref b13), .val (.ref r43)] [(.ref r43)])) rfl (by rw [hml]; rfl) (Steps.refl _) (argsL := []) (rest := []) (lenOf pd_2829J rfl) rfl (by show 2 * 0 + _ ≤ _; exact Nat.le_of_eq rfl) (hb hby at_191) (fun _ _ => ⟨rfl, e50, (by decide : 3 + 0 ≤ _), (by decide : 24 + 0 ≤ _)⟩)
  dsimp only [Pt.U, Pt.locs, Pt.cells, Pt.slots] at X52 l52 y52 z52 st52 hQ52
  subst l52 y52 z52
  obtain ⟨rfl, N52q, e52⟩ := hQ52
  have N52 := Fr.app N50 N52q
  refine Wp.go st52 ?_
  show Wp p e below _ (T52.setTop (mkF m 194 #[.val (.long q0), .second, .val (.long q1), .second, .val (.long q2), .second, .val (.long q3), .second, .val (.long q4), .second, .val (.long q5), .second, .val (.long q0), .second, .val (.long q1), .second, .val (.long q2), .second, .val (.long q3), .second, .val (.long q4), .second, .val (.long q5), .second, .val (.long (q0 ^^^ q1)), .second, .val (.long (q2 ^^^ q3)), .second, .val (.long q4), .second, .val (.long q5), .second, .val (.long (q3 ^^^ q0)), .second, .val (.long (q1 ^^^ q4)), .second, .val (.long q2), .second, .val (.long q0), .second, .val (.long (q5 ^^^ q2)), .second, .val (.long (q3 ^^^ q1)), .second, .val (.ref b1), .val (.ref b13), .val (.ref r43)] [(.long (q4 + q2))]))
  refine Wp.step (fun t k => XS.lload X52.here hx rfl (hb hby at_194) rfl k) ?_
  show Wp p e below _ (T52.setTop (mkF m 196 #[.val (.long q0), .second, .val (.long q1), .second, .val (.long q2), .second, .val (.long q3), .second, .val (.long q4), .second, .val (.long q5), .second, .val (.long q0), .second, .val (.long q1), .second, .val (.long q2), .second, .val (.long q3), .second, .val (.long q4), .second, .val (.long q5), .second, .val (.long (q0 ^^^ q1)), .second, .val (.long (q2 ^^^ q3)), .second, .val (.long q4), .second, .val (.long q5), .second, .val (.long (q3 ^^^ q0)), .second, .val (.long (q1 ^^^ q4)), .second, .val (.long q2), .second, .val (.long q0), .second, .val (.long (q5 ^^^ q2)), .second, .val (.long (q3 ^^^ q1)), .second, .val (.ref b1), .val (.ref b13), .val (.ref r43)] [(.long q4), (.long (q4 + q2))]))
  refine Wp.step (fun t k => XS.lload X52.here hx rfl (hb hby at_196) rfl k) ?_
  show Wp p e below _ (T52.setTop (mkF m 198 #[.val (.long q0), .second, .val (.long q1), .second, .val (.long q2), .second, .val (.long q3), .second, .val (.long q4), .second, .val (.long q5), .second, .val (.long q0), .second, .val (.long q1), .second, .val (.long q2), .second, .val (.long q3), .second, .val (.long q4), .second, .val (.long q5), .second, .val (.long (q0 ^^^ q1)), .second, .val (.long (q2 ^^^ q3)), .second, .val (.long q4), .second, .val (.long q5), .second, .val (.long (q3 ^^^ q0)), .second, .val (.long (q1 ^^^ q4)), .second, .val (.long q2), .second, .val (.long q0), .second, .val (.long (q5 ^^^ q2)), .second, .val (.long (q3 ^^^ q1)), .second, .val (.ref b1), .val (.ref b13), .val (.ref r43)] [(.long q2), (.long q4), (.long (q4 + q2))]))
  refine Wp.step (fun t k => XS.ladd X52.here hx rfl (hb hby at_198) rfl k) ?_
  show Wp p e below _ (T52.setTop (mkF m 199 #[.val (.long q0), .second, .val (.long q1), .second, .val (.long q2), .second, .val (.long q3), .second, .val (.long q4), .second, .val (.long q5), .second, .val (.long q0), .second, .val (.long q1), .second, .val (.long q2), .second, .val (.long q3), .second, .val (.long q4), .second, .val (.long q5), .second, .val (.long (q0 ^^^ q1)), .second, .val (.long (q2 ^^^ q3)), .second, .val (.long q4), .second, .val (.long q5), .second, .val (.long (q3 ^^^ q0)), .second, .val (.long (q1 ^^^ q4)), .second, .val (.long q2), .second, .val (.long q0), .second, .val (.long (q5 ^^^ q2)), .second, .val (.long (q3 ^^^ q1)), .second, .val (.ref b1), .val (.ref b13), .val (.ref r43)] [(.long (q4 + q2)), (.long (q4 + q2))]))
  refine Wp.step (fun t k => XS.lcmp X52.here hx rfl (hb hby at_199) rfl k) ?_
  show Wp p e below _ (T52.setTop (mkF m 200 #[.val (.long q0), .second, .val (.long q1), .second, .val (.long q2), .second, .val (.long q3), .second, .val (.long q4), .second, .val (.long q5), .second, .val (.long q0), .second, .val (.long q1), .second, .val (.long q2), .second, .val (.long q3), .second, .val (.long q4), .second, .val (.long q5), .second, .val (.long (q0 ^^^ q1)), .second, .val (.long (q2 ^^^ q3)), .second, .val (.long q4), .second, .val (.long q5), .second, .val (.long (q3 ^^^ q0)), .second, .val (.long (q1 ^^^ q4)), .second, .val (.long q2), .second, .val (.long q0), .second, .val (.long (q5 ^^^ q2)), .second, .val (.long (q3 ^^^ q1)), .second, .val (.ref b1), .val (.ref b13), .val (.ref r43)] [(.int (lcmpW (q4 + q2) (q4 + q2)))]))
  refine Wp.step (fun t k => XS.ifNo X52.here hx rfl (hb hby at_200) rfl ((if0 _ _).trans (teq (show (lcmpW (q4 + q2) (q4 + q2)) = (0 : Int32) from (lw_eq _ _).mpr rfl)).2) k) ?_
  show Wp p e below _ (T52.setTop (mkF m 203 #[.val (.long q0), .second, .val (.long q1), .second, .val (.long q2), .second, .val (.long q3), .second, .val (.long q4), .second, .val (.long q5), .second, .val (.long q0), .second, .val (.long q1), .second, .val (.long q2), .second, .val (.long q3), .second, .val (.long q4), .second, .val (.long q5), .second, .val (.long (q0 ^^^ q1)), .second, .val (.long (q2 ^^^ q3)), .second, .val (.long q4), .second, .val (.long q5), .second, .val (.long (q3 ^^^ q0)), .second, .val (.long (q1 ^^^ q4)), .second, .val (.long q2), .second, .val (.long q0), .second, .val (.long (q5 ^^^ q2)), .second, .val (.long (q3 ^^^ q1)), .second, .val (.ref b1), .val (.ref b13), .val (.ref r43)] []))
  refine Wp.step (fun t k => XS.aload X52.here hx rfl (hb hby at_203) rfl rfl k) ?_
  show Wp p e below _ (T52.setTop (mkF m 205 #[.val (.long q0), .second, .val (.long q1), .second, .val (.long q2), .second, .val (.long q3), .second, .val (.long q4), .second, .val (.long q5), .second, .val (.long q0), .second, .val (.long q1), .second, .val (.long q2), .second, .val (.long q3), .second, .val (.long q4), .second, .val (.long q5), .second, .val (.long (q0 ^^^ q1)), .second, .val (.long (q2 ^^^ q3)), .second, .val (.long q4), .second, .val (.long q5), .second, .val (.long (q3 ^^^ q0)), .second, .val (.long (q1 ^^^ q4)), .second, .val (.long q2), .second, .val (.long q0), .second, .val (.long (q5 ^^^ q2)), .second, .val (.long (q3 ^^^ q1)), .second, .val (.ref b1), .val (.ref b13), .val (.ref r43)] [(.ref r43)]))
  obtain ⟨cq54, kq54, q54a, q54b, q54c⟩ := isOf hZ e52 E_r43
  obtain ⟨_, _, ⟨T54, L54, k54, n54⟩, -, X54, ⟨Lc54, hQ54, l54, y54, z54⟩, st54⟩ := X52.virtualBack hx (y := (⟨"com/example/graphloom/graphloom/engine/graph/SideEffects", "labelsRemoved", "()J"⟩ : MethodName)) (z := (⟨"com/example/graphloom/graphloom/engine/graph/SideEffects", "labelsRemoved", "()J"⟩ : MethodName)) hown (mvT hZ (hw _ (List.mem_of_getElem? (i := 62) rfl))) (mvT hZ (hw _ (List.mem_of_getElem? (i := 63) rfl))) (notFace_of_selects (args := #[]) (mvT hZ (hw _ (List.mem_of_getElem? (i := 65) rfl)))) (mvT hZ (hw _ (List.mem_of_getElem? (i := 65) rfl))) (mvT hZ (hw _ (List.mem_of_getElem? (i := 64) rfl))) (by decide) (backOf (W := 0) (rm10 l Z a0 hw [] r43 (q5 + q0) h43 n0 (Nat.le_trans Z0 K43.1) c43_labelsRemoved) hZ (hw _ (List.mem_of_getElem? (i := 66) rfl)) (hw _ (List.mem_of_getElem? (i := 2) rfl)) (by decide) (by decide)) q54a q54c (g := (mkF m 205 #[.val (.long q0), .second, .val (.long q1), .second, .val (.long q2), .second, .val (.long q3), .second, .val (.long q4), .second, .val (.long q5), .second, .val (.long q0), .second, .val (.long q1), .second, .val (.long q2), .second, .val (.long q3), .second, .val (.long q4), .second, .val (.long q5), .second, .val (.long (q0 ^^^ q1)), .second, .val (.long (q2 ^^^ q3)), .second, .val (.long q4), .second, .val (.long q5), .second, .val (.long (q3 ^^^ q0)), .second, .val (.long (q1 ^^^ q4)), .second, .val (.long q2), .second, .val (.long q0), .second, .val (.long (q5 ^^^ q2)), .second, .val (.long (q3 ^^^ q1)), .second, .val (.ref b1), .val (.ref b13), .val (.ref r43)] [(.ref r43)])) rfl (by rw [hml]; rfl) (Steps.refl _) (argsL := []) (rest := []) (lenOf pd_2829J rfl) rfl (by show 2 * 0 + _ ≤ _; exact Nat.le_of_eq rfl) (hb hby at_205) (fun _ _ => ⟨rfl, e52, (by decide : 3 + 0 ≤ _), (by decide : 24 + 0 ≤ _)⟩)
  dsimp only [Pt.U, Pt.locs, Pt.cells, Pt.slots] at X54 l54 y54 z54 st54 hQ54
  subst l54 y54 z54
  obtain ⟨rfl, N54q, e54⟩ := hQ54
  have N54 := Fr.app N52 N54q
  refine Wp.go st54 ?_
  show Wp p e below _ (T54.setTop (mkF m 208 #[.val (.long q0), .second, .val (.long q1), .second, .val (.long q2), .second, .val (.long q3), .second, .val (.long q4), .second, .val (.long q5), .second, .val (.long q0), .second, .val (.long q1), .second, .val (.long q2), .second, .val (.long q3), .second, .val (.long q4), .second, .val (.long q5), .second, .val (.long (q0 ^^^ q1)), .second, .val (.long (q2 ^^^ q3)), .second, .val (.long q4), .second, .val (.long q5), .second, .val (.long (q3 ^^^ q0)), .second, .val (.long (q1 ^^^ q4)), .second, .val (.long q2), .second, .val (.long q0), .second, .val (.long (q5 ^^^ q2)), .second, .val (.long (q3 ^^^ q1)), .second, .val (.ref b1), .val (.ref b13), .val (.ref r43)] [(.long (q5 + q0))]))
  refine Wp.step (fun t k => XS.lload X54.here hx rfl (hb hby at_208) rfl k) ?_
  show Wp p e below _ (T54.setTop (mkF m 210 #[.val (.long q0), .second, .val (.long q1), .second, .val (.long q2), .second, .val (.long q3), .second, .val (.long q4), .second, .val (.long q5), .second, .val (.long q0), .second, .val (.long q1), .second, .val (.long q2), .second, .val (.long q3), .second, .val (.long q4), .second, .val (.long q5), .second, .val (.long (q0 ^^^ q1)), .second, .val (.long (q2 ^^^ q3)), .second, .val (.long q4), .second, .val (.long q5), .second, .val (.long (q3 ^^^ q0)), .second, .val (.long (q1 ^^^ q4)), .second, .val (.long q2), .second, .val (.long q0), .second, .val (.long (q5 ^^^ q2)), .second, .val (.long (q3 ^^^ q1)), .second, .val (.ref b1), .val (.ref b13), .val (.ref r43)] [(.long q5), (.long (q5 + q0))]))
  refine Wp.step (fun t k => XS.lload X54.here hx rfl (hb hby at_210) rfl k) ?_
  show Wp p e below _ (T54.setTop (mkF m 212 #[.val (.long q0), .second, .val (.long q1), .second, .val (.long q2), .second, .val (.long q3), .second, .val (.long q4), .second, .val (.long q5), .second, .val (.long q0), .second, .val (.long q1), .second, .val (.long q2), .second, .val (.long q3), .second, .val (.long q4), .second, .val (.long q5), .second, .val (.long (q0 ^^^ q1)), .second, .val (.long (q2 ^^^ q3)), .second, .val (.long q4), .second, .val (.long q5), .second, .val (.long (q3 ^^^ q0)), .second, .val (.long (q1 ^^^ q4)), .second, .val (.long q2), .second, .val (.long q0), .second, .val (.long (q5 ^^^ q2)), .second, .val (.long (q3 ^^^ q1)), .second, .val (.ref b1), .val (.ref b13), .val (.ref r43)] [(.long q0), (.long q5), (.long (q5 + q0))]))
  refine Wp.step (fun t k => XS.ladd X54.here hx rfl (hb hby at_212) rfl k) ?_
  show Wp p e below _ (T54.setTop (mkF m 213 #[.val (.long q0), .second, .val (.long q1), .second, .val (.long q2), .second, .val (.long q3), .second, .val (.long q4), .second, .val (.long q5), .second, .val (.long q0), .second, .val (.long q1), .second, .val (.long q2), .second, .val (.long q3), .second, .val (.long q4), .second, .val (.long q5), .second, .val (.long (q0 ^^^ q1)), .second, .val (.long (q2 ^^^ q3)), .second, .val (.long q4), .second, .val (.long q5), .second, .val (.long (q3 ^^^ q0)), .second, .val (.long (q1 ^^^ q4)), .second, .val (.long q2), .second, .val (.long q0), .second, .val (.long (q5 ^^^ q2)), .second, .val (.long (q3 ^^^ q1)), .second, .val (.ref b1), .val (.ref b13), .val (.ref r43)] [(.long (q5 + q0)), (.long (q5 + q0))]))
  refine Wp.step (fun t k => XS.lcmp X54.here hx rfl (hb hby at_213) rfl k) ?_
  show Wp p e below _ (T54.setTop (mkF m 214 #[.val (.long q0), .second, .val (.long q1), .second, .val (.long q2), .second, .val (.long q3), .second, .val (.long q4), .second, .val (.long q5), .second, .val (.long q0), .second, .val (.long q1), .second, .val (.long q2), .second, .val (.long q3), .second, .val (.long q4), .second, .val (.long q5), .second, .val (.long (q0 ^^^ q1)), .second, .val (.long (q2 ^^^ q3)), .second, .val (.long q4), .second, .val (.long q5), .second, .val (.long (q3 ^^^ q0)), .second, .val (.long (q1 ^^^ q4)), .second, .val (.long q2), .second, .val (.long q0), .second, .val (.long (q5 ^^^ q2)), .second, .val (.long (q3 ^^^ q1)), .second, .val (.ref b1), .val (.ref b13), .val (.ref r43)] [(.int (lcmpW (q5 + q0) (q5 + q0)))]))
  refine Wp.step (fun t k => XS.ifNo X54.here hx rfl (hb hby at_214) rfl ((if0 _ _).trans (teq (show (lcmpW (q5 + q0) (q5 + q0)) = (0 : Int32) from (lw_eq _ _).mpr rfl)).2) k) ?_
  show Wp p e below _ (T54.setTop (mkF m 217 #[.val (.long q0), .second, .val (.long q1), .second, .val (.long q2), .second, .val (.long q3), .second, .val (.long q4), .second, .val (.long q5), .second, .val (.long q0), .second, .val (.long q1), .second, .val (.long q2), .second, .val (.long q3), .second, .val (.long q4), .second, .val (.long q5), .second, .val (.long (q0 ^^^ q1)), .second, .val (.long (q2 ^^^ q3)), .second, .val (.long q4), .second, .val (.long q5), .second, .val (.long (q3 ^^^ q0)), .second, .val (.long (q1 ^^^ q4)), .second, .val (.long q2), .second, .val (.long q0), .second, .val (.long (q5 ^^^ q2)), .second, .val (.long (q3 ^^^ q1)), .second, .val (.ref b1), .val (.ref b13), .val (.ref r43)] []))
  refine Wp.step (fun t k => XS.aload X54.here hx rfl (hb hby at_217) rfl rfl k) ?_
  show Wp p e below _ (T54.setTop (mkF m 219 #[.val (.long q0), .second, .val (.long q1), .second, .val (.long q2), .second, .val (.long q3), .second, .val (.long q4), .second, .val (.long q5), .second, .val (.long q0), .second, .val (.long q1), .second, .val (.long q2), .second, .val (.long q3), .second, .val (.long q4), .second, .val (.long q5), .second, .val (.long (q0 ^^^ q1)), .second, .val (.long (q2 ^^^ q3)), .second, .val (.long q4), .second, .val (.long q5), .second, .val (.long (q3 ^^^ q0)), .second, .val (.long (q1 ^^^ q4)), .second, .val (.long q2), .second, .val (.long q0), .second, .val (.long (q5 ^^^ q2)), .second, .val (.long (q3 ^^^ q1)), .second, .val (.ref b1), .val (.ref b13), .val (.ref r43)] [(.ref r43)]))
  obtain ⟨cq56, kq56, q56a, q56b, q56c⟩ := isOf hZ e54 E_r43
  obtain ⟨_, _, ⟨T56, L56, k56, n56⟩, -, X56, ⟨Lc56, hQ56, l56, y56, z56⟩, st56⟩ := X54.virtualBack hx (y := (⟨"com/example/graphloom/graphloom/engine/graph/SideEffects", "propertiesSet", "()J"⟩ : MethodName)) (z := (⟨"com/example/graphloom/graphloom/engine/graph/SideEffects", "propertiesSet", "()J"⟩ : MethodName)) hown (mvT hZ (hw _ (List.mem_of_getElem? (i := 67) rfl))) (mvT hZ (hw _ (List.mem_of_getElem? (i := 68) rfl))) (notFace_of_selects (args := #[]) (mvT hZ (hw _ (List.mem_of_getElem? (i := 70) rfl)))) (mvT hZ (hw _ (List.mem_of_getElem? (i := 70) rfl))) (mvT hZ (hw _ (List.mem_of_getElem? (i := 69) rfl))) (by decide) (backOf (W := 0) (rm11 l Z a0 hw [] r43 ((q0 ^^^ q1) + (q5 ^^^ q2)) h43 n0 (Nat.le_trans Z0 K43.1) c43_propertiesSet) hZ (hw _ (List.mem_of_getElem? (i := 71) rfl)) (hw _ (List.mem_of_getElem? (i := 2) rfl)) (by decide) (by decide)) q56a q56c (g := (mkF m 219 #[.val (.long q0), .second, .val (.long q1), .second, .val (.long q2), .second, .val (.long q3), .second, .val (.long q4), .second, .val (.long q5), .second, .val (.long q0), .second, .val (.long q1), .second, .val (.long q2), .second, .val (.long q3), .second, .val (.long q4), .second, .val (.long q5), .second, .val (.long (q0 ^^^ q1)), .second, .val (.long (q2 ^^^ q3)), .second, .val (.long q4), .second, .val (.long q5), .second, .val (.long (q3 ^^^ q0)), .second, .val (.long (q1 ^^^ q4)), .second, .val (.long q2), .second, .val (.long q0), .second, .val (.long (q5 ^^^ q2)), .second, .val (.long (q3 ^^^ q1)), .second, .val (.ref b1), .val (.ref b13), .val (.ref r43)] [(.ref r43)])) rfl (by rw [hml]; rfl) (Steps.refl _) (argsL := []) (rest := []) (lenOf pd_2829J rfl) rfl (by show 2 * 0 + _ ≤ _; exact Nat.le_of_eq rfl) (hb hby at_219) (fun _ _ => ⟨rfl, e54, (by decide : 3 + 0 ≤ _), (by decide : 24 + 0 ≤ _)⟩)
  dsimp only [Pt.U, Pt.locs, Pt.cells, Pt.slots] at X56 l56 y56 z56 st56 hQ56
  subst l56 y56 z56
  obtain ⟨rfl, N56q, e56⟩ := hQ56
  have N56 := Fr.app N54 N56q
  refine Wp.go st56 ?_
  show Wp p e below _ (T56.setTop (mkF m 222 #[.val (.long q0), .second, .val (.long q1), .second, .val (.long q2), .second, .val (.long q3), .second, .val (.long q4), .second, .val (.long q5), .second, .val (.long q0), .second, .val (.long q1), .second, .val (.long q2), .second, .val (.long q3), .second, .val (.long q4), .second, .val (.long q5), .second, .val (.long (q0 ^^^ q1)), .second, .val (.long (q2 ^^^ q3)), .second, .val (.long q4), .second, .val (.long q5), .second, .val (.long (q3 ^^^ q0)), .second, .val (.long (q1 ^^^ q4)), .second, .val (.long q2), .second, .val (.long q0), .second, .val (.long (q5 ^^^ q2)), .second, .val (.long (q3 ^^^ q1)), .second, .val (.ref b1), .val (.ref b13), .val (.ref r43)] [(.long ((q0 ^^^ q1) + (q5 ^^^ q2)))]))
  refine Wp.step (fun t k => XS.lload X56.here hx rfl (hb hby at_222) rfl k) ?_
  show Wp p e below _ (T56.setTop (mkF m 224 #[.val (.long q0), .second, .val (.long q1), .second, .val (.long q2), .second, .val (.long q3), .second, .val (.long q4), .second, .val (.long q5), .second, .val (.long q0), .second, .val (.long q1), .second, .val (.long q2), .second, .val (.long q3), .second, .val (.long q4), .second, .val (.long q5), .second, .val (.long (q0 ^^^ q1)), .second, .val (.long (q2 ^^^ q3)), .second, .val (.long q4), .second, .val (.long q5), .second, .val (.long (q3 ^^^ q0)), .second, .val (.long (q1 ^^^ q4)), .second, .val (.long q2), .second, .val (.long q0), .second, .val (.long (q5 ^^^ q2)), .second, .val (.long (q3 ^^^ q1)), .second, .val (.ref b1), .val (.ref b13), .val (.ref r43)] [(.long (q0 ^^^ q1)), (.long ((q0 ^^^ q1) + (q5 ^^^ q2)))]))
  refine Wp.step (fun t k => XS.lload X56.here hx rfl (hb hby at_224) rfl k) ?_
  show Wp p e below _ (T56.setTop (mkF m 226 #[.val (.long q0), .second, .val (.long q1), .second, .val (.long q2), .second, .val (.long q3), .second, .val (.long q4), .second, .val (.long q5), .second, .val (.long q0), .second, .val (.long q1), .second, .val (.long q2), .second, .val (.long q3), .second, .val (.long q4), .second, .val (.long q5), .second, .val (.long (q0 ^^^ q1)), .second, .val (.long (q2 ^^^ q3)), .second, .val (.long q4), .second, .val (.long q5), .second, .val (.long (q3 ^^^ q0)), .second, .val (.long (q1 ^^^ q4)), .second, .val (.long q2), .second, .val (.long q0), .second, .val (.long (q5 ^^^ q2)), .second, .val (.long (q3 ^^^ q1)), .second, .val (.ref b1), .val (.ref b13), .val (.ref r43)] [(.long (q5 ^^^ q2)), (.long (q0 ^^^ q1)), (.long ((q0 ^^^ q1) + (q5 ^^^ q2)))]))
  refine Wp.step (fun t k => XS.ladd X56.here hx rfl (hb hby at_226) rfl k) ?_
  show Wp p e below _ (T56.setTop (mkF m 227 #[.val (.long q0), .second, .val (.long q1), .second, .val (.long q2), .second, .val (.long q3), .second, .val (.long q4), .second, .val (.long q5), .second, .val (.long q0), .second, .val (.long q1), .second, .val (.long q2), .second, .val (.long q3), .second, .val (.long q4), .second, .val (.long q5), .second, .val (.long (q0 ^^^ q1)), .second, .val (.long (q2 ^^^ q3)), .second, .val (.long q4), .second, .val (.long q5), .second, .val (.long (q3 ^^^ q0)), .second, .val (.long (q1 ^^^ q4)), .second, .val (.long q2), .second, .val (.long q0), .second, .val (.long (q5 ^^^ q2)), .second, .val (.long (q3 ^^^ q1)), .second, .val (.ref b1), .val (.ref b13), .val (.ref r43)] [(.long ((q0 ^^^ q1) + (q5 ^^^ q2))), (.long ((q0 ^^^ q1) + (q5 ^^^ q2)))]))
  refine Wp.step (fun t k => XS.lcmp X56.here hx rfl (hb hby at_227) rfl k) ?_
  show Wp p e below _ (T56.setTop (mkF m 228 #[.val (.long q0), .second, .val (.long q1), .second, .val (.long q2), .second, .val (.long q3), .second, .val (.long q4), .second, .val (.long q5), .second, .val (.long q0), .second, .val (.long q1), .second, .val (.long q2), .second, .val (.long q3), .second, .val (.long q4), .second, .val (.long q5), .second, .val (.long (q0 ^^^ q1)), .second, .val (.long (q2 ^^^ q3)), .second, .val (.long q4), .second, .val (.long q5), .second, .val (.long (q3 ^^^ q0)), .second, .val (.long (q1 ^^^ q4)), .second, .val (.long q2), .second, .val (.long q0), .second, .val (.long (q5 ^^^ q2)), .second, .val (.long (q3 ^^^ q1)), .second, .val (.ref b1), .val (.ref b13), .val (.ref r43)] [(.int (lcmpW ((q0 ^^^ q1) + (q5 ^^^ q2)) ((q0 ^^^ q1) + (q5 ^^^ q2))))]))
  refine Wp.step (fun t k => XS.ifNo X56.here hx rfl (hb hby at_228) rfl ((if0 _ _).trans (teq (show (lcmpW ((q0 ^^^ q1) + (q5 ^^^ q2)) ((q0 ^^^ q1) + (q5 ^^^ q2))) = (0 : Int32) from (lw_eq _ _).mpr rfl)).2) k) ?_
  show Wp p e below _ (T56.setTop (mkF m 231 #[.val (.long q0), .second, .val (.long q1), .second, .val (.long q2), .second, .val (.long q3), .second, .val (.long q4), .second, .val (.long q5), .second, .val (.long q0), .second, .val (.long q1), .second, .val (.long q2), .second, .val (.long q3), .second, .val (.long q4), .second, .val (.long q5), .second, .val (.long (q0 ^^^ q1)), .second, .val (.long (q2 ^^^ q3)), .second, .val (.long q4), .second, .val (.long q5), .second, .val (.long (q3 ^^^ q0)), .second, .val (.long (q1 ^^^ q4)), .second, .val (.long q2), .second, .val (.long q0), .second, .val (.long (q5 ^^^ q2)), .second, .val (.long (q3 ^^^ q1)), .second, .val (.ref b1), .val (.ref b13), .val (.ref r43)] []))
  refine Wp.step (fun t k => XS.aload X56.here hx rfl (hb hby at_231) rfl rfl k) ?_
  show Wp p e below _ (T56.setTop (mkF m 233 #[.val (.long q0), .second, .val (.long q1), .second, .val (.long q2), .second, .val (.long q3), .second, .val (.long q4), .second, .val (.long q5), .second, .val (.long q0), .second, .val (.long q1), .second, .val (.long q2), .second, .val (.long q3), .second, .val (.long q4), .second, .val (.long q5), .second, .val (.long (q0 ^^^ q1)), .second, .val (.long (q2 ^^^ q3)), .second, .val (.long q4), .second, .val (.long q5), .second, .val (.long (q3 ^^^ q0)), .second, .val (.long (q1 ^^^ q4)), .second, .val (.long q2), .second, .val (.long q0), .second, .val (.long (q5 ^^^ q2)), .second, .val (.long (q3 ^^^ q1)), .second, .val (.ref b1), .val (.ref b13), .val (.ref r43)] [(.ref r43)]))
  obtain ⟨cq58, kq58, q58a, q58b, q58c⟩ := isOf hZ e56 E_r43
  obtain ⟨_, _, ⟨T58, L58, k58, n58⟩, -, X58, ⟨Lc58, hQ58, l58, y58, z58⟩, st58⟩ := X56.virtualBack hx (y := (⟨"com/example/graphloom/graphloom/engine/graph/SideEffects", "propertiesRemoved", "()J"⟩ : MethodName)) (z := (⟨"com/example/graphloom/graphloom/engine/graph/SideEffects", "propertiesRemoved", "()J"⟩ : MethodName)) hown (mvT hZ (hw _ (List.mem_of_getElem? (i := 72) rfl))) (mvT hZ (hw _ (List.mem_of_getElem? (i := 73) rfl))) (notFace_of_selects (args := #[]) (mvT hZ (hw _ (List.mem_of_getElem? (i := 75) rfl)))) (mvT hZ (hw _ (List.mem_of_getElem? (i := 75) rfl))) (mvT hZ (hw _ (List.mem_of_getElem? (i := 74) rfl))) (by decide) (backOf (W := 0) (rm12 l Z a0 hw [] r43 ((q2 ^^^ q3) + (q3 ^^^ q1)) h43 n0 (Nat.le_trans Z0 K43.1) c43_propertiesRemoved) hZ (hw _ (List.mem_of_getElem? (i := 76) rfl)) (hw _ (List.mem_of_getElem? (i := 2) rfl)) (by decide) (by decide)) q58a q58c (g := (mkF m 233 #[.val (.long q0), .second, .val (.long q1), .second, .val (.long q2), .second, .val (.long q3), .second, .val (.long q4), .second, .val (.long q5), .second, .val (.long q0), .second, .val (.long q1), .second, .val (.long q2), .second, .val (.long q3), .second, .val (.long q4), .second, .val (.long q5), .second, .val (.long (q0 ^^^ q1)), .second, .val (.long (q2 ^^^ q3)), .second, .val (.long q4), .second, .val (.long q5), .second, .val (.long (q3 ^^^ q0)), .second, .val (.long (q1 ^^^ q4)), .second, .val (.long q2), .second, .val (.long q0), .second, .val (.long (q5 ^^^ q2)), .second, .val (.long (q3 ^^^ q1)), .second, .val (.ref b1), .val (.ref b13), .val (.ref r43)] [(.ref r43)])) rfl (by rw [hml]; rfl) (Steps.refl _) (argsL := []) (rest := []) (lenOf pd_2829J rfl) rfl (by show 2 * 0 + _ ≤ _; exact Nat.le_of_eq rfl) (hb hby at_233) (fun _ _ => ⟨rfl, e56, (by decide : 3 + 0 ≤ _), (by decide : 24 + 0 ≤ _)⟩)
  dsimp only [Pt.U, Pt.locs, Pt.cells, Pt.slots] at X58 l58 y58 z58 st58 hQ58
  subst l58 y58 z58
  obtain ⟨rfl, N58q, e58⟩ := hQ58
  have N58 := Fr.app N56 N58q
  refine Wp.go st58 ?_
  show Wp p e below _ (T58.setTop (mkF m 236 #[.val (.long q0), .second, .val (.long q1), .second, .val (.long q2), .second, .val (.long q3), .second, .val (.long q4), .second, .val (.long q5), .second, .val (.long q0), .second, .val (.long q1), .second, .val (.long q2), .second, .val (.long q3), .second, .val (.long q4), .second, .val (.long q5), .second, .val (.long (q0 ^^^ q1)), .second, .val (.long (q2 ^^^ q3)), .second, .val (.long q4), .second, .val (.long q5), .second, .val (.long (q3 ^^^ q0)), .second, .val (.long (q1 ^^^ q4)), .second, .val (.long q2), .second, .val (.long q0), .second, .val (.long (q5 ^^^ q2)), .second, .val (.long (q3 ^^^ q1)), .second, .val (.ref b1), .val (.ref b13), .val (.ref r43)] [(.long ((q2 ^^^ q3) + (q3 ^^^ q1)))]))
  refine Wp.step (fun t k => XS.lload X58.here hx rfl (hb hby at_236) rfl k) ?_
  show Wp p e below _ (T58.setTop (mkF m 238 #[.val (.long q0), .second, .val (.long q1), .second, .val (.long q2), .second, .val (.long q3), .second, .val (.long q4), .second, .val (.long q5), .second, .val (.long q0), .second, .val (.long q1), .second, .val (.long q2), .second, .val (.long q3), .second, .val (.long q4), .second, .val (.long q5), .second, .val (.long (q0 ^^^ q1)), .second, .val (.long (q2 ^^^ q3)), .second, .val (.long q4), .second, .val (.long q5), .second, .val (.long (q3 ^^^ q0)), .second, .val (.long (q1 ^^^ q4)), .second, .val (.long q2), .second, .val (.long q0), .second, .val (.long (q5 ^^^ q2)), .second, .val (.long (q3 ^^^ q1)), .second, .val (.ref b1), .val (.ref b13), .val (.ref r43)] [(.long (q2 ^^^ q3)), (.long ((q2 ^^^ q3) + (q3 ^^^ q1)))]))
  refine Wp.step (fun t k => XS.lload X58.here hx rfl (hb hby at_238) rfl k) ?_
  show Wp p e below _ (T58.setTop (mkF m 240 #[.val (.long q0), .second, .val (.long q1), .second, .val (.long q2), .second, .val (.long q3), .second, .val (.long q4), .second, .val (.long q5), .second, .val (.long q0), .second, .val (.long q1), .second, .val (.long q2), .second, .val (.long q3), .second, .val (.long q4), .second, .val (.long q5), .second, .val (.long (q0 ^^^ q1)), .second, .val (.long (q2 ^^^ q3)), .second, .val (.long q4), .second, .val (.long q5), .second, .val (.long (q3 ^^^ q0)), .second, .val (.long (q1 ^^^ q4)), .second, .val (.long q2), .second, .val (.long q0), .second, .val (.long (q5 ^^^ q2)), .second, .val (.long (q3 ^^^ q1)), .second, .val (.ref b1), .val (.ref b13), .val (.ref r43)] [(.long (q3 ^^^ q1)), (.long (q2 ^^^ q3)), (.long ((q2 ^^^ q3) + (q3 ^^^ q1)))]))
  refine Wp.step (fun t k => XS.ladd X58.here hx rfl (hb hby at_240) rfl k) ?_
  show Wp p e below _ (T58.setTop (mkF m 241 #[.val (.long q0), .second, .val (.long q1), .second, .val (.long q2), .second, .val (.long q3), .second, .val (.long q4), .second, .val (.long q5), .second, .val (.long q0), .second, .val (.long q1), .second, .val (.long q2), .second, .val (.long q3), .second, .val (.long q4), .second, .val (.long q5), .second, .val (.long (q0 ^^^ q1)), .second, .val (.long (q2 ^^^ q3)), .second, .val (.long q4), .second, .val (.long q5), .second, .val (.long (q3 ^^^ q0)), .second, .val (.long (q1 ^^^ q4)), .second, .val (.long q2), .second, .val (.long q0), .second, .val (.long (q5 ^^^ q2)), .second, .val (.long (q3 ^^^ q1)), .second, .val (.ref b1), .val (.ref b13), .val (.ref r43)] [(.long ((q2 ^^^ q3) + (q3 ^^^ q1))), (.long ((q2 ^^^ q3) + (q3 ^^^ q1)))]))
  refine Wp.step (fun t k => XS.lcmp X58.here hx rfl (hb hby at_241) rfl k) ?_
  show Wp p e below _ (T58.setTop (mkF m 242 #[.val (.long q0), .second, .val (.long q1), .second, .val (.long q2), .second, .val (.long q3), .second, .val (.long q4), .second, .val (.long q5), .second, .val (.long q0), .second, .val (.long q1), .second, .val (.long q2), .second, .val (.long q3), .second, .val (.long q4), .second, .val (.long q5), .second, .val (.long (q0 ^^^ q1)), .second, .val (.long (q2 ^^^ q3)), .second, .val (.long q4), .second, .val (.long q5), .second, .val (.long (q3 ^^^ q0)), .second, .val (.long (q1 ^^^ q4)), .second, .val (.long q2), .second, .val (.long q0), .second, .val (.long (q5 ^^^ q2)), .second, .val (.long (q3 ^^^ q1)), .second, .val (.ref b1), .val (.ref b13), .val (.ref r43)] [(.int (lcmpW ((q2 ^^^ q3) + (q3 ^^^ q1)) ((q2 ^^^ q3) + (q3 ^^^ q1))))]))
  refine Wp.step (fun t k => XS.ifNo X58.here hx rfl (hb hby at_242) rfl ((if0 _ _).trans (teq (show (lcmpW ((q2 ^^^ q3) + (q3 ^^^ q1)) ((q2 ^^^ q3) + (q3 ^^^ q1))) = (0 : Int32) from (lw_eq _ _).mpr rfl)).2) k) ?_
  show Wp p e below _ (T58.setTop (mkF m 245 #[.val (.long q0), .second, .val (.long q1), .second, .val (.long q2), .second, .val (.long q3), .second, .val (.long q4), .second, .val (.long q5), .second, .val (.long q0), .second, .val (.long q1), .second, .val (.long q2), .second, .val (.long q3), .second, .val (.long q4), .second, .val (.long q5), .second, .val (.long (q0 ^^^ q1)), .second, .val (.long (q2 ^^^ q3)), .second, .val (.long q4), .second, .val (.long q5), .second, .val (.long (q3 ^^^ q0)), .second, .val (.long (q1 ^^^ q4)), .second, .val (.long q2), .second, .val (.long q0), .second, .val (.long (q5 ^^^ q2)), .second, .val (.long (q3 ^^^ q1)), .second, .val (.ref b1), .val (.ref b13), .val (.ref r43)] []))
  refine Wp.step (fun t k => XS.iconst X58.here hx rfl (hb hby at_245) k) ?_
  show Wp p e below _ (T58.setTop (mkF m 246 #[.val (.long q0), .second, .val (.long q1), .second, .val (.long q2), .second, .val (.long q3), .second, .val (.long q4), .second, .val (.long q5), .second, .val (.long q0), .second, .val (.long q1), .second, .val (.long q2), .second, .val (.long q3), .second, .val (.long q4), .second, .val (.long q5), .second, .val (.long (q0 ^^^ q1)), .second, .val (.long (q2 ^^^ q3)), .second, .val (.long q4), .second, .val (.long q5), .second, .val (.long (q3 ^^^ q0)), .second, .val (.long (q1 ^^^ q4)), .second, .val (.long q2), .second, .val (.long q0), .second, .val (.long (q5 ^^^ q2)), .second, .val (.long (q3 ^^^ q1)), .second, .val (.ref b1), .val (.ref b13), .val (.ref r43)] [(.int (1 : Int32))]))
  refine Wp.step (fun t k => XS.goto X58.here hx rfl (pc0 := 246) (pc' := 250) rfl (hb hby at_246) (by decide) (by decide) k) ?_
  show Wp p e below _ (T58.setTop (mkF m 250 #[.val (.long q0), .second, .val (.long q1), .second, .val (.long q2), .second, .val (.long q3), .second, .val (.long q4), .second, .val (.long q5), .second, .val (.long q0), .second, .val (.long q1), .second, .val (.long q2), .second, .val (.long q3), .second, .val (.long q4), .second, .val (.long q5), .second, .val (.long (q0 ^^^ q1)), .second, .val (.long (q2 ^^^ q3)), .second, .val (.long q4), .second, .val (.long q5), .second, .val (.long (q3 ^^^ q0)), .second, .val (.long (q1 ^^^ q4)), .second, .val (.long q2), .second, .val (.long q0), .second, .val (.long (q5 ^^^ q2)), .second, .val (.long (q3 ^^^ q1)), .second, .val (.ref b1), .val (.ref b13), .val (.ref r43)] [(.int (1 : Int32))]))
  refine Wp.retN X58 hx (t := .boolean) Bd.returns (by simp) (hb hby at_250) hlk ?_ (by decide) (by decide)
  show Q0 Z q0 q1 q2 q3 q4 q5 h0 n0 (some (.int (nar .boolean (1 : Int32)))) T58.heap _
  rw [e58]
  exact ⟨rfl, N58⟩
set_option maxRecDepth 65536 in
set_option maxHeartbeats 40000000 in
theorem comes_1 {Post : Tables → Env → Array Value → State → Outcome → State → Prop} (hpost : ∀ tb e args s v u, (limb_1_1.after args s (.returned v) u = true ∧ limb_1_2.after args s (.returned v) u = true ∧ True) → FrameEnd s (.returned v) u (Jvm.fieldLocs frame_1_writes args s ++ Jvm.arrayLocs frame_1_arrays args s ++ Jvm.staticLocs frame_1_statics s) 16 128 → Post tb e args s (.returned v) u) :
    ArmFor flags0 classFile x code maxLocals ret World_1 tables_1 room_1 Calls_1 rest_1 Pre_1 Post := by
  intro l hfl _ _ p e ha hc hk s m args below hf hA hF happ hP
  obtain ⟨hcalls, hrest, hpre⟩ := hP
  obtain ⟨-, -, -, hnamed, -, -, -, hat⟩ := (Spec.applies_iff hf).mp happ
  obtain ⟨hg, hn⟩ := and_e (Cond.before_iff.mp (show (Jvm.Cond.and given_1 narrow_1).before args s = true from hpre))
  obtain ⟨hcnt, hr0⟩ := and_e hg
  obtain ⟨hi0, hr1⟩ := and_e hr0
  obtain ⟨hi1, hr2⟩ := and_e hr1
  obtain ⟨hi2, hr3⟩ := and_e hr2
  obtain ⟨hi3, hr4⟩ := and_e hr3
  obtain ⟨hi4, hi5⟩ := and_e hr4
  obtain ⟨w0, w1, w2, w3, w4, w5, rfl⟩ : ∃ w0 w1 w2 w3 w4 w5 : Value, args = #[w0, w1, w2, w3, w4, w5] := by
    have hs : args.size = 6 := by simpa [Cond.value, given_1] using hcnt
    obtain ⟨L⟩ := args
    match L, hs with
    | [w0, w1, w2, w3, w4, w5], _ => exact ⟨w0, w1, w2, w3, w4, w5, rfl⟩
  have hw := fun d (hd : d ∈ tables_1) => atoms_spec (ws := Jvm.Cond.code x code maxLocals ret :: tables_1) hat d (List.mem_cons_of_mem _ hd)
  have hfit : Fit s := fun {y c} hc i hi => by
    obtain ⟨ha, rfl⟩ := Array.getElem?_eq_some_iff.mp hc
    have q := List.all_eq_true.mp ((Array.all_eq_true_iff_forall_mem.mp hF) _ (Array.getElem_mem ha)) i (List.mem_range.mpr hi)
    simpa [Array.getElem?_eq_getElem hi] using q
  obtain ⟨i0, ei0⟩ := isL_v hi0
  obtain rfl : w0 = (.long i0) := Option.some.inj ei0
  obtain ⟨i1, ei1⟩ := isL_v hi1
  obtain rfl : w1 = (.long i1) := Option.some.inj ei1
  obtain ⟨i2, ei2⟩ := isL_v hi2
  obtain rfl : w2 = (.long i2) := Option.some.inj ei2
  obtain ⟨i3, ei3⟩ := isL_v hi3
  obtain rfl : w3 = (.long i3) := Option.some.inj ei3
  obtain ⟨i4, ei4⟩ := isL_v hi4
  obtain rfl : w4 = (.long i4) := Option.some.inj ei4
  obtain ⟨i5, ei5⟩ := isL_v hi5
  obtain rfl : w5 = (.long i5) := Option.some.inj ei5
  obtain ⟨n, o, h1, h2, h3, _, L, rfl, ⟨rfl, N⟩, hq⟩ := rm0 l s _ hw tables_1 i0 i1 i2 i3 i4 i5 s.heap s.heap.size (Nat.le_refl _)  p e ha hc hk s m _ below hf ((Spec.applies_iff_loose hf).mp happ).1 ⟨rfl, State.Warmed39.refl s, rfl⟩ trivial
  refine ⟨n, _, h1, h2, h3, hpost _ _ _ _ _ _ ⟨Cond.after_iff.mpr rfl, Cond.after_iff.mpr (eq_i res_at (Term.int_eval (1)) rfl), trivial⟩ ⟨hq.1, hq.2.1, (hq.2.2.sift fun y hy => Or.inr (N y hy)).mono (by decide) (by decide)⟩⟩
theorem main_1_1 : Claimed_1_1 := comes_1 fun _ _ _ _ _ _ h hF => ⟨h.1, hF⟩
theorem main_1_2 : Claimed_1_2 := comes_1 fun _ _ _ _ _ _ h hF => ⟨h.2.1, hF⟩
end Jvm.Pilot.@@N@@
namespace Jvm.Pilot.@@N@@
open Jvm Jvm.ClassFile Sem Op Lib Jvm.Free Jvm.Stand Jvm.Pilot.@@N@@.Jvm.D
/-! MADE BY PROGRAM (witnessworld.py) out of the Statement's table words and the real class files: 8 classes; the members and pool entries that the words name. The judged class is class 1, her method 1. -/
namespace start1
open Jvm.ClassFile
def u (s : String) : CpInfo := .utf8 (stringToUtf16 s)
/-- a pool by its gaps: so many unusable entries, then the entry; so many at the end -/
def gap : Nat → List CpInfo → List CpInfo
  | 0, r => r
  | n + 1, r => .unusable :: gap n r
def poolList (es : List (Nat × CpInfo)) (last : Nat) : List CpInfo := es.foldr (fun e r => gap e.1 (e.2 :: r)) (gap last [])
def pool (es : List (Nat × CpInfo)) (last : Nat) : Array CpInfo := ⟨poolList es last⟩
def fileOf (pool : Array CpInfo) (this : Nat) (attrs : Array Attribute := #[]) (ms : Array MethodInfo := #[]) (fl : Nat := 33) (sup : Nat := 0) (ifs : Array Nat := #[]) (fds : Array FieldInfo := #[]) : ClassFile where
  minorVersion := 0
  majorVersion := 65
  constantPool := pool
  accessFlags := fl
  thisClass := this
  superClass := sup
  interfaces := ifs
  fields := fds
  methods := ms
  attributes := attrs
def plain (name : String) (sup : Option ClassId) : Class where
  name := name
  kind := .ordinary
  loader := none
  accessFlags := 33
  super := sup
  interfaces := #[]
  cf := none
  fields := #[]
  methods := #[]
  instanceTypes := #[]
  staticTypes := #[]
  resolved := #[]
  callSites := []
  init := .initialized
  statics := none
  mirror := none

def pool0 : Array CpInfo := pool [(5, u "<init>"), (0, u "()V"), (1, .class_ 10), (1, u "java/lang/Object")] 113

def k0c0 : Code := { maxStack := 0, maxLocals := 1, code := object_method_1_code, exceptionTable := #[], attributes := #[] }
def k0m0 : Method := { name := "<init>", desc := "()V", sig := { parameters := [], returnType := none }, accessFlags := 1, code := some k0c0 }
/-- java/lang/Object -/
def k0 : Class := { plain "java/lang/Object" none with
  accessFlags := 33
  interfaces := #[]
  cf := some (fileOf pool0 8 #[] #[{ accessFlags := 1, nameIndex := 5, descriptorIndex := 6, attributes := #[] }] 33 0 #[] #[])
  fields := #[]
  methods := #[k0m0]
  instanceTypes := #[]
  staticTypes := #[]
  resolved := Array.replicate 124 none
  statics := none }

def pool1 : Array CpInfo := pool [(2, .class_ 4), (1, u "java/lang/Object"), (0, u "<init>"), (0, u "()V"), (0, .class_ 8), (0, u "com/example/graphloom/graphloom/engine/graph/SideEffects"), (0, .methodref 7 10), (0, .nameAndType 5 11), (0, u "(JJJJJJJJ)V"), (0, .methodref 7 13), (0, .nameAndType 14 15), (0, u "plus"), (0, u "(Lcom/example/graphloom/graphloom/engine/graph/SideEffects;)Lcom/example/graphloom/graphloom/engine/graph/SideEffects;"), (0, .methodref 7 17), (0, .nameAndType 18 19), (0, u "nodesCreated"), (0, u "()J"), (0, .methodref 7 21), (0, .nameAndType 22 19), (0, u "nodesDeleted"), (0, .methodref 7 24), (0, .nameAndType 25 19), (0, u "relationshipsCreated"), (0, .methodref 7 27), (0, .nameAndType 28 19), (0, u "relationshipsDeleted"), (0, .methodref 7 30), (0, .nameAndType 31 19), (0, u "labelsAdded"), (0, .methodref 7 33), (0, .nameAndType 34 19), (0, u "labelsRemoved"), (0, .methodref 7 36), (0, .nameAndType 37 19), (0, u "propertiesSet"), (0, .methodref 7 39), (0, .nameAndType 40 19), (0, u "propertiesRemoved"), (0, .class_ 42), (0, u "com/example/graphloom/graphloom/engine/graph/SideEffectsPlusPinLaw"), (2, u "law"), (0, u "(JJJJJJ)Z")] 3

def k1m0 : Method := { name := "<init>", desc := "()V", sig := { parameters := [], returnType := none }, accessFlags := 1, code := none }
def k1c1 : Code := { maxStack := 18, maxLocals := 47, code := code, exceptionTable := #[], attributes := #[] }
def k1m1 : Method := { name := "law", desc := "(JJJJJJ)Z", sig := { parameters := [.long, .long, .long, .long, .long, .long], returnType := some .boolean }, accessFlags := 9, code := some k1c1 }
/-- com/example/graphloom/graphloom/engine/graph/SideEffectsPlusPinLaw -/
def k1 : Class := { plain "com/example/graphloom/graphloom/engine/graph/SideEffectsPlusPinLaw" (some 0) with
  accessFlags := 49
  interfaces := #[]
  cf := some (fileOf pool1 41 #[] #[{ accessFlags := 1, nameIndex := 5, descriptorIndex := 6, attributes := #[] }, { accessFlags := 9, nameIndex := 45, descriptorIndex := 46, attributes := #[] }] 49 2 #[] #[])
  fields := #[]
  methods := #[k1m0, k1m1]
  instanceTypes := #[]
  staticTypes := #[]
  resolved := Array.replicate 50 none
  statics := none }

def pool2 : Array CpInfo := pool [(1, .methodref 2 3), (0, .class_ 4), (0, .nameAndType 5 6), (0, u "java/lang/Object"), (0, u "<init>"), (0, u "()V"), (0, .class_ 8), (0, u "java/lang/Record")] 13

def k2c0 : Code := { maxStack := 1, maxLocals := 1, code := jdk_30_method_1_code, exceptionTable := #[], attributes := #[] }
def k2m0 : Method := { name := "<init>", desc := "()V", sig := { parameters := [], returnType := none }, accessFlags := 4, code := some k2c0 }
/-- java/lang/Record -/
def k2 : Class := { plain "java/lang/Record" (some 0) with
  accessFlags := 1057
  interfaces := #[]
  cf := some (fileOf pool2 7 #[] #[{ accessFlags := 4, nameIndex := 5, descriptorIndex := 6, attributes := #[] }] 1057 2 #[] #[])
  fields := #[]
  methods := #[k2m0]
  instanceTypes := #[]
  staticTypes := #[]
  resolved := Array.replicate 22 none
  statics := none }

def pool3 : Array CpInfo := pool [(1, .methodref 2 3), (0, .class_ 4), (0, .nameAndType 5 6), (0, u "java/lang/Record"), (0, u "<init>"), (0, u "()V"), (0, .fieldref 8 9), (0, .class_ 10), (0, .nameAndType 11 12), (0, u "com/example/graphloom/graphloom/engine/graph/SideEffects"), (0, u "nodesCreated"), (0, u "J"), (0, .fieldref 8 14), (0, .nameAndType 15 12), (0, u "nodesDeleted"), (0, .fieldref 8 17), (0, .nameAndType 18 12), (0, u "relationshipsCreated"), (0, .fieldref 8 20), (0, .nameAndType 21 12), (0, u "relationshipsDeleted"), (0, .fieldref 8 23), (0, .nameAndType 24 12), (0, u "labelsAdded"), (0, .fieldref 8 26), (0, .nameAndType 27 12), (0, u "labelsRemoved"), (0, .fieldref 8 29), (0, .nameAndType 30 12), (0, u "propertiesSet"), (0, .fieldref 8 32), (0, .nameAndType 33 12), (0, u "propertiesRemoved"), (2, u "KIT_NAMES"), (0, u "Ljava/util/List;"), (60, u "()J"), (0, .methodref 8 100), (0, .nameAndType 5 101), (0, u "(JJJJJJJJ)V"), (65, u "NONE"), (0, u "Lcom/example/graphloom/graphloom/engine/graph/SideEffects;"), (31, u "plus"), (0, u "(Lcom/example/graphloom/graphloom/engine/graph/SideEffects;)Lcom/example/graphloom/graphloom/engine/graph/SideEffects;")] 56

def k3c0 : Code := { maxStack := 3, maxLocals := 17, code := prog_207_method_1_code, exceptionTable := #[], attributes := #[] }
def k3m0 : Method := { name := "<init>", desc := "(JJJJJJJJ)V", sig := { parameters := [.long, .long, .long, .long, .long, .long, .long, .long], returnType := none }, accessFlags := 1, code := some k3c0 }
def k3c1 : Code := { maxStack := 20, maxLocals := 2, code := prog_207_method_4_code, exceptionTable := #[], attributes := #[] }
def k3m1 : Method := { name := "plus", desc := "(Lcom/example/graphloom/graphloom/engine/graph/SideEffects;)Lcom/example/graphloom/graphloom/engine/graph/SideEffects;", sig := { parameters := [(.object "com/example/graphloom/graphloom/engine/graph/SideEffects")], returnType := some (.object "com/example/graphloom/graphloom/engine/graph/SideEffects") }, accessFlags := 1, code := some k3c1 }
def k3c2 : Code := { maxStack := 2, maxLocals := 1, code := prog_207_method_8_code, exceptionTable := #[], attributes := #[] }
def k3m2 : Method := { name := "nodesCreated", desc := "()J", sig := { parameters := [], returnType := some .long }, accessFlags := 1, code := some k3c2 }
def k3c3 : Code := { maxStack := 2, maxLocals := 1, code := prog_207_method_9_code, exceptionTable := #[], attributes := #[] }
def k3m3 : Method := { name := "nodesDeleted", desc := "()J", sig := { parameters := [], returnType := some .long }, accessFlags := 1, code := some k3c3 }
def k3c4 : Code := { maxStack := 2, maxLocals := 1, code := prog_207_method_10_code, exceptionTable := #[], attributes := #[] }
def k3m4 : Method := { name := "relationshipsCreated", desc := "()J", sig := { parameters := [], returnType := some .long }, accessFlags := 1, code := some k3c4 }
def k3c5 : Code := { maxStack := 2, maxLocals := 1, code := prog_207_method_11_code, exceptionTable := #[], attributes := #[] }
def k3m5 : Method := { name := "relationshipsDeleted", desc := "()J", sig := { parameters := [], returnType := some .long }, accessFlags := 1, code := some k3c5 }
def k3c6 : Code := { maxStack := 2, maxLocals := 1, code := prog_207_method_12_code, exceptionTable := #[], attributes := #[] }
def k3m6 : Method := { name := "labelsAdded", desc := "()J", sig := { parameters := [], returnType := some .long }, accessFlags := 1, code := some k3c6 }
def k3c7 : Code := { maxStack := 2, maxLocals := 1, code := prog_207_method_13_code, exceptionTable := #[], attributes := #[] }
def k3m7 : Method := { name := "labelsRemoved", desc := "()J", sig := { parameters := [], returnType := some .long }, accessFlags := 1, code := some k3c7 }
def k3c8 : Code := { maxStack := 2, maxLocals := 1, code := prog_207_method_14_code, exceptionTable := #[], attributes := #[] }
def k3m8 : Method := { name := "propertiesSet", desc := "()J", sig := { parameters := [], returnType := some .long }, accessFlags := 1, code := some k3c8 }
def k3c9 : Code := { maxStack := 2, maxLocals := 1, code := prog_207_method_15_code, exceptionTable := #[], attributes := #[] }
def k3m9 : Method := { name := "propertiesRemoved", desc := "()J", sig := { parameters := [], returnType := some .long }, accessFlags := 1, code := some k3c9 }
/-- com/example/graphloom/graphloom/engine/graph/SideEffects -/
def k3 : Class := { plain "com/example/graphloom/graphloom/engine/graph/SideEffects" (some 2) with
  accessFlags := 49
  interfaces := #[]
  cf := some (fileOf pool3 8 #[] #[{ accessFlags := 1, nameIndex := 5, descriptorIndex := 101, attributes := #[] }, { accessFlags := 1, nameIndex := 200, descriptorIndex := 201, attributes := #[] }, { accessFlags := 1, nameIndex := 11, descriptorIndex := 98, attributes := #[] }, { accessFlags := 1, nameIndex := 15, descriptorIndex := 98, attributes := #[] }, { accessFlags := 1, nameIndex := 18, descriptorIndex := 98, attributes := #[] }, { accessFlags := 1, nameIndex := 21, descriptorIndex := 98, attributes := #[] }, { accessFlags := 1, nameIndex := 24, descriptorIndex := 98, attributes := #[] }, { accessFlags := 1, nameIndex := 27, descriptorIndex := 98, attributes := #[] }, { accessFlags := 1, nameIndex := 30, descriptorIndex := 98, attributes := #[] }, { accessFlags := 1, nameIndex := 33, descriptorIndex := 98, attributes := #[] }] 49 2 #[] #[{ accessFlags := 18, nameIndex := 11, descriptorIndex := 12, attributes := #[] }, { accessFlags := 18, nameIndex := 15, descriptorIndex := 12, attributes := #[] }, { accessFlags := 18, nameIndex := 18, descriptorIndex := 12, attributes := #[] }, { accessFlags := 18, nameIndex := 21, descriptorIndex := 12, attributes := #[] }, { accessFlags := 18, nameIndex := 24, descriptorIndex := 12, attributes := #[] }, { accessFlags := 18, nameIndex := 27, descriptorIndex := 12, attributes := #[] }, { accessFlags := 18, nameIndex := 30, descriptorIndex := 12, attributes := #[] }, { accessFlags := 18, nameIndex := 33, descriptorIndex := 12, attributes := #[] }, { accessFlags := 25, nameIndex := 167, descriptorIndex := 168, attributes := #[] }, { accessFlags := 26, nameIndex := 36, descriptorIndex := 37, attributes := #[] }])
  fields := #[{ name := "nodesCreated", type := .long, accessFlags := 18, slot := 0, constantValue := 0 }, { name := "nodesDeleted", type := .long, accessFlags := 18, slot := 1, constantValue := 0 }, { name := "relationshipsCreated", type := .long, accessFlags := 18, slot := 2, constantValue := 0 }, { name := "relationshipsDeleted", type := .long, accessFlags := 18, slot := 3, constantValue := 0 }, { name := "labelsAdded", type := .long, accessFlags := 18, slot := 4, constantValue := 0 }, { name := "labelsRemoved", type := .long, accessFlags := 18, slot := 5, constantValue := 0 }, { name := "propertiesSet", type := .long, accessFlags := 18, slot := 6, constantValue := 0 }, { name := "propertiesRemoved", type := .long, accessFlags := 18, slot := 7, constantValue := 0 }, { name := "NONE", type := (.object "com/example/graphloom/graphloom/engine/graph/SideEffects"), accessFlags := 25, slot := 0, constantValue := 0 }, { name := "KIT_NAMES", type := (.object "java/util/List"), accessFlags := 26, slot := 1, constantValue := 0 }]
  methods := #[k3m0, k3m1, k3m2, k3m3, k3m4, k3m5, k3m6, k3m7, k3m8, k3m9]
  instanceTypes := #[.long, .long, .long, .long, .long, .long, .long, .long]
  staticTypes := #[(.object "com/example/graphloom/graphloom/engine/graph/SideEffects"), (.object "java/util/List")]
  resolved := Array.replicate 258 none
  statics := none }

def pool4 : Array CpInfo := pool [(1, u "java/lang/Cloneable"), (0, .class_ 1), (0, u "java/lang/Object"), (0, .class_ 3)] 3

/-- java/lang/Cloneable -/
def k4 : Class := { plain "java/lang/Cloneable" (some 0) with
  accessFlags := 1537
  interfaces := #[]
  cf := some (fileOf pool4 2 #[] #[] 1537 4 #[] #[])
  fields := #[]
  methods := #[]
  instanceTypes := #[]
  staticTypes := #[]
  resolved := Array.replicate 8 none
  statics := none }

def pool5 : Array CpInfo := pool [(1, u "java/io/Serializable"), (0, .class_ 1), (0, u "java/lang/Object"), (0, .class_ 3)] 3

/-- java/io/Serializable -/
def k5 : Class := { plain "java/io/Serializable" (some 0) with
  accessFlags := 1537
  interfaces := #[]
  cf := some (fileOf pool5 2 #[] #[] 1537 4 #[] #[])
  fields := #[]
  methods := #[]
  instanceTypes := #[]
  staticTypes := #[]
  resolved := Array.replicate 8 none
  statics := none }

/-- the primitive byte -/
def k6 : Class := { plain "byte" none with kind := .primitive 'B', accessFlags := 0x411 }
/-- [B -/
def k7 : Class := { plain "[B" (some 0) with kind := .array 6 .byte, interfaces := #[4, 5], accessFlags := 1041 }

def heap : Heap := #[]
def classes : Array Class := #[k0, k1, k2, k3, k4, k5, k6, k7]
def interned : List (Array UInt16 × Addr) := []
def slotsUsed : Nat := 0
def theMethod : MethodId := ⟨1, 1⟩
def args0 : Array Value := #[.long 5, .long 7, .long 6, .long 9, .long 10, .long 2]
def aboutOver (below : List Frame) : State where
  vm := { classes := classes, interned := interned.toArray }
  heap := heap
  slotsUsed := slotsUsed
  threads := #[{ frames := .invoking theMethod args0 :: below }]
def below0 : List Frame := [.native { method := ⟨0, 0⟩, args := #[] }]
def about1 : State := aboutOver below0
def p0 : Program := .bare "" "" ""
def e0 : Env := launch0.env 0 0 0
theorem w_frames : about1.frames = Frame.invoking theMethod args0 :: below0 := rfl
set_option maxRecDepth 65536 in
theorem w_args : argsFit about1.vm theMethod args0 = true := by decide +kernel
set_option maxRecDepth 65536 in
theorem w_heap : heapFits about1 = true := by decide +kernel
set_option maxRecDepth 65536 in
theorem w_runnable : about1.curStatus? = some .runnable := by decide +kernel
set_option maxRecDepth 65536 in
theorem w_alone : about1.alone = true := by decide +kernel
set_option maxRecDepth 65536 in
theorem w_named : about1.methodNamed? x = some theMethod := by decide +kernel
set_option maxRecDepth 65536 in
theorem w_hears : about1.hears theMethod below0 = true := by decide +kernel
set_option maxRecDepth 65536 in
theorem w_ripe : about1.ripe theMethod args0 below0 = true := by decide +kernel
theorem w_running : about1.status = .running := rfl
set_option maxRecDepth 65536 in
theorem w_room : about1.hasRoom e0.platform room_1 = true :=
  launch0.hasRoom_least _ room_1 (by decide +kernel) (by decide +kernel) (by decide +kernel) (by decide +kernel) (by decide +kernel) (by decide +kernel)
theorem allAtoms_all (ts : List Jvm.Cond) (a : Array Jvm.Value) (st : Jvm.State) : (allAtoms ts).before a st = ts.all (fun c => c.before a st) := by
  induction ts with
  | nil => rfl
  | cons c t ih =>
    show (Jvm.Cond.and c (allAtoms t)).before a st = _
    rw [Jvm.Cond.before_and, ih, List.all_cons]
def words1 : List Jvm.Cond := Jvm.Cond.code x code maxLocals ret :: tables_1
/-- a 'code' word, met by the world's own term for the bytes: nothing is compared byte by byte -/
theorem code_word {y : MethodName} {bytes : ByteArray} {mx : Nat} {rt : Option FieldType} {a : Array Value} {s : State} {m : MethodId} {meth : Method} {c : Code} (h1 : s.methodNamed? y = some m) (h2 : s.vm.method? m = some meth) (h3 : meth.code = some c) (h4 : c.code = bytes)
    (h5 : (c.maxLocals == mx && c.exceptionTable.isEmpty && decide (c.maxStack ≤ mostOperands) && decide (meth.sig.returnType = rt) && !meth.locks && decide (parseMethodDescriptor y.desc = some meth.sig)) = true) : (Jvm.Cond.code y bytes mx rt).before a s = true := by
  simp only [Bool.and_eq_true, beq_iff_eq, Bool.not_eq_true', decide_eq_true_eq] at h5
  obtain ⟨⟨⟨⟨⟨g1, g2⟩, g3⟩, g4⟩, g5⟩, g6⟩ := h5
  simp [Cond.before, Cond.holds, Cond.value, h1, h2, h3, h4, g1, g2, g3, g4, g5, g6]
def isCode : Jvm.Cond → Bool
  | .code _ _ _ _ => true
  | _ => false
theorem all_split {L : List Jvm.Cond} {P : Jvm.Cond → Bool} (h1 : L.all (fun c => isCode c || P c) = true) (h2 : ∀ c ∈ L.filter isCode, P c = true) : L.all P = true := by
  refine List.all_eq_true.mpr fun c hc => ?_
  have h := List.all_eq_true.mp h1 c hc
  rcases Bool.eq_false_or_eq_true (isCode c) with hi | hi
  · exact h2 c (List.mem_filter.mpr ⟨hc, hi⟩)
  · simpa [hi] using h
set_option maxRecDepth 65536 in
theorem w_c0 : (Jvm.Cond.code x code maxLocals ret).before args0 about1 = true := code_word (m := ⟨1, 1⟩) (meth := k1m1) (c := k1c1) (by decide +kernel) rfl rfl rfl (by decide +kernel)
set_option maxRecDepth 65536 in
theorem w_c1 : (Jvm.Cond.code ({ cls := "com/example/graphloom/graphloom/engine/graph/SideEffects", name := "<init>", desc := "(JJJJJJJJ)V" } : Jvm.MethodName) prog_207_method_1_code (17 : Nat) (Option.none : Option Jvm.ClassFile.FieldType)).before args0 about1 = true := code_word (m := ⟨3, 0⟩) (meth := k3m0) (c := k3c0) (by decide +kernel) rfl rfl rfl (by decide +kernel)
set_option maxRecDepth 65536 in
theorem w_c2 : (Jvm.Cond.code ({ cls := "java/lang/Record", name := "<init>", desc := "()V" } : Jvm.MethodName) jdk_30_method_1_code (1 : Nat) (Option.none : Option Jvm.ClassFile.FieldType)).before args0 about1 = true := code_word (m := ⟨2, 0⟩) (meth := k2m0) (c := k2c0) (by decide +kernel) rfl rfl rfl (by decide +kernel)
set_option maxRecDepth 65536 in
theorem w_c3 : (Jvm.Cond.code ({ cls := "java/lang/Object", name := "<init>", desc := "()V" } : Jvm.MethodName) object_method_1_code (1 : Nat) (Option.none : Option Jvm.ClassFile.FieldType)).before args0 about1 = true := code_word (m := ⟨0, 0⟩) (meth := k0m0) (c := k0c0) (by decide +kernel) rfl rfl rfl (by decide +kernel)
set_option maxRecDepth 65536 in
theorem w_c4 : (Jvm.Cond.code ({ cls := "com/example/graphloom/graphloom/engine/graph/SideEffects", name := "plus", desc := "(Lcom/example/graphloom/graphloom/engine/graph/SideEffects;)Lcom/example/graphloom/graphloom/engine/graph/SideEffects;" } : Jvm.MethodName) prog_207_method_4_code (2 : Nat) (Option.some (Jvm.ClassFile.FieldType.object "com/example/graphloom/graphloom/engine/graph/SideEffects"))).before args0 about1 = true := code_word (m := ⟨3, 1⟩) (meth := k3m1) (c := k3c1) (by decide +kernel) rfl rfl rfl (by decide +kernel)
set_option maxRecDepth 65536 in
theorem w_c5 : (Jvm.Cond.code ({ cls := "com/example/graphloom/graphloom/engine/graph/SideEffects", name := "nodesCreated", desc := "()J" } : Jvm.MethodName) prog_207_method_8_code (1 : Nat) (Option.some Jvm.ClassFile.FieldType.long)).before args0 about1 = true := code_word (m := ⟨3, 2⟩) (meth := k3m2) (c := k3c2) (by decide +kernel) rfl rfl rfl (by decide +kernel)
set_option maxRecDepth 65536 in
theorem w_c6 : (Jvm.Cond.code ({ cls := "com/example/graphloom/graphloom/engine/graph/SideEffects", name := "nodesDeleted", desc := "()J" } : Jvm.MethodName) prog_207_method_9_code (1 : Nat) (Option.some Jvm.ClassFile.FieldType.long)).before args0 about1 = true := code_word (m := ⟨3, 3⟩) (meth := k3m3) (c := k3c3) (by decide +kernel) rfl rfl rfl (by decide +kernel)
set_option maxRecDepth 65536 in
theorem w_c7 : (Jvm.Cond.code ({ cls := "com/example/graphloom/graphloom/engine/graph/SideEffects", name := "relationshipsCreated", desc := "()J" } : Jvm.MethodName) prog_207_method_10_code (1 : Nat) (Option.some Jvm.ClassFile.FieldType.long)).before args0 about1 = true := code_word (m := ⟨3, 4⟩) (meth := k3m4) (c := k3c4) (by decide +kernel) rfl rfl rfl (by decide +kernel)
set_option maxRecDepth 65536 in
theorem w_c8 : (Jvm.Cond.code ({ cls := "com/example/graphloom/graphloom/engine/graph/SideEffects", name := "relationshipsDeleted", desc := "()J" } : Jvm.MethodName) prog_207_method_11_code (1 : Nat) (Option.some Jvm.ClassFile.FieldType.long)).before args0 about1 = true := code_word (m := ⟨3, 5⟩) (meth := k3m5) (c := k3c5) (by decide +kernel) rfl rfl rfl (by decide +kernel)
set_option maxRecDepth 65536 in
theorem w_c9 : (Jvm.Cond.code ({ cls := "com/example/graphloom/graphloom/engine/graph/SideEffects", name := "labelsAdded", desc := "()J" } : Jvm.MethodName) prog_207_method_12_code (1 : Nat) (Option.some Jvm.ClassFile.FieldType.long)).before args0 about1 = true := code_word (m := ⟨3, 6⟩) (meth := k3m6) (c := k3c6) (by decide +kernel) rfl rfl rfl (by decide +kernel)
set_option maxRecDepth 65536 in
theorem w_c10 : (Jvm.Cond.code ({ cls := "com/example/graphloom/graphloom/engine/graph/SideEffects", name := "labelsRemoved", desc := "()J" } : Jvm.MethodName) prog_207_method_13_code (1 : Nat) (Option.some Jvm.ClassFile.FieldType.long)).before args0 about1 = true := code_word (m := ⟨3, 7⟩) (meth := k3m7) (c := k3c7) (by decide +kernel) rfl rfl rfl (by decide +kernel)
set_option maxRecDepth 65536 in
theorem w_c11 : (Jvm.Cond.code ({ cls := "com/example/graphloom/graphloom/engine/graph/SideEffects", name := "propertiesSet", desc := "()J" } : Jvm.MethodName) prog_207_method_14_code (1 : Nat) (Option.some Jvm.ClassFile.FieldType.long)).before args0 about1 = true := code_word (m := ⟨3, 8⟩) (meth := k3m8) (c := k3c8) (by decide +kernel) rfl rfl rfl (by decide +kernel)
set_option maxRecDepth 65536 in
theorem w_c12 : (Jvm.Cond.code ({ cls := "com/example/graphloom/graphloom/engine/graph/SideEffects", name := "propertiesRemoved", desc := "()J" } : Jvm.MethodName) prog_207_method_15_code (1 : Nat) (Option.some Jvm.ClassFile.FieldType.long)).before args0 about1 = true := code_word (m := ⟨3, 9⟩) (meth := k3m9) (c := k3c9) (by decide +kernel) rfl rfl rfl (by decide +kernel)
def codes1 : List Jvm.Cond := [Jvm.Cond.code x code maxLocals ret, Jvm.Cond.code ({ cls := "com/example/graphloom/graphloom/engine/graph/SideEffects", name := "<init>", desc := "(JJJJJJJJ)V" } : Jvm.MethodName) prog_207_method_1_code (17 : Nat) (Option.none : Option Jvm.ClassFile.FieldType), Jvm.Cond.code ({ cls := "java/lang/Record", name := "<init>", desc := "()V" } : Jvm.MethodName) jdk_30_method_1_code (1 : Nat) (Option.none : Option Jvm.ClassFile.FieldType), Jvm.Cond.code ({ cls := "java/lang/Object", name := "<init>", desc := "()V" } : Jvm.MethodName) object_method_1_code (1 : Nat) (Option.none : Option Jvm.ClassFile.FieldType), Jvm.Cond.code ({ cls := "com/example/graphloom/graphloom/engine/graph/SideEffects", name := "plus", desc := "(Lcom/example/graphloom/graphloom/engine/graph/SideEffects;)Lcom/example/graphloom/graphloom/engine/graph/SideEffects;" } : Jvm.MethodName) prog_207_method_4_code (2 : Nat) (Option.some (Jvm.ClassFile.FieldType.object "com/example/graphloom/graphloom/engine/graph/SideEffects")), Jvm.Cond.code ({ cls := "com/example/graphloom/graphloom/engine/graph/SideEffects", name := "nodesCreated", desc := "()J" } : Jvm.MethodName) prog_207_method_8_code (1 : Nat) (Option.some Jvm.ClassFile.FieldType.long), Jvm.Cond.code ({ cls := "com/example/graphloom/graphloom/engine/graph/SideEffects", name := "nodesDeleted", desc := "()J" } : Jvm.MethodName) prog_207_method_9_code (1 : Nat) (Option.some Jvm.ClassFile.FieldType.long), Jvm.Cond.code ({ cls := "com/example/graphloom/graphloom/engine/graph/SideEffects", name := "relationshipsCreated", desc := "()J" } : Jvm.MethodName) prog_207_method_10_code (1 : Nat) (Option.some Jvm.ClassFile.FieldType.long), Jvm.Cond.code ({ cls := "com/example/graphloom/graphloom/engine/graph/SideEffects", name := "relationshipsDeleted", desc := "()J" } : Jvm.MethodName) prog_207_method_11_code (1 : Nat) (Option.some Jvm.ClassFile.FieldType.long), Jvm.Cond.code ({ cls := "com/example/graphloom/graphloom/engine/graph/SideEffects", name := "labelsAdded", desc := "()J" } : Jvm.MethodName) prog_207_method_12_code (1 : Nat) (Option.some Jvm.ClassFile.FieldType.long), Jvm.Cond.code ({ cls := "com/example/graphloom/graphloom/engine/graph/SideEffects", name := "labelsRemoved", desc := "()J" } : Jvm.MethodName) prog_207_method_13_code (1 : Nat) (Option.some Jvm.ClassFile.FieldType.long), Jvm.Cond.code ({ cls := "com/example/graphloom/graphloom/engine/graph/SideEffects", name := "propertiesSet", desc := "()J" } : Jvm.MethodName) prog_207_method_14_code (1 : Nat) (Option.some Jvm.ClassFile.FieldType.long), Jvm.Cond.code ({ cls := "com/example/graphloom/graphloom/engine/graph/SideEffects", name := "propertiesRemoved", desc := "()J" } : Jvm.MethodName) prog_207_method_15_code (1 : Nat) (Option.some Jvm.ClassFile.FieldType.long)]
set_option maxRecDepth 65536 in
theorem codes_eq : words1.filter isCode = codes1 := rfl
theorem w_codes : ∀ c ∈ words1.filter isCode, c.before args0 about1 = true := by
  rw [codes_eq]
  intro c hc
  simp only [codes1, List.mem_cons, List.not_mem_nil, or_false] at hc
  rcases hc with rfl | rfl | rfl | rfl | rfl | rfl | rfl | rfl | rfl | rfl | rfl | rfl | rfl
  · exact w_c0
  · exact w_c1
  · exact w_c2
  · exact w_c3
  · exact w_c4
  · exact w_c5
  · exact w_c6
  · exact w_c7
  · exact w_c8
  · exact w_c9
  · exact w_c10
  · exact w_c11
  · exact w_c12
set_option maxRecDepth 65536 in
theorem w_t1 : (words1.take 24).all (fun c => isCode c || c.before args0 about1) = true := by decide +kernel
set_option maxRecDepth 65536 in
theorem w_t2 : ((words1.drop 24).take 24).all (fun c => isCode c || c.before args0 about1) = true := by decide +kernel
set_option maxRecDepth 65536 in
theorem w_t3 : (((words1.drop 24).drop 24).take 24).all (fun c => isCode c || c.before args0 about1) = true := by decide +kernel
set_option maxRecDepth 65536 in
theorem w_t4 : (((words1.drop 24).drop 24).drop 24).all (fun c => isCode c || c.before args0 about1) = true := by decide +kernel
theorem w_tables : (allAtoms (Jvm.Cond.code x code maxLocals ret :: tables_1)).before args0 about1 = true := by
  rw [allAtoms_all]
  show words1.all (fun c => c.before args0 about1) = true
  refine all_split ?_ w_codes
  rw [← List.take_append_drop 24 words1, List.all_append, w_t1, ← List.take_append_drop 24 (words1.drop 24), List.all_append, w_t2, ← List.take_append_drop 24 ((words1.drop 24).drop 24), List.all_append, w_t3, w_t4]
  rfl
set_option maxRecDepth 65536 in
theorem w_case : (Jvm.Cond.and given_1 narrow_1).before args0 about1 = true := by decide +kernel
theorem w_applies : (headSpec (Jvm.Cond.code x code maxLocals ret :: tables_1) room_1).applies x e0.platform about1 = true :=
  (Spec.applies_iff w_frames).mpr ⟨w_running, w_runnable, w_alone, w_named, w_hears, w_ripe, w_room, w_tables⟩
theorem atStart : AtStart classFile x code maxLocals ret World_1 tables_1 room_1 Calls_1 rest_1 Pre_1 launch0 p0 e0 about1 theMethod args0 below0 :=
  ⟨lists_1, trivial, launch0.admits_env _ _ _, launch0.least_env, fairChoices_fair.cas, fairChoices_fair.clock, w_frames, w_args, w_heap, w_applies, trivial, trivial, w_case⟩
end start1
theorem witness_1 : WitnessClaimed_1 := ⟨start1.p0, start1.e0, start1.about1, start1.theMethod, start1.args0, start1.below0, start1.atStart⟩
end Jvm.Pilot.@@N@@
