import JvmDerived
import JvmDerived.Pilot.@@N@@Statement
import JvmDerived.Pilot.@@N@@Code
set_option linter.unusedVariables false
set_option linter.unusedSimpArgs false
namespace Jvm.Pilot.@@N@@
open Jvm Jvm.ClassFile Sem Op Lib Jvm.Free Jvm.Stand Jvm.LawKit Jvm.RoadKit Bundle Jvm.Pilot.@@N@@.Jvm.D
/-! a run from here comes to the end of the invocation, and Q holds there -/
section OwnWp
variable {p : Program} {l : Launch} {e : Env} {R : Room} {s : State} {m : MethodId} {args : Array Value} {below : List Frame} {meth : Method} {c : Code} {T : State} {locs : List Loc} {cells slots : Nat}
def Wp (p : Program) (e : Env) (below : List Frame) (Q : Outcome → State → Prop) (A : State) : Prop := ∃ s₂ o, Steps p.tables e below A s₂ ∧ s₂.status = .running ∧ Ended s₂ below o ∧ Q o s₂
def Out (s : State) (Q : Option Value → Heap → List Loc → Prop) (k n : Nat) (o : Outcome) (t : State) : Prop := ∃ v L, o = .returned v ∧ Q v t.heap L ∧ FrameEnd s o t L k n
theorem Wp.step {Q : Outcome → State → Prop} {A B : State} (h : ∀ t, Steps p.tables e below B t → Steps p.tables e below A t) (k : Wp p e below Q B) : Wp p e below Q A := by
  obtain ⟨s₂, o, h1, h2⟩ := k; exact ⟨s₂, o, h _ h1, h2⟩
theorem Wp.go {Q : Outcome → State → Prop} {A B : State} (h : Steps p.tables e below A B) (k : Wp p e below Q B) : Wp p e below Q A := Wp.step (fun _ q => h.trans q) k
theorem Wp.out (X : Stand p l e R s m args below meth c T locs cells slots) {A : State} {v : Option Value} {Q : Option Value → Heap → List Loc → Prop} {k n : Nat} (hv : meth.sig.returnType = none → v = none) (hlk : meth.locks = false)
    (hs : ∀ fs, (∀ (f : JFrame) (acts : List Action), f.method = m → f.locked = none → f.entered = [] → (doReturn e (T.setTop f) acts v).1 = T.setFrames fs) → Steps p.tables e below A (T.setFrames fs)) (hQ : Q v T.heap locs) (hk : cells ≤ k) (hn : slots ≤ n) : Wp p e below (Out s Q k n) A := by
  obtain ⟨fs, hr, hrun, hended, hW, hsame⟩ := X.leave (v := v) hv hlk
  exact ⟨_, _, hs fs hr, hrun, hended, _, _, rfl, hQ, ⟨_, rfl⟩, hW, hsame.mono hk hn⟩
theorem Wp.retV (X : Stand p l e R s m args below meth c T locs cells slots) (hx : p.tables.exec = Jvm.exec) {pc : Nat} {Ls : Array Slot} {Q : Option Value → Heap → List Loc → Prop} {k n : Nat} (hret : meth.sig.returnType = none) (hd : decode c.code pc = .ok (.return_, 1)) (hlk : meth.locks = false)
    (hQ : Q none T.heap locs) (hk : cells ≤ k) (hn : slots ≤ n) : Wp p e below (Out s Q k n) (T.setTop (mkF m pc Ls [])) := Wp.out X (fun _ => rfl) hlk (fun fs hr => X.returnOut hx hret hd hr) hQ hk hn
theorem Wp.retN (X : Stand p l e R s m args below meth c T locs cells slots) (hx : p.tables.exec = Jvm.exec) {pc : Nat} {Ls : Array Slot} {z : Int32} {rest : List Value} {t : FieldType} {Q : Option Value → Heap → List Loc → Prop} {k n : Nat} (hret : meth.sig.returnType = some t) (ht : t = .boolean ∨ t = .byte ∨ t = .char ∨ t = .short) (hd : decode c.code pc = .ok (.ireturn, 1)) (hlk : meth.locks = false)
    (hQ : Q (some (.int (nar t z))) T.heap locs) (hk : cells ≤ k) (hn : slots ≤ n) : Wp p e below (Out s Q k n) (T.setTop (mkF m pc Ls (.int z :: rest))) := Wp.out X (fun h => by rw [hret] at h; cases h) hlk (fun fs hr => Jvm.RoadKit.retN X hx hret ht hd hr) hQ hk hn
theorem Wp.retI (X : Stand p l e R s m args below meth c T locs cells slots) (hx : p.tables.exec = Jvm.exec) {pc : Nat} {Ls : Array Slot} {z : Int32} {rest : List Value} {Q : Option Value → Heap → List Loc → Prop} {k n : Nat} (hret : meth.sig.returnType = some .int) (hd : decode c.code pc = .ok (.ireturn, 1)) (hlk : meth.locks = false)
    (hQ : Q (some (.int z)) T.heap locs) (hk : cells ≤ k) (hn : slots ≤ n) : Wp p e below (Out s Q k n) (T.setTop (mkF m pc Ls (.int z :: rest))) := Wp.out X (fun h => by rw [hret] at h; cases h) hlk (fun fs hr => Jvm.RoadKit.retOut X hx hret rfl (Or.inl ⟨rfl, Or.inl rfl, z, rfl⟩) hd hr) hQ hk hn
theorem Wp.retJ (X : Stand p l e R s m args below meth c T locs cells slots) (hx : p.tables.exec = Jvm.exec) {pc : Nat} {Ls : Array Slot} {z : Int64} {rest : List Value} {Q : Option Value → Heap → List Loc → Prop} {k n : Nat} (hret : meth.sig.returnType = some .long) (hd : decode c.code pc = .ok (.lreturn, 1)) (hlk : meth.locks = false)
    (hQ : Q (some (.long z)) T.heap locs) (hk : cells ≤ k) (hn : slots ≤ n) : Wp p e below (Out s Q k n) (T.setTop (mkF m pc Ls (.long z :: rest))) := Wp.out X (fun h => by rw [hret] at h; cases h) hlk (fun fs hr => Jvm.RoadKit.retOut X hx hret rfl (Or.inr (Or.inl ⟨rfl, rfl, z, rfl⟩)) hd hr) hQ hk hn
theorem Wp.retA (X : Stand p l e R s m args below meth c T locs cells slots) (hx : p.tables.exec = Jvm.exec) {pc : Nat} {Ls : Array Slot} {w : Value} {rest : List Value} {t : FieldType} {Q : Option Value → Heap → List Loc → Prop} {k n : Nat} (hret : meth.sig.returnType = some t) (hw : w.isRef = true) (hd : decode c.code pc = .ok (.areturn, 1)) (hlk : meth.locks = false)
    (hQ : Q (some w) T.heap locs) (hk : cells ≤ k) (hn : slots ≤ n) (ht : t.isReference = true := by rfl) : Wp p e below (Out s Q k n) (T.setTop (mkF m pc Ls (w :: rest))) := Wp.out X (fun h => by rw [hret] at h; cases h) hlk (fun fs hr => Jvm.RoadKit.retOut X hx hret (by cases t <;> first | (cases ht; done) | (cases w <;> first | (cases hw; done) | rfl)) (Or.inr (Or.inr (Or.inr (Or.inr ⟨rfl, ht, hw⟩)))) hd hr) hQ hk hn
end OwnWp
theorem own_fld {s : State} {args : Array Value} {t : Term} {a : Addr} {C n d : String} {k : Int32} (ev : t.eval args s none [] s = some (.ref a)) (h : (Jvm.Cond.eq (Term.field t C n d) (Term.int k)).value args s none s [] = some true) : Fld s s.heap a C n d (.int k) := by
  refine Fld.start ?_
  have e := fld_at (C := C) (n := n) (dd := d) ev
  obtain ⟨x, y, h1, h2, h3, h4⟩ := cmp_v (Or.inl h)
  cases h2
  obtain ⟨z, rfl⟩ := h4
  rw [← e, h1]
  have q : (Jvm.Cond.eq (Term.field t C n d) (Term.int k)).value args s none s [] = some (decide (z = k)) := by
    have h2 : (Term.int k).eval args s none [] s = some (.int k) := rfl
    simp only [Jvm.Cond.value, h1, h2]
  rw [gotT q h]
theorem d2_0 : decode jdk_37_method_2_code 0 = .ok (.aload_n 0, 1) := by decide +kernel
theorem d2_1 : decode jdk_37_method_2_code 1 = .ok (.getfield 7, 3) := by decide +kernel
theorem d2_4 : decode jdk_37_method_2_code 4 = .ok (.ireturn, 1) := by decide +kernel
theorem pn_java_lang_Enum : plainName "java/lang/Enum" = true := by first | (simp [plainName, overriddenIn]; done) | decide +kernel
theorem ef_2_0 (m : MethodId) (x0 : Addr) : entryFrame m #[(.ref x0)] 1 = mkF m 0 #[.val (.ref x0)] [] := by first | (simp [entryFrame, mkF, argsToLocals, Value.category]; done) | rfl
def Q2 (Z : State) (d0 : Addr) (o0 : Int32) (h0 : Heap) (n0 : Nat) (v : Option Value) (h : Heap) (L : List Loc) : Prop := v = some (.int o0) ∧ Fr n0 L ∧ h = h0
set_option maxRecDepth 65536 in
set_option maxHeartbeats 40000000 in
theorem rm2 (l : Launch) (Z : State) (a0 : Array Value) (hw : ∀ d ∈ tables_1, d.before a0 Z = true) (ws : List Jvm.Cond) (d0 : Addr) (o0 : Int32) (h0 : Heap) (n0 : Nat) (Z0 : n0 ≤ h0.size) (F_d0 : Fld Z h0 d0 "java/lang/Enum" "ordinal" "I" (.int o0)) :
    MetFree l (⟨"java/lang/Enum", "ordinal", "()I"⟩ : MethodName) (head1 (Jvm.Cond.code (⟨"java/lang/Enum", "ordinal", "()I"⟩ : MethodName) jdk_37_method_2_code 1 (some .int) :: ws) ({ frames := 0, cells := 0, slots := 0, locals := 0 } : Room)) (fun a U => a = #[(.ref d0)] ∧ Z.Warmed39 U.vm ∧ U.heap = h0) (fun _ _ _ _ _ => True) (fun _ U o U' => ∃ v L, o = .returned v ∧ Q2 Z d0 o0 h0 n0 v U'.heap L ∧ FrameEnd U o U' L ({ frames := 0, cells := 0, slots := 0, locals := 0 } : Room).cells ({ frames := 0, cells := 0, slots := 0, locals := 0 } : Room).slots) := by
  refine MetFree.of_bodySF (plainFor_of_name pn_java_lang_Enum) hisR ?_
  intro p e s m args below meth c s₁ Bd hml0 hP hK
  obtain ⟨rfl, hZ, hh⟩ := hP
  have hx := Bd.exec
  have hby := Bd.bytes
  have hlk : meth.locks = false := Bd.notSynchronized
  have hml : c.maxLocals = 1 := hml0
  have hown : s.vm.findClass "java/lang/Enum" = some m.cls := findClass_of_methodNamed Bd.named
  have hnm := (name_of_methodNamed Bd.named Bd.method).1
  have X0 : Stand p l e ({ frames := 0, cells := 0, slots := 0, locals := 0 } : Room) s m #[(.ref d0)] below meth c s₁ [] 0 0 := Stand.of_body Bd
  have e0 : s₁.heap = h0 := by rw [← hh, Bd.state]; rfl
  have N0 := Fr.nil n0
  have K0 : Keep h0 h0 [] := Keep.refl h0 _
  show Wp p e below (Out s (Q2 Z d0 o0 h0 n0) ({ frames := 0, cells := 0, slots := 0, locals := 0 } : Room).cells ({ frames := 0, cells := 0, slots := 0, locals := 0 } : Room).slots) (s₁.setTop (entryFrame m #[(.ref d0)] 1))
  rw [ef_2_0]
  show Wp p e below _ (s₁.setTop (mkF m 0 #[.val (.ref d0)] []))
  refine Wp.step (fun t k => XS.aloadN X0.here hx rfl (hb hby d2_0) rfl rfl k) ?_
  show Wp p e below _ (s₁.setTop (mkF m 1 #[.val (.ref d0)] [(.ref d0)]))
  obtain ⟨T1, X1, e1, st1⟩ := getF X0 hx hZ hown (host := "") (Or.inl (hw _ (List.mem_of_getElem? (i := 15) rfl))) Via.refl e0 F_d0 (g := (mkF m 1 #[.val (.ref d0)] [(.ref d0)])) rfl rfl (hb hby d2_1)
  refine Wp.step st1 ?_
  show Wp p e below _ (T1.setTop (mkF m 4 #[.val (.ref d0)] [(.int o0)]))
  refine Wp.retI X1 hx Bd.returns (hb hby d2_4) hlk ?_ (by decide) (by decide)
  show Q2 Z d0 o0 h0 n0 (some (.int o0)) T1.heap _
  rw [e1]
  exact ⟨rfl, N0, rfl⟩
theorem pd_2829I : parseMethodDescriptor "()I" = some ⟨[], some .int⟩ := by decide +kernel
theorem d1_0 : decode prog_22_method_5_code 0 = .ok (.aload_n 0, 1) := by decide +kernel
theorem d1_1 : decode prog_22_method_5_code 1 = .ok (.invokevirtual 60, 3) := by decide +kernel
theorem d1_4 : decode prog_22_method_5_code 4 = .ok (.lookupswitch 28 #[(0, 38), (1, 42)], 28) := by decide +kernel
theorem d1_42 : decode prog_22_method_5_code 42 = .ok (.lconst 1, 1) := by decide +kernel
theorem d1_43 : decode prog_22_method_5_code 43 = .ok (.goto 4, 3) := by decide +kernel
theorem d1_47 : decode prog_22_method_5_code 47 = .ok (.lreturn, 1) := by decide +kernel
theorem pn_com_example_gentle_bucket_gentlebucket_cli_Cost : plainName "com/example/gentle_bucket/gentlebucket/cli/Cost" = true := by first | (simp [plainName, overriddenIn]; done) | decide +kernel
theorem ef_1_00 (m : MethodId) (x0 : Addr) (x1 : Int64) : entryFrame m #[(.ref x0), (.long x1)] 3 = mkF m 0 #[.val (.ref x0), .val (.long x1), .second] [] := by first | (simp [entryFrame, mkF, argsToLocals, Value.category]; done) | rfl
def Q1_0 (Z : State) (d0 : Addr) (v0 : Int64) (h0 : Heap) (n0 : Nat) (v : Option Value) (h : Heap) (L : List Loc) : Prop := v = some (.long 1) ∧ Fr n0 L ∧ h = h0
set_option maxRecDepth 65536 in
set_option maxHeartbeats 40000000 in
theorem rm1_0 (l : Launch) (Z : State) (a0 : Array Value) (hw : ∀ d ∈ tables_1, d.before a0 Z = true) (ws : List Jvm.Cond) (d0 : Addr) (v0 : Int64) (h0 : Heap) (n0 : Nat) (Z0 : n0 ≤ h0.size) (F_d0 : Fld Z h0 d0 "java/lang/Enum" "ordinal" "I" (.int 0)) (E_d0 : Exa Z h0 d0 "com/example/gentle_bucket/gentlebucket/cli/Cost") :
    MetFree l (⟨"com/example/gentle_bucket/gentlebucket/cli/Cost", "of", "(J)J"⟩ : MethodName) (head1 (Jvm.Cond.code (⟨"com/example/gentle_bucket/gentlebucket/cli/Cost", "of", "(J)J"⟩ : MethodName) prog_22_method_5_code 3 (some .long) :: ws) ({ frames := 1, cells := 0, slots := 0, locals := 12 } : Room)) (fun a U => a = #[(.ref d0), (.long v0)] ∧ Z.Warmed39 U.vm ∧ U.heap = h0) (fun _ _ _ _ _ => True) (fun _ U o U' => ∃ v L, o = .returned v ∧ Q1_0 Z d0 v0 h0 n0 v U'.heap L ∧ FrameEnd U o U' L ({ frames := 1, cells := 0, slots := 0, locals := 12 } : Room).cells ({ frames := 1, cells := 0, slots := 0, locals := 12 } : Room).slots) := by
  refine MetFree.of_bodySF (plainFor_of_name pn_com_example_gentle_bucket_gentlebucket_cli_Cost) hisR ?_
  intro p e s m args below meth c s₁ Bd hml0 hP hK
  obtain ⟨rfl, hZ, hh⟩ := hP
  have hx := Bd.exec
  have hby := Bd.bytes
  have hlk : meth.locks = false := Bd.notSynchronized
  have hml : c.maxLocals = 3 := hml0
  have hown : s.vm.findClass "com/example/gentle_bucket/gentlebucket/cli/Cost" = some m.cls := findClass_of_methodNamed Bd.named
  have hnm := (name_of_methodNamed Bd.named Bd.method).1
  have X0 : Stand p l e ({ frames := 1, cells := 0, slots := 0, locals := 12 } : Room) s m #[(.ref d0), (.long v0)] below meth c s₁ [] 0 0 := Stand.of_body Bd
  have e0 : s₁.heap = h0 := by rw [← hh, Bd.state]; rfl
  have N0 := Fr.nil n0
  have K0 : Keep h0 h0 [] := Keep.refl h0 _
  show Wp p e below (Out s (Q1_0 Z d0 v0 h0 n0) ({ frames := 1, cells := 0, slots := 0, locals := 12 } : Room).cells ({ frames := 1, cells := 0, slots := 0, locals := 12 } : Room).slots) (s₁.setTop (entryFrame m #[(.ref d0), (.long v0)] 3))
  rw [ef_1_00]
  show Wp p e below _ (s₁.setTop (mkF m 0 #[.val (.ref d0), .val (.long v0), .second] []))
  refine Wp.step (fun t k => XS.aloadN X0.here hx rfl (hb hby d1_0) rfl rfl k) ?_
  show Wp p e below _ (s₁.setTop (mkF m 1 #[.val (.ref d0), .val (.long v0), .second] [(.ref d0)]))
  obtain ⟨cq1, kq1, q1a, q1b, q1c⟩ := isOf hZ e0 E_d0
  obtain ⟨_, _, ⟨T1, L1, k1, n1⟩, -, X1, ⟨Lc1, hQ1, l1, y1, z1⟩, st1⟩ := X0.virtualBackUp hx (C := "com/example/gentle_bucket/gentlebucket/cli/Cost") (owner := "java/lang/Enum") (x := (⟨"com/example/gentle_bucket/gentlebucket/cli/Cost", "ordinal", "()I"⟩ : MethodName)) (y := (⟨"java/lang/Enum", "ordinal", "()I"⟩ : MethodName)) hown (mvT hZ (hw _ (List.mem_of_getElem? (i := 8) rfl))) (mvT hZ (hw _ (List.mem_of_getElem? (i := 9) rfl))) (mvT hZ (hw _ (List.mem_of_getElem? (i := 10) rfl))) (by decide) (mvT hZ (hw _ (List.mem_of_getElem? (i := 12) rfl))) (mvT hZ (hw _ (List.mem_of_getElem? (i := 11) rfl))) (backOf (W := 0) (rm2 l Z a0 hw [] d0 (0 : Int32) h0 n0 (Nat.le_trans Z0 K0.1) F_d0) hZ (hw _ (List.mem_of_getElem? (i := 14) rfl)) (hw _ (List.mem_of_getElem? (i := 13) rfl)) (by decide) (by decide)) q1a q1c (g := (mkF m 1 #[.val (.ref d0), .val (.long v0), .second] [(.ref d0)])) rfl (by rw [hml]; rfl) (Steps.refl _) (argsL := []) (rest := []) (lenOf pd_2829I rfl) rfl (by show 2 * 0 + _ ≤ _; exact Nat.le_of_eq rfl) (hb hby d1_1) (fun _ _ => ⟨rfl, e0, (by decide : 0 + 0 ≤ _), (by decide : 0 + 0 ≤ _)⟩)
  dsimp only [Pt.U, Pt.locs, Pt.cells, Pt.slots] at X1 l1 y1 z1 st1 hQ1
  subst l1 y1 z1
  obtain ⟨rfl, N1q, e1⟩ := hQ1
  have N1 := Fr.app N0 N1q
  refine Wp.go st1 ?_
  show Wp p e below _ (T1.setTop (mkF m 4 #[.val (.ref d0), .val (.long v0), .second] [(.int (0 : Int32))]))
  refine Wp.step (B := T1.setTop (mkF m 42 #[.val (.ref d0), .val (.long v0), .second] [])) (X1.lookupswitchHit hx (g := (mkF m 4 #[.val (.ref d0), .val (.long v0), .second] [(.int (0 : Int32))])) rfl (k := (0 : Int32)) (rest := []) rfl (hb hby d1_4) (by decide) (a := 0) (off := 38) (by decide) (by show (0 : Int) ≤ (4 : Nat) + 38; decide)) ?_
  show Wp p e below _ (T1.setTop (mkF m 42 #[.val (.ref d0), .val (.long v0), .second] []))
  refine Wp.step (fun t k => XS.lconst X1.here hx rfl (hb hby d1_42) k) ?_
  show Wp p e below _ (T1.setTop (mkF m 43 #[.val (.ref d0), .val (.long v0), .second] [(.long (1 : Int64))]))
  refine Wp.step (fun t k => XS.goto X1.here hx rfl (pc0 := 43) (pc' := 47) rfl (hb hby d1_43) (by decide) (by decide) k) ?_
  show Wp p e below _ (T1.setTop (mkF m 47 #[.val (.ref d0), .val (.long v0), .second] [(.long (1 : Int64))]))
  refine Wp.retJ X1 hx Bd.returns (hb hby d1_47) hlk ?_ (by decide) (by decide)
  show Q1_0 Z d0 v0 h0 n0 (some (.long (1 : Int64))) T1.heap _
  rw [e1]
  exact ⟨rfl, N1, rfl⟩
theorem d1_46 : decode prog_22_method_5_code 46 = .ok (.lload_n 1, 1) := by decide +kernel
def Q1_1 (Z : State) (d0 : Addr) (v0 : Int64) (h0 : Heap) (n0 : Nat) (v : Option Value) (h : Heap) (L : List Loc) : Prop := v = some (.long v0) ∧ Fr n0 L ∧ h = h0
set_option maxRecDepth 65536 in
set_option maxHeartbeats 40000000 in
theorem rm1_1 (l : Launch) (Z : State) (a0 : Array Value) (hw : ∀ d ∈ tables_1, d.before a0 Z = true) (ws : List Jvm.Cond) (d0 : Addr) (v0 : Int64) (h0 : Heap) (n0 : Nat) (Z0 : n0 ≤ h0.size) (F_d0 : Fld Z h0 d0 "java/lang/Enum" "ordinal" "I" (.int 1)) (E_d0 : Exa Z h0 d0 "com/example/gentle_bucket/gentlebucket/cli/Cost") :
    MetFree l (⟨"com/example/gentle_bucket/gentlebucket/cli/Cost", "of", "(J)J"⟩ : MethodName) (head1 (Jvm.Cond.code (⟨"com/example/gentle_bucket/gentlebucket/cli/Cost", "of", "(J)J"⟩ : MethodName) prog_22_method_5_code 3 (some .long) :: ws) ({ frames := 1, cells := 0, slots := 0, locals := 12 } : Room)) (fun a U => a = #[(.ref d0), (.long v0)] ∧ Z.Warmed39 U.vm ∧ U.heap = h0) (fun _ _ _ _ _ => True) (fun _ U o U' => ∃ v L, o = .returned v ∧ Q1_1 Z d0 v0 h0 n0 v U'.heap L ∧ FrameEnd U o U' L ({ frames := 1, cells := 0, slots := 0, locals := 12 } : Room).cells ({ frames := 1, cells := 0, slots := 0, locals := 12 } : Room).slots) := by
  refine MetFree.of_bodySF (plainFor_of_name pn_com_example_gentle_bucket_gentlebucket_cli_Cost) hisR ?_
  intro p e s m args below meth c s₁ Bd hml0 hP hK
  obtain ⟨rfl, hZ, hh⟩ := hP
  have hx := Bd.exec
  have hby := Bd.bytes
  have hlk : meth.locks = false := Bd.notSynchronized
  have hml : c.maxLocals = 3 := hml0
  have hown : s.vm.findClass "com/example/gentle_bucket/gentlebucket/cli/Cost" = some m.cls := findClass_of_methodNamed Bd.named
  have hnm := (name_of_methodNamed Bd.named Bd.method).1
  have X0 : Stand p l e ({ frames := 1, cells := 0, slots := 0, locals := 12 } : Room) s m #[(.ref d0), (.long v0)] below meth c s₁ [] 0 0 := Stand.of_body Bd
  have e0 : s₁.heap = h0 := by rw [← hh, Bd.state]; rfl
  have N0 := Fr.nil n0
  have K0 : Keep h0 h0 [] := Keep.refl h0 _
  show Wp p e below (Out s (Q1_1 Z d0 v0 h0 n0) ({ frames := 1, cells := 0, slots := 0, locals := 12 } : Room).cells ({ frames := 1, cells := 0, slots := 0, locals := 12 } : Room).slots) (s₁.setTop (entryFrame m #[(.ref d0), (.long v0)] 3))
  rw [ef_1_00]
  show Wp p e below _ (s₁.setTop (mkF m 0 #[.val (.ref d0), .val (.long v0), .second] []))
  refine Wp.step (fun t k => XS.aloadN X0.here hx rfl (hb hby d1_0) rfl rfl k) ?_
  show Wp p e below _ (s₁.setTop (mkF m 1 #[.val (.ref d0), .val (.long v0), .second] [(.ref d0)]))
  obtain ⟨cq1, kq1, q1a, q1b, q1c⟩ := isOf hZ e0 E_d0
  obtain ⟨_, _, ⟨T1, L1, k1, n1⟩, -, X1, ⟨Lc1, hQ1, l1, y1, z1⟩, st1⟩ := X0.virtualBackUp hx (C := "com/example/gentle_bucket/gentlebucket/cli/Cost") (owner := "java/lang/Enum") (x := (⟨"com/example/gentle_bucket/gentlebucket/cli/Cost", "ordinal", "()I"⟩ : MethodName)) (y := (⟨"java/lang/Enum", "ordinal", "()I"⟩ : MethodName)) hown (mvT hZ (hw _ (List.mem_of_getElem? (i := 8) rfl))) (mvT hZ (hw _ (List.mem_of_getElem? (i := 9) rfl))) (mvT hZ (hw _ (List.mem_of_getElem? (i := 10) rfl))) (by decide) (mvT hZ (hw _ (List.mem_of_getElem? (i := 12) rfl))) (mvT hZ (hw _ (List.mem_of_getElem? (i := 11) rfl))) (backOf (W := 0) (rm2 l Z a0 hw [] d0 (1 : Int32) h0 n0 (Nat.le_trans Z0 K0.1) F_d0) hZ (hw _ (List.mem_of_getElem? (i := 14) rfl)) (hw _ (List.mem_of_getElem? (i := 13) rfl)) (by decide) (by decide)) q1a q1c (g := (mkF m 1 #[.val (.ref d0), .val (.long v0), .second] [(.ref d0)])) rfl (by rw [hml]; rfl) (Steps.refl _) (argsL := []) (rest := []) (lenOf pd_2829I rfl) rfl (by show 2 * 0 + _ ≤ _; exact Nat.le_of_eq rfl) (hb hby d1_1) (fun _ _ => ⟨rfl, e0, (by decide : 0 + 0 ≤ _), (by decide : 0 + 0 ≤ _)⟩)
  dsimp only [Pt.U, Pt.locs, Pt.cells, Pt.slots] at X1 l1 y1 z1 st1 hQ1
  subst l1 y1 z1
  obtain ⟨rfl, N1q, e1⟩ := hQ1
  have N1 := Fr.app N0 N1q
  refine Wp.go st1 ?_
  show Wp p e below _ (T1.setTop (mkF m 4 #[.val (.ref d0), .val (.long v0), .second] [(.int (1 : Int32))]))
  refine Wp.step (B := T1.setTop (mkF m 46 #[.val (.ref d0), .val (.long v0), .second] [])) (X1.lookupswitchHit hx (g := (mkF m 4 #[.val (.ref d0), .val (.long v0), .second] [(.int (1 : Int32))])) rfl (k := (1 : Int32)) (rest := []) rfl (hb hby d1_4) (by decide) (a := 1) (off := 42) (by decide) (by show (0 : Int) ≤ (4 : Nat) + 42; decide)) ?_
  show Wp p e below _ (T1.setTop (mkF m 46 #[.val (.ref d0), .val (.long v0), .second] []))
  refine Wp.step (fun t k => XS.lloadN X1.here hx rfl (hb hby d1_46) rfl k) ?_
  show Wp p e below _ (T1.setTop (mkF m 47 #[.val (.ref d0), .val (.long v0), .second] [(.long v0)]))
  refine Wp.retJ X1 hx Bd.returns (hb hby d1_47) hlk ?_ (by decide) (by decide)
  show Q1_1 Z d0 v0 h0 n0 (some (.long v0)) T1.heap _
  rw [e1]
  exact ⟨rfl, N1, rfl⟩
theorem pd_28J29J : parseMethodDescriptor "(J)J" = some ⟨[.long], some .long⟩ := by decide +kernel
theorem pn_com_example_gentle_bucket_gentlebucket_cli_CostOfPinLaw : plainName "com/example/gentle_bucket/gentlebucket/cli/CostOfPinLaw" = true := by first | (simp [plainName, overriddenIn]; done) | decide +kernel
theorem ef_0_0 (m : MethodId) (x0 : Int64) : entryFrame m #[(.long x0)] maxLocals = mkF m 0 #[.val (.long x0), .second, .unset, .unset, .unset, .unset] [] := by first | (simp [entryFrame, mkF, argsToLocals, Value.category, maxLocals]; done) | rfl
def Q0 (Z : State) (q0 : Int64) (a_Cost_ONE : Addr) (a_Cost_BYTES : Addr) (h0 : Heap) (n0 : Nat) (v : Option Value) (h : Heap) (L : List Loc) : Prop := v = some (.int 1) ∧ Fr n0 L
set_option maxRecDepth 65536 in
set_option maxHeartbeats 40000000 in
theorem rm0 (l : Launch) (Z : State) (a0 : Array Value) (hw : ∀ d ∈ tables_1, d.before a0 Z = true) (ws : List Jvm.Cond) (q0 : Int64) (a_Cost_ONE : Addr) (a_Cost_BYTES : Addr) (h0 : Heap) (n0 : Nat) (Z0 : n0 ≤ h0.size) (S_a_Cost_ONE : Sta Z h0 "com/example/gentle_bucket/gentlebucket/cli/Cost" "ONE" "Lcom/example/gentle_bucket/gentlebucket/cli/Cost;" (.ref a_Cost_ONE)) (E_a_Cost_ONE : Exa Z h0 a_Cost_ONE "com/example/gentle_bucket/gentlebucket/cli/Cost") (F_ordinal_a_Cost_ONE : Fld Z h0 a_Cost_ONE "java/lang/Enum" "ordinal" "I" (.int 0)) (S_a_Cost_BYTES : Sta Z h0 "com/example/gentle_bucket/gentlebucket/cli/Cost" "BYTES" "Lcom/example/gentle_bucket/gentlebucket/cli/Cost;" (.ref a_Cost_BYTES)) (E_a_Cost_BYTES : Exa Z h0 a_Cost_BYTES "com/example/gentle_bucket/gentlebucket/cli/Cost") (F_ordinal_a_Cost_BYTES : Fld Z h0 a_Cost_BYTES "java/lang/Enum" "ordinal" "I" (.int 1)) :
    MetFree l x (head1 (Jvm.Cond.code x code maxLocals ret :: ws) room_1) (fun a U => a = #[(.long q0)] ∧ Z.Warmed39 U.vm ∧ U.heap = h0) (fun _ _ _ _ _ => True) (fun _ U o U' => ∃ v L, o = .returned v ∧ Q0 Z q0 a_Cost_ONE a_Cost_BYTES h0 n0 v U'.heap L ∧ FrameEnd U o U' L room_1.cells room_1.slots) := by
  refine MetFree.of_bodySF (plainFor_of_name pn_com_example_gentle_bucket_gentlebucket_cli_CostOfPinLaw) hisR ?_
  intro p e s m args below meth c s₁ Bd hml0 hP hK
  obtain ⟨rfl, hZ, hh⟩ := hP
  have hx := Bd.exec
  have hby := Bd.bytes
  have hlk : meth.locks = false := Bd.notSynchronized
  have hml : c.maxLocals = 6 := hml0
  have hown : s.vm.findClass "com/example/gentle_bucket/gentlebucket/cli/CostOfPinLaw" = some m.cls := findClass_of_methodNamed Bd.named
  have hnm := (name_of_methodNamed Bd.named Bd.method).1
  have X0 : Stand p l e room_1 s m #[(.long q0)] below meth c s₁ [] 0 0 := Stand.of_body Bd
  have e0 : s₁.heap = h0 := by rw [← hh, Bd.state]; rfl
  have N0 := Fr.nil n0
  have K0 : Keep h0 h0 [] := Keep.refl h0 _
  show Wp p e below (Out s (Q0 Z q0 a_Cost_ONE a_Cost_BYTES h0 n0) room_1.cells room_1.slots) (s₁.setTop (entryFrame m #[(.long q0)] maxLocals))
  rw [ef_0_0]
  show Wp p e below _ (s₁.setTop (mkF m 0 #[.val (.long q0), .second, .unset, .unset, .unset, .unset] []))
  obtain ⟨T1, X1, e1, st1⟩ := getS2 X0 hx hZ hown (host := "") (Or.inl (hw _ (List.mem_of_getElem? (i := 0) rfl))) Via.refl e0 S_a_Cost_ONE (g := (mkF m 0 #[.val (.long q0), .second, .unset, .unset, .unset, .unset] [])) rfl (hb hby at_0)
  refine Wp.step st1 ?_
  show Wp p e below _ (T1.setTop (mkF m 3 #[.val (.long q0), .second, .unset, .unset, .unset, .unset] [(.ref a_Cost_ONE)]))
  refine Wp.step (fun t k => XS.lloadN X1.here hx rfl (hb hby at_3) rfl k) ?_
  show Wp p e below _ (T1.setTop (mkF m 4 #[.val (.long q0), .second, .unset, .unset, .unset, .unset] [(.long q0), (.ref a_Cost_ONE)]))
  obtain ⟨cq2, kq2, q2a, q2b, q2c⟩ := isOf hZ e1 E_a_Cost_ONE
  obtain ⟨_, _, ⟨T2, L2, k2, n2⟩, -, X2, ⟨Lc2, hQ2, l2, y2, z2⟩, st2⟩ := X1.virtualBack hx (y := (⟨"com/example/gentle_bucket/gentlebucket/cli/Cost", "of", "(J)J"⟩ : MethodName)) (z := (⟨"com/example/gentle_bucket/gentlebucket/cli/Cost", "of", "(J)J"⟩ : MethodName)) hown (mvT hZ (hw _ (List.mem_of_getElem? (i := 3) rfl))) (mvT hZ (hw _ (List.mem_of_getElem? (i := 4) rfl))) (notFace_of_selects (args := #[]) (mvT hZ (hw _ (List.mem_of_getElem? (i := 6) rfl)))) (mvT hZ (hw _ (List.mem_of_getElem? (i := 6) rfl))) (mvT hZ (hw _ (List.mem_of_getElem? (i := 5) rfl))) (by decide) (backOf (W := 0) (rm1_0 l Z a0 hw [] a_Cost_ONE q0 h0 n0 Z0 F_ordinal_a_Cost_ONE E_a_Cost_ONE) hZ (hw _ (List.mem_of_getElem? (i := 7) rfl)) (hw _ (List.mem_of_getElem? (i := 1) rfl)) (by decide) (by decide)) q2a q2c (g := (mkF m 4 #[.val (.long q0), .second, .unset, .unset, .unset, .unset] [(.long q0), (.ref a_Cost_ONE)])) rfl (by rw [hml]; rfl) (Steps.refl _) (argsL := [(.long q0)]) (rest := []) (lenOf pd_28J29J rfl) rfl (by show 2 * 0 + _ ≤ _; exact Nat.le_of_eq rfl) (hb hby at_4) (fun _ _ => ⟨rfl, e1, (by decide : 0 + 0 ≤ _), (by decide : 0 + 0 ≤ _)⟩)
  dsimp only [Pt.U, Pt.locs, Pt.cells, Pt.slots] at X2 l2 y2 z2 st2 hQ2
  subst l2 y2 z2
  obtain ⟨rfl, N2q, e2⟩ := hQ2
  have N2 := Fr.app N0 N2q
  refine Wp.go st2 ?_
  show Wp p e below _ (T2.setTop (mkF m 7 #[.val (.long q0), .second, .unset, .unset, .unset, .unset] [(.long (1 : Int64))]))
  refine Wp.step (fun t k => XS.lstoreN X2.here hx rfl (hb hby at_7) rfl (l' := #[.val (.long q0), .second, .val (.long (1 : Int64)), .second, .unset, .unset]) rfl k) ?_
  show Wp p e below _ (T2.setTop (mkF m 8 #[.val (.long q0), .second, .val (.long (1 : Int64)), .second, .unset, .unset] []))
  obtain ⟨T3, X3, e3, st3⟩ := getS2 X2 hx hZ hown (host := "") (Or.inl (hw _ (List.mem_of_getElem? (i := 17) rfl))) Via.refl e2 S_a_Cost_BYTES (g := (mkF m 8 #[.val (.long q0), .second, .val (.long (1 : Int64)), .second, .unset, .unset] [])) rfl (hb hby at_8)
  refine Wp.step st3 ?_
  show Wp p e below _ (T3.setTop (mkF m 11 #[.val (.long q0), .second, .val (.long (1 : Int64)), .second, .unset, .unset] [(.ref a_Cost_BYTES)]))
  refine Wp.step (fun t k => XS.lloadN X3.here hx rfl (hb hby at_11) rfl k) ?_
  show Wp p e below _ (T3.setTop (mkF m 12 #[.val (.long q0), .second, .val (.long (1 : Int64)), .second, .unset, .unset] [(.long q0), (.ref a_Cost_BYTES)]))
  obtain ⟨cq4, kq4, q4a, q4b, q4c⟩ := isOf hZ e3 E_a_Cost_BYTES
  obtain ⟨_, _, ⟨T4, L4, k4, n4⟩, -, X4, ⟨Lc4, hQ4, l4, y4, z4⟩, st4⟩ := X3.virtualBack hx (y := (⟨"com/example/gentle_bucket/gentlebucket/cli/Cost", "of", "(J)J"⟩ : MethodName)) (z := (⟨"com/example/gentle_bucket/gentlebucket/cli/Cost", "of", "(J)J"⟩ : MethodName)) hown (mvT hZ (hw _ (List.mem_of_getElem? (i := 3) rfl))) (mvT hZ (hw _ (List.mem_of_getElem? (i := 4) rfl))) (notFace_of_selects (args := #[]) (mvT hZ (hw _ (List.mem_of_getElem? (i := 6) rfl)))) (mvT hZ (hw _ (List.mem_of_getElem? (i := 6) rfl))) (mvT hZ (hw _ (List.mem_of_getElem? (i := 5) rfl))) (by decide) (backOf (W := 0) (rm1_1 l Z a0 hw [] a_Cost_BYTES q0 h0 n0 Z0 F_ordinal_a_Cost_BYTES E_a_Cost_BYTES) hZ (hw _ (List.mem_of_getElem? (i := 7) rfl)) (hw _ (List.mem_of_getElem? (i := 1) rfl)) (by decide) (by decide)) q4a q4c (g := (mkF m 12 #[.val (.long q0), .second, .val (.long (1 : Int64)), .second, .unset, .unset] [(.long q0), (.ref a_Cost_BYTES)])) rfl (by rw [hml]; rfl) (Steps.refl _) (argsL := [(.long q0)]) (rest := []) (lenOf pd_28J29J rfl) rfl (by show 2 * 0 + _ ≤ _; exact Nat.le_of_eq rfl) (hb hby at_12) (fun _ _ => ⟨rfl, e3, (by decide : 0 + 0 ≤ _), (by decide : 0 + 0 ≤ _)⟩)
  dsimp only [Pt.U, Pt.locs, Pt.cells, Pt.slots] at X4 l4 y4 z4 st4 hQ4
  subst l4 y4 z4
  obtain ⟨rfl, N4q, e4⟩ := hQ4
  have N4 := Fr.app N2 N4q
  refine Wp.go st4 ?_
  show Wp p e below _ (T4.setTop (mkF m 15 #[.val (.long q0), .second, .val (.long (1 : Int64)), .second, .unset, .unset] [(.long q0)]))
  refine Wp.step (fun t k => XS.lstore X4.here hx rfl (hb hby at_15) rfl (l' := #[.val (.long q0), .second, .val (.long (1 : Int64)), .second, .val (.long q0), .second]) rfl k) ?_
  show Wp p e below _ (T4.setTop (mkF m 17 #[.val (.long q0), .second, .val (.long (1 : Int64)), .second, .val (.long q0), .second] []))
  refine Wp.step (fun t k => XS.lloadN X4.here hx rfl (hb hby at_17) rfl k) ?_
  show Wp p e below _ (T4.setTop (mkF m 18 #[.val (.long q0), .second, .val (.long (1 : Int64)), .second, .val (.long q0), .second] [(.long (1 : Int64))]))
  refine Wp.step (fun t k => XS.lconst X4.here hx rfl (hb hby at_18) k) ?_
  show Wp p e below _ (T4.setTop (mkF m 19 #[.val (.long q0), .second, .val (.long (1 : Int64)), .second, .val (.long q0), .second] [(.long (1 : Int64)), (.long (1 : Int64))]))
  refine Wp.step (fun t k => XS.lcmp X4.here hx rfl (hb hby at_19) rfl k) ?_
  show Wp p e below _ (T4.setTop (mkF m 20 #[.val (.long q0), .second, .val (.long (1 : Int64)), .second, .val (.long q0), .second] [(.int (lcmpW (1 : Int64) (1 : Int64)))]))
  refine Wp.step (fun t k => XS.ifNo X4.here hx rfl (hb hby at_20) rfl ((if0 _ _).trans (teq (show (lcmpW (1 : Int64) (1 : Int64)) = (0 : Int32) from (lw_eq _ _).mpr rfl)).2) k) ?_
  show Wp p e below _ (T4.setTop (mkF m 23 #[.val (.long q0), .second, .val (.long (1 : Int64)), .second, .val (.long q0), .second] []))
  refine Wp.step (fun t k => XS.lload X4.here hx rfl (hb hby at_23) rfl k) ?_
  show Wp p e below _ (T4.setTop (mkF m 25 #[.val (.long q0), .second, .val (.long (1 : Int64)), .second, .val (.long q0), .second] [(.long q0)]))
  refine Wp.step (fun t k => XS.lloadN X4.here hx rfl (hb hby at_25) rfl k) ?_
  show Wp p e below _ (T4.setTop (mkF m 26 #[.val (.long q0), .second, .val (.long (1 : Int64)), .second, .val (.long q0), .second] [(.long q0), (.long q0)]))
  refine Wp.step (fun t k => XS.lcmp X4.here hx rfl (hb hby at_26) rfl k) ?_
  show Wp p e below _ (T4.setTop (mkF m 27 #[.val (.long q0), .second, .val (.long (1 : Int64)), .second, .val (.long q0), .second] [(.int (lcmpW q0 q0))]))
  refine Wp.step (fun t k => XS.ifNo X4.here hx rfl (hb hby at_27) rfl ((if0 _ _).trans (teq (show (lcmpW q0 q0) = (0 : Int32) from (lw_eq _ _).mpr rfl)).2) k) ?_
  show Wp p e below _ (T4.setTop (mkF m 30 #[.val (.long q0), .second, .val (.long (1 : Int64)), .second, .val (.long q0), .second] []))
  refine Wp.step (fun t k => XS.iconst X4.here hx rfl (hb hby at_30) k) ?_
  show Wp p e below _ (T4.setTop (mkF m 31 #[.val (.long q0), .second, .val (.long (1 : Int64)), .second, .val (.long q0), .second] [(.int (1 : Int32))]))
  refine Wp.step (fun t k => XS.goto X4.here hx rfl (pc0 := 31) (pc' := 35) rfl (hb hby at_31) (by decide) (by decide) k) ?_
  show Wp p e below _ (T4.setTop (mkF m 35 #[.val (.long q0), .second, .val (.long (1 : Int64)), .second, .val (.long q0), .second] [(.int (1 : Int32))]))
  refine Wp.retN X4 hx (t := .boolean) Bd.returns (by simp) (hb hby at_35) hlk ?_ (by decide) (by decide)
  show Q0 Z q0 a_Cost_ONE a_Cost_BYTES h0 n0 (some (.int (nar .boolean (1 : Int32)))) T4.heap _
  rw [e4]
  exact ⟨rfl, N4⟩
set_option maxRecDepth 65536 in
set_option maxHeartbeats 40000000 in
theorem comes_1 {Post : Tables → Env → Array Value → State → Outcome → State → Prop} (hpost : ∀ tb e args s v u, (limb_1_1.after args s (.returned v) u = true ∧ limb_1_2.after args s (.returned v) u = true ∧ True) → FrameEnd s (.returned v) u (Jvm.fieldLocs frame_1_writes args s ++ Jvm.arrayLocs frame_1_arrays args s ++ Jvm.staticLocs frame_1_statics s) 0 0 → Post tb e args s (.returned v) u) :
    ArmFor flags0 classFile x code maxLocals ret World_1 tables_1 room_1 Calls_1 rest_1 Pre_1 Post := by
  intro l hfl _ _ p e ha hc hk s m args below hf hA hF happ hP
  obtain ⟨hcalls, hrest, hpre⟩ := hP
  obtain ⟨-, -, -, hnamed, -, -, -, hat⟩ := (Spec.applies_iff hf).mp happ
  obtain ⟨hg, hn⟩ := and_e (Cond.before_iff.mp (show (Jvm.Cond.and given_1 narrow_1).before args s = true from hpre))
  obtain ⟨hcnt, hi0⟩ := and_e hg
  obtain ⟨w0, rfl⟩ : ∃ w0 : Value, args = #[w0] := by
    have hs : args.size = 1 := by simpa [Cond.value, given_1] using hcnt
    obtain ⟨L⟩ := args
    match L, hs with
    | [w0], _ => exact ⟨w0, rfl⟩
  have hw := fun d (hd : d ∈ tables_1) => atoms_spec (ws := Jvm.Cond.code x code maxLocals ret :: tables_1) hat d (List.mem_cons_of_mem _ hd)
  have hfit : Fit s := fun {y c} hc i hi => by
    obtain ⟨ha, rfl⟩ := Array.getElem?_eq_some_iff.mp hc
    have q := List.all_eq_true.mp ((Array.all_eq_true_iff_forall_mem.mp hF) _ (Array.getElem_mem ha)) i (List.mem_range.mpr hi)
    simpa [Array.getElem?_eq_getElem hi] using q
  obtain ⟨i0, ei0⟩ := isL_v hi0
  obtain rfl : w0 = (.long i0) := Option.some.inj ei0
  obtain ⟨nn0, nr0⟩ := and_e hn
  obtain ⟨a_Cost_ONE, ev_a_Cost_ONE⟩ := exa_v nn0
  have E_a_Cost_ONE := Exa.start ev_a_Cost_ONE nn0
  have S_a_Cost_ONE := Sta.start ev_a_Cost_ONE (Or.inr ⟨(hw _ (List.mem_of_getElem? (i := 1) rfl)), (hw _ (List.mem_of_getElem? (i := 2) rfl))⟩)
  obtain ⟨nn1, nr1⟩ := and_e nr0
  have F_ordinal_a_Cost_ONE := own_fld ev_a_Cost_ONE nn1
  obtain ⟨nn2, nr2⟩ := and_e nr1
  obtain ⟨a_Cost_BYTES, ev_a_Cost_BYTES⟩ := exa_v nn2
  have E_a_Cost_BYTES := Exa.start ev_a_Cost_BYTES nn2
  have S_a_Cost_BYTES := Sta.start ev_a_Cost_BYTES (Or.inr ⟨(hw _ (List.mem_of_getElem? (i := 1) rfl)), (hw _ (List.mem_of_getElem? (i := 18) rfl))⟩)
  have F_ordinal_a_Cost_BYTES := own_fld ev_a_Cost_BYTES nr2
  obtain ⟨n, o, h1, h2, h3, _, L, rfl, ⟨rfl, N⟩, hq⟩ := rm0 l s _ hw tables_1 i0 a_Cost_ONE a_Cost_BYTES s.heap s.heap.size (Nat.le_refl _) S_a_Cost_ONE E_a_Cost_ONE F_ordinal_a_Cost_ONE S_a_Cost_BYTES E_a_Cost_BYTES F_ordinal_a_Cost_BYTES p e ha hc hk s m _ below hf ((Spec.applies_iff_loose hf).mp happ).1 ⟨rfl, State.Warmed39.refl s, rfl⟩ trivial
  refine ⟨n, _, h1, h2, h3, hpost _ _ _ _ _ _ ⟨Cond.after_iff.mpr rfl, Cond.after_iff.mpr (eq_i res_at (Term.int_eval (1)) rfl), trivial⟩ ⟨hq.1, hq.2.1, (hq.2.2.sift fun y hy => Or.inr (N y hy)).mono (by decide) (by decide)⟩⟩
theorem main_1_1 : Claimed_1_1 := comes_1 fun _ _ _ _ _ _ h hF => ⟨h.1, hF⟩
theorem main_1_2 : Claimed_1_2 := comes_1 fun _ _ _ _ _ _ h hF => ⟨h.2.1, hF⟩
end Jvm.Pilot.@@N@@
namespace Jvm.Pilot.@@N@@
open Jvm Jvm.ClassFile Sem Op Lib Jvm.Free Jvm.Stand Jvm.Pilot.@@N@@.Jvm.D
/-! MADE BY PROGRAM (witnessworld.py) out of the Statement's table words and the real class files: 12 classes; the members and pool entries that the words name. The judged class is class 1, her method 1. -/
namespace start1
open Jvm.ClassFile
def u (s : String) : CpInfo := .utf8 (stringToUtf16 s)
/-- a pool by its gaps: so many unusable entries, then the entry; so many at the end -/
def gap : Nat → List CpInfo → List CpInfo
  | 0, r => r
  | n + 1, r => .unusable :: gap n r
def poolList (es : List (Nat × CpInfo)) (last : Nat) : List CpInfo := es.foldr (fun e r => gap e.1 (e.2 :: r)) (gap last [])
def pool (es : List (Nat × CpInfo)) (last : Nat) : Array CpInfo := ⟨poolList es last⟩
def fileOf (pool : Array CpInfo) (this : Nat) (attrs : Array Attribute := #[]) (ms : Array MethodInfo := #[]) (fl : Nat := 33) (sup : Nat := 0) (ifs : Array Nat := #[]) (fds : Array FieldInfo := #[]) : ClassFile where
  minorVersion := 0
  majorVersion := 65
  constantPool := pool
  accessFlags := fl
  thisClass := this
  superClass := sup
  interfaces := ifs
  fields := fds
  methods := ms
  attributes := attrs
def plain (name : String) (sup : Option ClassId) : Class where
  name := name
  kind := .ordinary
  loader := none
  accessFlags := 33
  super := sup
  interfaces := #[]
  cf := none
  fields := #[]
  methods := #[]
  instanceTypes := #[]
  staticTypes := #[]
  resolved := #[]
  callSites := []
  init := .initialized
  statics := none
  mirror := none

def pool0 : Array CpInfo := pool [(5, u "<init>"), (0, u "()V"), (1, .class_ 10), (1, u "java/lang/Object")] 113

def k0m0 : Method := { name := "<init>", desc := "()V", sig := { parameters := [], returnType := none }, accessFlags := 1, code := none }
/-- java/lang/Object -/
def k0 : Class := { plain "java/lang/Object" none with
  accessFlags := 33
  interfaces := #[]
  cf := some (fileOf pool0 8 #[] #[{ accessFlags := 1, nameIndex := 5, descriptorIndex := 6, attributes := #[] }] 33 0 #[] #[])
  fields := #[]
  methods := #[k0m0]
  instanceTypes := #[]
  staticTypes := #[]
  resolved := Array.replicate 124 none
  statics := none }

def pool1 : Array CpInfo := pool [(2, .class_ 4), (1, u "java/lang/Object"), (0, u "<init>"), (0, u "()V"), (0, .fieldref 8 9), (0, .class_ 10), (0, .nameAndType 11 12), (0, u "com/example/gentle_bucket/gentlebucket/cli/Cost"), (0, u "ONE"), (0, u "Lcom/example/gentle_bucket/gentlebucket/cli/Cost;"), (0, .methodref 8 14), (0, .nameAndType 15 16), (0, u "of"), (0, u "(J)J"), (0, .fieldref 8 18), (0, .nameAndType 19 12), (0, u "BYTES"), (0, .class_ 21), (0, u "com/example/gentle_bucket/gentlebucket/cli/CostOfPinLaw"), (2, u "law"), (0, u "(J)Z")] 3

def k1m0 : Method := { name := "<init>", desc := "()V", sig := { parameters := [], returnType := none }, accessFlags := 2, code := none }
def k1c1 : Code := { maxStack := 4, maxLocals := 6, code := code, exceptionTable := #[], attributes := #[] }
def k1m1 : Method := { name := "law", desc := "(J)Z", sig := { parameters := [.long], returnType := some .boolean }, accessFlags := 9, code := some k1c1 }
/-- com/example/gentle_bucket/gentlebucket/cli/CostOfPinLaw -/
def k1 : Class := { plain "com/example/gentle_bucket/gentlebucket/cli/CostOfPinLaw" (some 0) with
  accessFlags := 49
  interfaces := #[]
  cf := some (fileOf pool1 20 #[] #[{ accessFlags := 2, nameIndex := 5, descriptorIndex := 6, attributes := #[] }, { accessFlags := 9, nameIndex := 24, descriptorIndex := 25, attributes := #[] }] 49 2 #[] #[])
  fields := #[]
  methods := #[k1m0, k1m1]
  instanceTypes := #[]
  staticTypes := #[]
  resolved := Array.replicate 29 none
  statics := none }

def pool2 : Array CpInfo := pool [(1, .class_ 2), (0, u "java/lang/constant/Constable"), (0, .class_ 4), (0, u "java/lang/Object")] 6

/-- java/lang/constant/Constable -/
def k2 : Class := { plain "java/lang/constant/Constable" (some 0) with
  accessFlags := 1537
  interfaces := #[]
  cf := some (fileOf pool2 1 #[] #[] 1537 3 #[] #[])
  fields := #[]
  methods := #[]
  instanceTypes := #[]
  staticTypes := #[]
  resolved := Array.replicate 11 none
  statics := none }

def pool3 : Array CpInfo := pool [(1, .class_ 2), (0, u "java/lang/Comparable"), (0, .class_ 4), (0, u "java/lang/Object")] 7

/-- java/lang/Comparable -/
def k3 : Class := { plain "java/lang/Comparable" (some 0) with
  accessFlags := 1537
  interfaces := #[]
  cf := some (fileOf pool3 1 #[] #[] 1537 3 #[] #[])
  fields := #[]
  methods := #[]
  instanceTypes := #[]
  staticTypes := #[]
  resolved := Array.replicate 12 none
  statics := none }

def pool4 : Array CpInfo := pool [(1, .class_ 2), (0, u "java/io/Serializable"), (0, .class_ 4), (0, u "java/lang/Object")] 2

/-- java/io/Serializable -/
def k4 : Class := { plain "java/io/Serializable" (some 0) with
  accessFlags := 1537
  interfaces := #[]
  cf := some (fileOf pool4 1 #[] #[] 1537 3 #[] #[])
  fields := #[]
  methods := #[]
  instanceTypes := #[]
  staticTypes := #[]
  resolved := Array.replicate 7 none
  statics := none }

def pool5 : Array CpInfo := pool [(2, .class_ 4), (1, u "java/lang/Enum"), (0, u "name"), (0, u "Ljava/lang/String;"), (0, .fieldref 2 8), (0, .nameAndType 9 10), (0, u "ordinal"), (0, u "I"), (1, .class_ 14), (1, u "java/lang/Object"), (4, u "hash"), (86, .class_ 108), (1, u "java/lang/Enum$EnumDesc"), (2, .class_ 112), (0, u "java/lang/constant/Constable"), (0, .class_ 114), (0, u "java/lang/Comparable"), (0, .class_ 116), (0, u "java/io/Serializable"), (9, u "()I")] 77

def k5c0 : Code := { maxStack := 1, maxLocals := 1, code := jdk_37_method_2_code, exceptionTable := #[], attributes := #[] }
def k5m0 : Method := { name := "ordinal", desc := "()I", sig := { parameters := [], returnType := some .int }, accessFlags := 17, code := some k5c0 }
/-- java/lang/Enum -/
def k5 : Class := { plain "java/lang/Enum" (some 0) with
  accessFlags := 1057
  interfaces := #[2, 3, 4]
  cf := some (fileOf pool5 2 #[.nestMembers #[106]] #[{ accessFlags := 17, nameIndex := 9, descriptorIndex := 126, attributes := #[] }] 1057 12 #[111, 113, 115] #[{ accessFlags := 18, nameIndex := 5, descriptorIndex := 6, attributes := #[] }, { accessFlags := 18, nameIndex := 9, descriptorIndex := 10, attributes := #[] }, { accessFlags := 2, nameIndex := 19, descriptorIndex := 10, attributes := #[] }])
  fields := #[{ name := "name", type := (.object "java/lang/String"), accessFlags := 18, slot := 0, constantValue := 0 }, { name := "ordinal", type := .int, accessFlags := 18, slot := 1, constantValue := 0 }, { name := "hash", type := .int, accessFlags := 2, slot := 2, constantValue := 0 }]
  methods := #[k5m0]
  instanceTypes := #[(.object "java/lang/String"), .int, .int]
  staticTypes := #[]
  resolved := Array.replicate 204 none
  statics := none }

def pool6 : Array CpInfo := pool [(1, .class_ 2), (0, u "com/example/gentle_bucket/gentlebucket/cli/Cost"), (2, u "ONE"), (0, u "Lcom/example/gentle_bucket/gentlebucket/cli/Cost;"), (2, u "BYTES"), (2, u "$VALUES"), (0, u "[Lcom/example/gentle_bucket/gentlebucket/cli/Cost;"), (6, .class_ 22), (1, u "java/lang/Enum"), (37, .methodref 1 61), (0, .nameAndType 62 63), (0, u "ordinal"), (0, u "()I"), (24, u "OPTION"), (0, u "Ljava/lang/String;"), (11, u "of"), (0, u "(J)J")] 19

def k6c0 : Code := { maxStack := 4, maxLocals := 3, code := prog_22_method_5_code, exceptionTable := #[], attributes := #[] }
def k6m0 : Method := { name := "of", desc := "(J)J", sig := { parameters := [.long], returnType := some .long }, accessFlags := 0, code := some k6c0 }
/-- com/example/gentle_bucket/gentlebucket/cli/Cost -/
def k6 : Class := { plain "com/example/gentle_bucket/gentlebucket/cli/Cost" (some 5) with
  accessFlags := 16432
  interfaces := #[]
  cf := some (fileOf pool6 1 #[] #[{ accessFlags := 0, nameIndex := 101, descriptorIndex := 102, attributes := #[] }] 16432 20 #[] #[{ accessFlags := 16409, nameIndex := 5, descriptorIndex := 6, attributes := #[] }, { accessFlags := 16409, nameIndex := 9, descriptorIndex := 6, attributes := #[] }, { accessFlags := 24, nameIndex := 88, descriptorIndex := 89, attributes := #[] }, { accessFlags := 4122, nameIndex := 12, descriptorIndex := 13, attributes := #[] }])
  fields := #[{ name := "ONE", type := (.object "com/example/gentle_bucket/gentlebucket/cli/Cost"), accessFlags := 16409, slot := 0, constantValue := 0 }, { name := "BYTES", type := (.object "com/example/gentle_bucket/gentlebucket/cli/Cost"), accessFlags := 16409, slot := 1, constantValue := 0 }, { name := "OPTION", type := (.object "java/lang/String"), accessFlags := 24, slot := 2, constantValue := 0 }, { name := "$VALUES", type := (.array (.object "com/example/gentle_bucket/gentlebucket/cli/Cost")), accessFlags := 4122, slot := 3, constantValue := 0 }]
  methods := #[k6m0]
  instanceTypes := #[(.object "java/lang/String"), .int, .int]
  staticTypes := #[(.object "com/example/gentle_bucket/gentlebucket/cli/Cost"), (.object "com/example/gentle_bucket/gentlebucket/cli/Cost"), (.object "java/lang/String"), (.array (.object "com/example/gentle_bucket/gentlebucket/cli/Cost"))]
  resolved := Array.replicate 122 none
  statics := some 0 }

def pool7 : Array CpInfo := pool [(1, u "java/lang/Cloneable"), (0, .class_ 1), (0, u "java/lang/Object"), (0, .class_ 3)] 3

/-- java/lang/Cloneable -/
def k7 : Class := { plain "java/lang/Cloneable" (some 0) with
  accessFlags := 1537
  interfaces := #[]
  cf := some (fileOf pool7 2 #[] #[] 1537 4 #[] #[])
  fields := #[]
  methods := #[]
  instanceTypes := #[]
  staticTypes := #[]
  resolved := Array.replicate 8 none
  statics := none }

/-- the primitive byte -/
def k8 : Class := { plain "byte" none with kind := .primitive 'B', accessFlags := 0x411 }
/-- [B -/
def k9 : Class := { plain "[B" (some 0) with kind := .array 8 .byte, interfaces := #[7, 4], accessFlags := 1041 }

/-- the primitive int -/
def k10 : Class := { plain "int" none with kind := .primitive 'I', accessFlags := 0x411 }
/-- [I -/
def k11 : Class := { plain "[I" (some 0) with kind := .array 10 .int, interfaces := #[7, 4], accessFlags := 1041 }

def heap : Heap := #[{ cls := 6, slots := #[.ref 1, .ref 2, .null, .null], vm := .statics 6 },
  { cls := 6, slots := #[.null, .int 0, .int 0], vm := .none },
  { cls := 6, slots := #[.null, .int 1, .int 0], vm := .none }]
def classes : Array Class := #[k0, k1, k2, k3, k4, k5, k6, k7, k8, k9, k10, k11]
def interned : List (Array UInt16 × Addr) := []
def slotsUsed : Nat := 10
def theMethod : MethodId := ⟨1, 1⟩
def args0 : Array Value := #[.long 5]
def aboutOver (below : List Frame) : State where
  vm := { classes := classes, interned := interned.toArray }
  heap := heap
  slotsUsed := slotsUsed
  threads := #[{ frames := .invoking theMethod args0 :: below }]
def below0 : List Frame := [.native { method := ⟨0, 0⟩, args := #[] }]
def about1 : State := aboutOver below0
def p0 : Program := .bare "" "" ""
def e0 : Env := launch0.env 0 0 0
theorem w_frames : about1.frames = Frame.invoking theMethod args0 :: below0 := rfl
set_option maxRecDepth 65536 in
theorem w_args : argsFit about1.vm theMethod args0 = true := by decide +kernel
set_option maxRecDepth 65536 in
theorem w_heap : heapFits about1 = true := by decide +kernel
set_option maxRecDepth 65536 in
theorem w_runnable : about1.curStatus? = some .runnable := by decide +kernel
set_option maxRecDepth 65536 in
theorem w_alone : about1.alone = true := by decide +kernel
set_option maxRecDepth 65536 in
theorem w_named : about1.methodNamed? x = some theMethod := by decide +kernel
set_option maxRecDepth 65536 in
theorem w_hears : about1.hears theMethod below0 = true := by decide +kernel
set_option maxRecDepth 65536 in
theorem w_ripe : about1.ripe theMethod args0 below0 = true := by decide +kernel
theorem w_running : about1.status = .running := rfl
set_option maxRecDepth 65536 in
theorem w_room : about1.hasRoom e0.platform room_1 = true :=
  launch0.hasRoom_least _ room_1 (by decide +kernel) (by decide +kernel) (by decide +kernel) (by decide +kernel) (by decide +kernel) (by decide +kernel)
theorem allAtoms_all (ts : List Jvm.Cond) (a : Array Jvm.Value) (st : Jvm.State) : (allAtoms ts).before a st = ts.all (fun c => c.before a st) := by
  induction ts with
  | nil => rfl
  | cons c t ih =>
    show (Jvm.Cond.and c (allAtoms t)).before a st = _
    rw [Jvm.Cond.before_and, ih, List.all_cons]
def words1 : List Jvm.Cond := Jvm.Cond.code x code maxLocals ret :: tables_1
/-- a 'code' word, met by the world's own term for the bytes: nothing is compared byte by byte -/
theorem code_word {y : MethodName} {bytes : ByteArray} {mx : Nat} {rt : Option FieldType} {a : Array Value} {s : State} {m : MethodId} {meth : Method} {c : Code} (h1 : s.methodNamed? y = some m) (h2 : s.vm.method? m = some meth) (h3 : meth.code = some c) (h4 : c.code = bytes)
    (h5 : (c.maxLocals == mx && c.exceptionTable.isEmpty && decide (c.maxStack ≤ mostOperands) && decide (meth.sig.returnType = rt) && !meth.locks && decide (parseMethodDescriptor y.desc = some meth.sig)) = true) : (Jvm.Cond.code y bytes mx rt).before a s = true := by
  simp only [Bool.and_eq_true, beq_iff_eq, Bool.not_eq_true', decide_eq_true_eq] at h5
  obtain ⟨⟨⟨⟨⟨g1, g2⟩, g3⟩, g4⟩, g5⟩, g6⟩ := h5
  simp [Cond.before, Cond.holds, Cond.value, h1, h2, h3, h4, g1, g2, g3, g4, g5, g6]
def isCode : Jvm.Cond → Bool
  | .code _ _ _ _ => true
  | _ => false
theorem all_split {L : List Jvm.Cond} {P : Jvm.Cond → Bool} (h1 : L.all (fun c => isCode c || P c) = true) (h2 : ∀ c ∈ L.filter isCode, P c = true) : L.all P = true := by
  refine List.all_eq_true.mpr fun c hc => ?_
  have h := List.all_eq_true.mp h1 c hc
  rcases Bool.eq_false_or_eq_true (isCode c) with hi | hi
  · exact h2 c (List.mem_filter.mpr ⟨hc, hi⟩)
  · simpa [hi] using h
set_option maxRecDepth 65536 in
theorem w_c0 : (Jvm.Cond.code x code maxLocals ret).before args0 about1 = true := code_word (m := ⟨1, 1⟩) (meth := k1m1) (c := k1c1) (by decide +kernel) rfl rfl rfl (by decide +kernel)
set_option maxRecDepth 65536 in
theorem w_c1 : (Jvm.Cond.code ({ cls := "com/example/gentle_bucket/gentlebucket/cli/Cost", name := "of", desc := "(J)J" } : Jvm.MethodName) prog_22_method_5_code (3 : Nat) (Option.some Jvm.ClassFile.FieldType.long)).before args0 about1 = true := code_word (m := ⟨6, 0⟩) (meth := k6m0) (c := k6c0) (by decide +kernel) rfl rfl rfl (by decide +kernel)
set_option maxRecDepth 65536 in
theorem w_c2 : (Jvm.Cond.code ({ cls := "java/lang/Enum", name := "ordinal", desc := "()I" } : Jvm.MethodName) jdk_37_method_2_code (1 : Nat) (Option.some Jvm.ClassFile.FieldType.int)).before args0 about1 = true := code_word (m := ⟨5, 0⟩) (meth := k5m0) (c := k5c0) (by decide +kernel) rfl rfl rfl (by decide +kernel)
def codes1 : List Jvm.Cond := [Jvm.Cond.code x code maxLocals ret, Jvm.Cond.code ({ cls := "com/example/gentle_bucket/gentlebucket/cli/Cost", name := "of", desc := "(J)J" } : Jvm.MethodName) prog_22_method_5_code (3 : Nat) (Option.some Jvm.ClassFile.FieldType.long), Jvm.Cond.code ({ cls := "java/lang/Enum", name := "ordinal", desc := "()I" } : Jvm.MethodName) jdk_37_method_2_code (1 : Nat) (Option.some Jvm.ClassFile.FieldType.int)]
set_option maxRecDepth 65536 in
theorem codes_eq : words1.filter isCode = codes1 := rfl
theorem w_codes : ∀ c ∈ words1.filter isCode, c.before args0 about1 = true := by
  rw [codes_eq]
  intro c hc
  simp only [codes1, List.mem_cons, List.not_mem_nil, or_false] at hc
  rcases hc with rfl | rfl | rfl
  · exact w_c0
  · exact w_c1
  · exact w_c2
set_option maxRecDepth 65536 in
theorem w_t1 : words1.all (fun c => isCode c || c.before args0 about1) = true := by decide +kernel
theorem w_tables : (allAtoms (Jvm.Cond.code x code maxLocals ret :: tables_1)).before args0 about1 = true := by
  rw [allAtoms_all]
  show words1.all (fun c => c.before args0 about1) = true
  refine all_split ?_ w_codes
  rw [w_t1]
set_option maxRecDepth 65536 in
theorem w_case : (Jvm.Cond.and given_1 narrow_1).before args0 about1 = true := by decide +kernel
theorem w_applies : (headSpec (Jvm.Cond.code x code maxLocals ret :: tables_1) room_1).applies x e0.platform about1 = true :=
  (Spec.applies_iff w_frames).mpr ⟨w_running, w_runnable, w_alone, w_named, w_hears, w_ripe, w_room, w_tables⟩
theorem atStart : AtStart classFile x code maxLocals ret World_1 tables_1 room_1 Calls_1 rest_1 Pre_1 launch0 p0 e0 about1 theMethod args0 below0 :=
  ⟨lists_1, trivial, launch0.admits_env _ _ _, launch0.least_env, fairChoices_fair.cas, fairChoices_fair.clock, w_frames, w_args, w_heap, w_applies, trivial, trivial, w_case⟩
end start1
theorem witness_1 : WitnessClaimed_1 := ⟨start1.p0, start1.e0, start1.about1, start1.theMethod, start1.args0, start1.below0, start1.atStart⟩
end Jvm.Pilot.@@N@@
