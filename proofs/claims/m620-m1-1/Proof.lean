import JvmDerived
import JvmDerived.Pilot.@@N@@Statement
import JvmDerived.Pilot.@@N@@Code
set_option linter.unusedVariables false
set_option linter.unusedSimpArgs false
namespace Jvm.Pilot.@@N@@
open Jvm Jvm.ClassFile Sem Op Lib Jvm.Free Jvm.Stand Jvm.LawKit Jvm.RoadKit Bundle Jvm.Pilot.@@N@@.Jvm.D
/-! a run from here comes to the end of the invocation, and Q holds there -/
section OwnWp
variable {p : Program} {l : Launch} {e : Env} {R : Room} {s : State} {m : MethodId} {args : Array Value} {below : List Frame} {meth : Method} {c : Code} {T : State} {locs : List Loc} {cells slots : Nat}
def Wp (p : Program) (e : Env) (below : List Frame) (Q : Outcome → State → Prop) (A : State) : Prop := ∃ s₂ o, Steps p.tables e below A s₂ ∧ s₂.status = .running ∧ Ended s₂ below o ∧ Q o s₂
def Out (s : State) (Q : Option Value → Heap → List Loc → Prop) (k n : Nat) (o : Outcome) (t : State) : Prop := ∃ v L, o = .returned v ∧ Q v t.heap L ∧ FrameEnd s o t L k n
theorem Wp.step {Q : Outcome → State → Prop} {A B : State} (h : ∀ t, Steps p.tables e below B t → Steps p.tables e below A t) (k : Wp p e below Q B) : Wp p e below Q A := by
  obtain ⟨s₂, o, h1, h2⟩ := k; exact ⟨s₂, o, h _ h1, h2⟩
theorem Wp.go {Q : Outcome → State → Prop} {A B : State} (h : Steps p.tables e below A B) (k : Wp p e below Q B) : Wp p e below Q A := Wp.step (fun _ q => h.trans q) k
theorem Wp.out (X : Stand p l e R s m args below meth c T locs cells slots) {A : State} {v : Option Value} {Q : Option Value → Heap → List Loc → Prop} {k n : Nat} (hv : meth.sig.returnType = none → v = none) (hlk : meth.locks = false)
    (hs : ∀ fs, (∀ (f : JFrame) (acts : List Action), f.method = m → f.locked = none → f.entered = [] → (doReturn e (T.setTop f) acts v).1 = T.setFrames fs) → Steps p.tables e below A (T.setFrames fs)) (hQ : Q v T.heap locs) (hk : cells ≤ k) (hn : slots ≤ n) : Wp p e below (Out s Q k n) A := by
  obtain ⟨fs, hr, hrun, hended, hW, hsame⟩ := X.leave (v := v) hv hlk
  exact ⟨_, _, hs fs hr, hrun, hended, _, _, rfl, hQ, ⟨_, rfl⟩, hW, hsame.mono hk hn⟩
theorem Wp.retV (X : Stand p l e R s m args below meth c T locs cells slots) (hx : p.tables.exec = Jvm.exec) {pc : Nat} {Ls : Array Slot} {Q : Option Value → Heap → List Loc → Prop} {k n : Nat} (hret : meth.sig.returnType = none) (hd : decode c.code pc = .ok (.return_, 1)) (hlk : meth.locks = false)
    (hQ : Q none T.heap locs) (hk : cells ≤ k) (hn : slots ≤ n) : Wp p e below (Out s Q k n) (T.setTop (mkF m pc Ls [])) := Wp.out X (fun _ => rfl) hlk (fun fs hr => X.returnOut hx hret hd hr) hQ hk hn
theorem Wp.retN (X : Stand p l e R s m args below meth c T locs cells slots) (hx : p.tables.exec = Jvm.exec) {pc : Nat} {Ls : Array Slot} {z : Int32} {rest : List Value} {t : FieldType} {Q : Option Value → Heap → List Loc → Prop} {k n : Nat} (hret : meth.sig.returnType = some t) (ht : t = .boolean ∨ t = .byte ∨ t = .char ∨ t = .short) (hd : decode c.code pc = .ok (.ireturn, 1)) (hlk : meth.locks = false)
    (hQ : Q (some (.int (nar t z))) T.heap locs) (hk : cells ≤ k) (hn : slots ≤ n) : Wp p e below (Out s Q k n) (T.setTop (mkF m pc Ls (.int z :: rest))) := Wp.out X (fun h => by rw [hret] at h; cases h) hlk (fun fs hr => Jvm.RoadKit.retN X hx hret ht hd hr) hQ hk hn
theorem Wp.retI (X : Stand p l e R s m args below meth c T locs cells slots) (hx : p.tables.exec = Jvm.exec) {pc : Nat} {Ls : Array Slot} {z : Int32} {rest : List Value} {Q : Option Value → Heap → List Loc → Prop} {k n : Nat} (hret : meth.sig.returnType = some .int) (hd : decode c.code pc = .ok (.ireturn, 1)) (hlk : meth.locks = false)
    (hQ : Q (some (.int z)) T.heap locs) (hk : cells ≤ k) (hn : slots ≤ n) : Wp p e below (Out s Q k n) (T.setTop (mkF m pc Ls (.int z :: rest))) := Wp.out X (fun h => by rw [hret] at h; cases h) hlk (fun fs hr => Jvm.RoadKit.retOut X hx hret rfl (Or.inl ⟨rfl, Or.inl rfl, z, rfl⟩) hd hr) hQ hk hn
theorem Wp.retJ (X : Stand p l e R s m args below meth c T locs cells slots) (hx : p.tables.exec = Jvm.exec) {pc : Nat} {Ls : Array Slot} {z : Int64} {rest : List Value} {Q : Option Value → Heap → List Loc → Prop} {k n : Nat} (hret : meth.sig.returnType = some .long) (hd : decode c.code pc = .ok (.lreturn, 1)) (hlk : meth.locks = false)
    (hQ : Q (some (.long z)) T.heap locs) (hk : cells ≤ k) (hn : slots ≤ n) : Wp p e below (Out s Q k n) (T.setTop (mkF m pc Ls (.long z :: rest))) := Wp.out X (fun h => by rw [hret] at h; cases h) hlk (fun fs hr => Jvm.RoadKit.retOut X hx hret rfl (Or.inr (Or.inl ⟨rfl, rfl, z, rfl⟩)) hd hr) hQ hk hn
theorem Wp.retA (X : Stand p l e R s m args below meth c T locs cells slots) (hx : p.tables.exec = Jvm.exec) {pc : Nat} {Ls : Array Slot} {w : Value} {rest : List Value} {t : FieldType} {Q : Option Value → Heap → List Loc → Prop} {k n : Nat} (hret : meth.sig.returnType = some t) (hw : w.isRef = true) (hd : decode c.code pc = .ok (.areturn, 1)) (hlk : meth.locks = false)
    (hQ : Q (some w) T.heap locs) (hk : cells ≤ k) (hn : slots ≤ n) (ht : t.isReference = true := by rfl) : Wp p e below (Out s Q k n) (T.setTop (mkF m pc Ls (w :: rest))) := Wp.out X (fun h => by rw [hret] at h; cases h) hlk (fun fs hr => Jvm.RoadKit.retOut X hx hret (by cases t <;> first | (cases ht; done) | (cases w <;> first | (cases hw; done) | rfl)) (Or.inr (Or.inr (Or.inr (Or.inr ⟨rfl, ht, hw⟩)))) hd hr) hQ hk hn
end OwnWp
theorem d1_0 : decode prog_58_method_1_code 0 = .ok (.aload_n 0, 1) := by decide +kernel
theorem d1_1 : decode prog_58_method_1_code 1 = .ok (.invokespecial 3, 3) := by decide +kernel
theorem d1_4 : decode prog_58_method_1_code 4 = .ok (.aload_n 0, 1) := by decide +kernel
theorem d1_5 : decode prog_58_method_1_code 5 = .ok (.lload_n 1, 1) := by decide +kernel
theorem d1_6 : decode prog_58_method_1_code 6 = .ok (.putfield 9, 3) := by decide +kernel
theorem d1_9 : decode prog_58_method_1_code 9 = .ok (.aload_n 0, 1) := by decide +kernel
theorem d1_10 : decode prog_58_method_1_code 10 = .ok (.iload_n 3, 1) := by decide +kernel
theorem d1_11 : decode prog_58_method_1_code 11 = .ok (.putfield 15, 3) := by decide +kernel
theorem d1_14 : decode prog_58_method_1_code 14 = .ok (.aload_n 0, 1) := by decide +kernel
theorem d1_15 : decode prog_58_method_1_code 15 = .ok (.lload_n 1, 1) := by decide +kernel
theorem d1_16 : decode prog_58_method_1_code 16 = .ok (.putfield 19, 3) := by decide +kernel
theorem d1_19 : decode prog_58_method_1_code 19 = .ok (.return_, 1) := by decide +kernel
theorem pn_com_example_rank_merge_rankmerge_io_TopicBlock : plainName "com/example/rank_merge/rankmerge/io/TopicBlock" = true := by first | (simp [plainName, overriddenIn]; done) | decide +kernel
theorem ef_1_000 (m : MethodId) (x0 : Addr) (x1 : Int64) (x2 : Int32) : entryFrame m #[(.ref x0), (.long x1), (.int x2)] 4 = mkF m 0 #[.val (.ref x0), .val (.long x1), .second, .val (.int x2)] [] := by first | (simp [entryFrame, mkF, argsToLocals, Value.category]; done) | rfl
def Q1 (Z : State) (d0 : Addr) (u0 : Int64) (u1 : Int32) (h0 : Heap) (n0 : Nat) (v : Option Value) (h : Heap) (L : List Loc) : Prop := v = none ∧ Fr n0 L ∧ Keep h0 h [d0] ∧ Exa Z h d0 "com/example/rank_merge/rankmerge/io/TopicBlock" ∧ Fld Z h d0 "com/example/rank_merge/rankmerge/io/TopicBlock" "start" "J" (.long u0) ∧ Fld Z h d0 "com/example/rank_merge/rankmerge/io/TopicBlock" "linesBefore" "I" (.int u1) ∧ Fld Z h d0 "com/example/rank_merge/rankmerge/io/TopicBlock" "end" "J" (.long u0) ∧ Fld Z h d0 "com/example/rank_merge/rankmerge/io/TopicBlock" "records" "I" (.int (0 : Int32))
set_option maxRecDepth 65536 in
set_option maxHeartbeats 40000000 in
theorem rm1 (l : Launch) (Z : State) (a0 : Array Value) (hw : ∀ d ∈ tables_1, d.before a0 Z = true) (ws : List Jvm.Cond) (d0 : Addr) (u0 : Int64) (u1 : Int32) (h0 : Heap) (n0 : Nat) (Z0 : n0 ≤ h0.size) (g_d0 : n0 ≤ d0) (E_d0 : Exa Z h0 d0 "com/example/rank_merge/rankmerge/io/TopicBlock") (F_start_d0 : Fld Z h0 d0 "com/example/rank_merge/rankmerge/io/TopicBlock" "start" "J" (.long (0 : Int64))) (F_linesBefore_d0 : Fld Z h0 d0 "com/example/rank_merge/rankmerge/io/TopicBlock" "linesBefore" "I" (.int (0 : Int32))) (F_end_d0 : Fld Z h0 d0 "com/example/rank_merge/rankmerge/io/TopicBlock" "end" "J" (.long (0 : Int64))) (F_records_d0 : Fld Z h0 d0 "com/example/rank_merge/rankmerge/io/TopicBlock" "records" "I" (.int (0 : Int32))) :
    MetFree l (⟨"com/example/rank_merge/rankmerge/io/TopicBlock", "<init>", "(JI)V"⟩ : MethodName) (head1 (Jvm.Cond.code (⟨"com/example/rank_merge/rankmerge/io/TopicBlock", "<init>", "(JI)V"⟩ : MethodName) prog_58_method_1_code 4 none :: ws) ({ frames := 1, cells := 0, slots := 0, locals := 12 } : Room)) (fun a U => a = #[(.ref d0), (.long u0), (.int u1)] ∧ Z.Warmed39 U.vm ∧ U.heap = h0) (fun _ _ _ _ _ => True) (fun _ U o U' => ∃ v L, o = .returned v ∧ Q1 Z d0 u0 u1 h0 n0 v U'.heap L ∧ FrameEnd U o U' L ({ frames := 1, cells := 0, slots := 0, locals := 12 } : Room).cells ({ frames := 1, cells := 0, slots := 0, locals := 12 } : Room).slots) := by
  refine MetFree.of_bodySF (plainFor_of_name pn_com_example_rank_merge_rankmerge_io_TopicBlock) hisR ?_
  intro p e s m args below meth c s₁ Bd hml0 hP hK
  obtain ⟨rfl, hZ, hh⟩ := hP
  have hx := Bd.exec
  have hby := Bd.bytes
  have hlk : meth.locks = false := Bd.notSynchronized
  have hml : c.maxLocals = 4 := hml0
  have hown : s.vm.findClass "com/example/rank_merge/rankmerge/io/TopicBlock" = some m.cls := findClass_of_methodNamed Bd.named
  have hnm := (name_of_methodNamed Bd.named Bd.method).1
  have X0 : Stand p l e ({ frames := 1, cells := 0, slots := 0, locals := 12 } : Room) s m #[(.ref d0), (.long u0), (.int u1)] below meth c s₁ [] 0 0 := Stand.of_body Bd
  have e0 : s₁.heap = h0 := by rw [← hh, Bd.state]; rfl
  have N0 := Fr.nil n0
  have K0 : Keep h0 h0 [d0] := Keep.refl h0 _
  show Wp p e below (Out s (Q1 Z d0 u0 u1 h0 n0) ({ frames := 1, cells := 0, slots := 0, locals := 12 } : Room).cells ({ frames := 1, cells := 0, slots := 0, locals := 12 } : Room).slots) (s₁.setTop (entryFrame m #[(.ref d0), (.long u0), (.int u1)] 4))
  rw [ef_1_000]
  show Wp p e below _ (s₁.setTop (mkF m 0 #[.val (.ref d0), .val (.long u0), .second, .val (.int u1)] []))
  refine Wp.step (fun t k => XS.aloadN X0.here hx rfl (hb hby d1_0) rfl rfl k) ?_
  show Wp p e below _ (s₁.setTop (mkF m 1 #[.val (.ref d0), .val (.long u0), .second, .val (.int u1)] [(.ref d0)]))
  obtain ⟨T1, X1, e1, st1⟩ := initO X0 hx hZ hown (hw _ (List.mem_of_getElem? (i := 6) rfl)) (hw _ (List.mem_of_getElem? (i := 7) rfl)) (hw _ (List.mem_of_getElem? (i := 8) rfl)) e0 (g := (mkF m 1 #[.val (.ref d0), .val (.long u0), .second, .val (.int u1)] [(.ref d0)])) rfl (by rw [hml]; rfl) rfl (hb hby d1_1) (by decide) (W := 0) (by show 2 * 0 + _ ≤ _; exact Nat.le_of_eq rfl) (by decide)
  refine Wp.step st1 ?_
  show Wp p e below _ (T1.setTop (mkF m 4 #[.val (.ref d0), .val (.long u0), .second, .val (.int u1)] []))
  refine Wp.step (fun t k => XS.aloadN X1.here hx rfl (hb hby d1_4) rfl rfl k) ?_
  show Wp p e below _ (T1.setTop (mkF m 5 #[.val (.ref d0), .val (.long u0), .second, .val (.int u1)] [(.ref d0)]))
  refine Wp.step (fun t k => XS.lloadN X1.here hx rfl (hb hby d1_5) rfl k) ?_
  show Wp p e below _ (T1.setTop (mkF m 6 #[.val (.ref d0), .val (.long u0), .second, .val (.int u1)] [(.long u0), (.ref d0)]))
  obtain ⟨T2, h2, X2, e2, W2, st2⟩ := putF X1 hx hZ hown (host := "") (Or.inl (hw _ (List.mem_of_getElem? (i := 9) rfl))) Via.refl e1 F_start_d0 E_d0 (Or.inr ⟨(hw _ (List.mem_of_getElem? (i := 10) rfl)), rfl, hnm⟩) (hw _ (List.mem_of_getElem? (i := 1) rfl)) (ty := .long) (by decide) rfl rfl (g := (mkF m 6 #[.val (.ref d0), .val (.long u0), .second, .val (.int u1)] [(.long u0), (.ref d0)])) rfl rfl (hb hby d1_6)
  have c3 := E_d0.wr W2
  have c4 := F_linesBefore_d0.other W2 (Or.inr (slot_ne (Or.inr (hw _ (List.mem_of_getElem? (i := 12) rfl))) (Or.inr (hw _ (List.mem_of_getElem? (i := 10) rfl))) (by decide) (t := .int) (t' := .long) (by decide) (by decide)))
  have c5 := F_end_d0.other W2 (Or.inr (slot_ne (Or.inl (hw _ (List.mem_of_getElem? (i := 14) rfl))) (Or.inr (hw _ (List.mem_of_getElem? (i := 10) rfl))) (by decide) (t := .long) (t' := .long) (by decide) (by decide)))
  have c6 := F_records_d0.other W2 (Or.inr (slot_ne (Or.inl (hw _ (List.mem_of_getElem? (i := 26) rfl))) (Or.inr (hw _ (List.mem_of_getElem? (i := 10) rfl))) (by decide) (t := .int) (t' := .long) (by decide) (by decide)))
  have c7 := F_start_d0.same W2
  have K8 := K0.wr W2 (Or.inl (List.mem_of_getElem? (i := 0) rfl))
  have N2 := Fr.snoc X2 N0 g_d0
  refine Wp.step st2 ?_
  show Wp p e below _ (T2.setTop (mkF m 9 #[.val (.ref d0), .val (.long u0), .second, .val (.int u1)] []))
  refine Wp.step (fun t k => XS.aloadN X2.here hx rfl (hb hby d1_9) rfl rfl k) ?_
  show Wp p e below _ (T2.setTop (mkF m 10 #[.val (.ref d0), .val (.long u0), .second, .val (.int u1)] [(.ref d0)]))
  refine Wp.step (fun t k => XS.iloadN X2.here hx rfl (hb hby d1_10) rfl k) ?_
  show Wp p e below _ (T2.setTop (mkF m 11 #[.val (.ref d0), .val (.long u0), .second, .val (.int u1)] [(.int u1), (.ref d0)]))
  obtain ⟨T9, h9, X9, e9, W9, st9⟩ := putF X2 hx hZ hown (host := "") (Or.inl (hw _ (List.mem_of_getElem? (i := 11) rfl))) Via.refl e2 c4 c3 (Or.inr ⟨(hw _ (List.mem_of_getElem? (i := 12) rfl)), rfl, hnm⟩) (hw _ (List.mem_of_getElem? (i := 1) rfl)) (ty := .int) (by decide) rfl rfl (g := (mkF m 11 #[.val (.ref d0), .val (.long u0), .second, .val (.int u1)] [(.int u1), (.ref d0)])) rfl rfl (hb hby d1_11)
  have c10 := c3.wr W9
  have c11 := c7.other W9 (Or.inr (slot_ne (Or.inr (hw _ (List.mem_of_getElem? (i := 10) rfl))) (Or.inr (hw _ (List.mem_of_getElem? (i := 12) rfl))) (by decide) (t := .long) (t' := .int) (by decide) (by decide)))
  have c12 := c5.other W9 (Or.inr (slot_ne (Or.inl (hw _ (List.mem_of_getElem? (i := 14) rfl))) (Or.inr (hw _ (List.mem_of_getElem? (i := 12) rfl))) (by decide) (t := .long) (t' := .int) (by decide) (by decide)))
  have c13 := c6.other W9 (Or.inr (slot_ne (Or.inl (hw _ (List.mem_of_getElem? (i := 26) rfl))) (Or.inr (hw _ (List.mem_of_getElem? (i := 12) rfl))) (by decide) (t := .int) (t' := .int) (by decide) (by decide)))
  have c14 := c4.same W9
  have K15 := K8.wr W9 (Or.inl (List.mem_of_getElem? (i := 0) rfl))
  have N9 := Fr.snoc X9 N2 g_d0
  refine Wp.step st9 ?_
  show Wp p e below _ (T9.setTop (mkF m 14 #[.val (.ref d0), .val (.long u0), .second, .val (.int u1)] []))
  refine Wp.step (fun t k => XS.aloadN X9.here hx rfl (hb hby d1_14) rfl rfl k) ?_
  show Wp p e below _ (T9.setTop (mkF m 15 #[.val (.ref d0), .val (.long u0), .second, .val (.int u1)] [(.ref d0)]))
  refine Wp.step (fun t k => XS.lloadN X9.here hx rfl (hb hby d1_15) rfl k) ?_
  show Wp p e below _ (T9.setTop (mkF m 16 #[.val (.ref d0), .val (.long u0), .second, .val (.int u1)] [(.long u0), (.ref d0)]))
  obtain ⟨T16, h16, X16, e16, W16, st16⟩ := putF X9 hx hZ hown (host := "") (Or.inl (hw _ (List.mem_of_getElem? (i := 13) rfl))) Via.refl e9 c12 c10 (Or.inl (hw _ (List.mem_of_getElem? (i := 14) rfl))) (hw _ (List.mem_of_getElem? (i := 1) rfl)) (ty := .long) (by decide) rfl rfl (g := (mkF m 16 #[.val (.ref d0), .val (.long u0), .second, .val (.int u1)] [(.long u0), (.ref d0)])) rfl rfl (hb hby d1_16)
  have c17 := c10.wr W16
  have c18 := c11.other W16 (Or.inr (slot_ne (Or.inr (hw _ (List.mem_of_getElem? (i := 10) rfl))) (Or.inl (hw _ (List.mem_of_getElem? (i := 14) rfl))) (by decide) (t := .long) (t' := .long) (by decide) (by decide)))
  have c19 := c14.other W16 (Or.inr (slot_ne (Or.inr (hw _ (List.mem_of_getElem? (i := 12) rfl))) (Or.inl (hw _ (List.mem_of_getElem? (i := 14) rfl))) (by decide) (t := .int) (t' := .long) (by decide) (by decide)))
  have c20 := c13.other W16 (Or.inr (slot_ne (Or.inl (hw _ (List.mem_of_getElem? (i := 26) rfl))) (Or.inl (hw _ (List.mem_of_getElem? (i := 14) rfl))) (by decide) (t := .int) (t' := .long) (by decide) (by decide)))
  have c21 := c12.same W16
  have K22 := K15.wr W16 (Or.inl (List.mem_of_getElem? (i := 0) rfl))
  have N16 := Fr.snoc X16 N9 g_d0
  refine Wp.step st16 ?_
  show Wp p e below _ (T16.setTop (mkF m 19 #[.val (.ref d0), .val (.long u0), .second, .val (.int u1)] []))
  refine Wp.retV X16 hx Bd.returns (hb hby d1_19) hlk ?_ (by decide) (by decide)
  show Q1 Z d0 u0 u1 h0 n0 none T16.heap _
  rw [e16]
  exact ⟨rfl, N16, K22, c17, c18, c19, c21, c20⟩
theorem d7_0 : decode prog_58_method_2_code 0 = .ok (.aload_n 0, 1) := by decide +kernel
theorem d7_1 : decode prog_58_method_2_code 1 = .ok (.lload_n 1, 1) := by decide +kernel
theorem d7_2 : decode prog_58_method_2_code 2 = .ok (.putfield 19, 3) := by decide +kernel
theorem d7_5 : decode prog_58_method_2_code 5 = .ok (.aload_n 0, 1) := by decide +kernel
theorem d7_6 : decode prog_58_method_2_code 6 = .ok (.dup, 1) := by decide +kernel
theorem d7_7 : decode prog_58_method_2_code 7 = .ok (.getfield 22, 3) := by decide +kernel
theorem d7_10 : decode prog_58_method_2_code 10 = .ok (.iconst 1, 1) := by decide +kernel
theorem d7_11 : decode prog_58_method_2_code 11 = .ok (.iadd, 1) := by decide +kernel
theorem d7_12 : decode prog_58_method_2_code 12 = .ok (.putfield 22, 3) := by decide +kernel
theorem d7_15 : decode prog_58_method_2_code 15 = .ok (.return_, 1) := by decide +kernel
theorem ef_7_00 (m : MethodId) (x0 : Addr) (x1 : Int64) : entryFrame m #[(.ref x0), (.long x1)] 3 = mkF m 0 #[.val (.ref x0), .val (.long x1), .second] [] := by first | (simp [entryFrame, mkF, argsToLocals, Value.category]; done) | rfl
def Q7 (Z : State) (d0 : Addr) (u0 : Int64) (y0 : Int64) (y1 : Int32) (y2 : Int64) (y3 : Int32) (h0 : Heap) (n0 : Nat) (v : Option Value) (h : Heap) (L : List Loc) : Prop := v = none ∧ Fr n0 L ∧ Keep h0 h [d0] ∧ Exa Z h d0 "com/example/rank_merge/rankmerge/io/TopicBlock" ∧ Fld Z h d0 "com/example/rank_merge/rankmerge/io/TopicBlock" "start" "J" (.long y0) ∧ Fld Z h d0 "com/example/rank_merge/rankmerge/io/TopicBlock" "linesBefore" "I" (.int y1) ∧ Fld Z h d0 "com/example/rank_merge/rankmerge/io/TopicBlock" "end" "J" (.long u0) ∧ Fld Z h d0 "com/example/rank_merge/rankmerge/io/TopicBlock" "records" "I" (.int (y3 + (1 : Int32)))
set_option maxRecDepth 65536 in
set_option maxHeartbeats 40000000 in
theorem rm7 (l : Launch) (Z : State) (a0 : Array Value) (hw : ∀ d ∈ tables_1, d.before a0 Z = true) (ws : List Jvm.Cond) (d0 : Addr) (u0 : Int64) (y0 : Int64) (y1 : Int32) (y2 : Int64) (y3 : Int32) (h0 : Heap) (n0 : Nat) (Z0 : n0 ≤ h0.size) (g_d0 : n0 ≤ d0) (E_d0 : Exa Z h0 d0 "com/example/rank_merge/rankmerge/io/TopicBlock") (F_start_d0 : Fld Z h0 d0 "com/example/rank_merge/rankmerge/io/TopicBlock" "start" "J" (.long y0)) (F_linesBefore_d0 : Fld Z h0 d0 "com/example/rank_merge/rankmerge/io/TopicBlock" "linesBefore" "I" (.int y1)) (F_end_d0 : Fld Z h0 d0 "com/example/rank_merge/rankmerge/io/TopicBlock" "end" "J" (.long y2)) (F_records_d0 : Fld Z h0 d0 "com/example/rank_merge/rankmerge/io/TopicBlock" "records" "I" (.int y3)) :
    MetFree l (⟨"com/example/rank_merge/rankmerge/io/TopicBlock", "add", "(J)V"⟩ : MethodName) (head1 (Jvm.Cond.code (⟨"com/example/rank_merge/rankmerge/io/TopicBlock", "add", "(J)V"⟩ : MethodName) prog_58_method_2_code 3 none :: ws) ({ frames := 0, cells := 0, slots := 0, locals := 0 } : Room)) (fun a U => a = #[(.ref d0), (.long u0)] ∧ Z.Warmed39 U.vm ∧ U.heap = h0) (fun _ _ _ _ _ => True) (fun _ U o U' => ∃ v L, o = .returned v ∧ Q7 Z d0 u0 y0 y1 y2 y3 h0 n0 v U'.heap L ∧ FrameEnd U o U' L ({ frames := 0, cells := 0, slots := 0, locals := 0 } : Room).cells ({ frames := 0, cells := 0, slots := 0, locals := 0 } : Room).slots) := by
  refine MetFree.of_bodySF (plainFor_of_name pn_com_example_rank_merge_rankmerge_io_TopicBlock) hisR ?_
  intro p e s m args below meth c s₁ Bd hml0 hP hK
  obtain ⟨rfl, hZ, hh⟩ := hP
  have hx := Bd.exec
  have hby := Bd.bytes
  have hlk : meth.locks = false := Bd.notSynchronized
  have hml : c.maxLocals = 3 := hml0
  have hown : s.vm.findClass "com/example/rank_merge/rankmerge/io/TopicBlock" = some m.cls := findClass_of_methodNamed Bd.named
  have hnm := (name_of_methodNamed Bd.named Bd.method).1
  have X0 : Stand p l e ({ frames := 0, cells := 0, slots := 0, locals := 0 } : Room) s m #[(.ref d0), (.long u0)] below meth c s₁ [] 0 0 := Stand.of_body Bd
  have e0 : s₁.heap = h0 := by rw [← hh, Bd.state]; rfl
  have N0 := Fr.nil n0
  have K0 : Keep h0 h0 [d0] := Keep.refl h0 _
  show Wp p e below (Out s (Q7 Z d0 u0 y0 y1 y2 y3 h0 n0) ({ frames := 0, cells := 0, slots := 0, locals := 0 } : Room).cells ({ frames := 0, cells := 0, slots := 0, locals := 0 } : Room).slots) (s₁.setTop (entryFrame m #[(.ref d0), (.long u0)] 3))
  rw [ef_7_00]
  show Wp p e below _ (s₁.setTop (mkF m 0 #[.val (.ref d0), .val (.long u0), .second] []))
  refine Wp.step (fun t k => XS.aloadN X0.here hx rfl (hb hby d7_0) rfl rfl k) ?_
  show Wp p e below _ (s₁.setTop (mkF m 1 #[.val (.ref d0), .val (.long u0), .second] [(.ref d0)]))
  refine Wp.step (fun t k => XS.lloadN X0.here hx rfl (hb hby d7_1) rfl k) ?_
  show Wp p e below _ (s₁.setTop (mkF m 2 #[.val (.ref d0), .val (.long u0), .second] [(.long u0), (.ref d0)]))
  obtain ⟨T1, h1, X1, e1, W1, st1⟩ := putF X0 hx hZ hown (host := "") (Or.inl (hw _ (List.mem_of_getElem? (i := 13) rfl))) Via.refl e0 F_end_d0 E_d0 (Or.inl (hw _ (List.mem_of_getElem? (i := 14) rfl))) (hw _ (List.mem_of_getElem? (i := 1) rfl)) (ty := .long) (by decide) rfl rfl (g := (mkF m 2 #[.val (.ref d0), .val (.long u0), .second] [(.long u0), (.ref d0)])) rfl rfl (hb hby d7_2)
  have c2 := E_d0.wr W1
  have c3 := F_start_d0.other W1 (Or.inr (slot_ne (Or.inr (hw _ (List.mem_of_getElem? (i := 10) rfl))) (Or.inl (hw _ (List.mem_of_getElem? (i := 14) rfl))) (by decide) (t := .long) (t' := .long) (by decide) (by decide)))
  have c4 := F_linesBefore_d0.other W1 (Or.inr (slot_ne (Or.inr (hw _ (List.mem_of_getElem? (i := 12) rfl))) (Or.inl (hw _ (List.mem_of_getElem? (i := 14) rfl))) (by decide) (t := .int) (t' := .long) (by decide) (by decide)))
  have c5 := F_records_d0.other W1 (Or.inr (slot_ne (Or.inl (hw _ (List.mem_of_getElem? (i := 26) rfl))) (Or.inl (hw _ (List.mem_of_getElem? (i := 14) rfl))) (by decide) (t := .int) (t' := .long) (by decide) (by decide)))
  have c6 := F_end_d0.same W1
  have K7 := K0.wr W1 (Or.inl (List.mem_of_getElem? (i := 0) rfl))
  have N1 := Fr.snoc X1 N0 g_d0
  refine Wp.step st1 ?_
  show Wp p e below _ (T1.setTop (mkF m 5 #[.val (.ref d0), .val (.long u0), .second] []))
  refine Wp.step (fun t k => XS.aloadN X1.here hx rfl (hb hby d7_5) rfl rfl k) ?_
  show Wp p e below _ (T1.setTop (mkF m 6 #[.val (.ref d0), .val (.long u0), .second] [(.ref d0)]))
  refine Wp.step (fun t k => XS.dup X1.here hx rfl (hb hby d7_6) rfl rfl k) ?_
  show Wp p e below _ (T1.setTop (mkF m 7 #[.val (.ref d0), .val (.long u0), .second] [(.ref d0), (.ref d0)]))
  obtain ⟨T8, X8, e8, st8⟩ := getF X1 hx hZ hown (host := "") (Or.inl (hw _ (List.mem_of_getElem? (i := 25) rfl))) Via.refl e1 c5 (g := (mkF m 7 #[.val (.ref d0), .val (.long u0), .second] [(.ref d0), (.ref d0)])) rfl rfl (hb hby d7_7)
  refine Wp.step st8 ?_
  show Wp p e below _ (T8.setTop (mkF m 10 #[.val (.ref d0), .val (.long u0), .second] [(.int y3), (.ref d0)]))
  refine Wp.step (fun t k => XS.iconst X8.here hx rfl (hb hby d7_10) k) ?_
  show Wp p e below _ (T8.setTop (mkF m 11 #[.val (.ref d0), .val (.long u0), .second] [(.int (1 : Int32)), (.int y3), (.ref d0)]))
  refine Wp.step (fun t k => XS.iadd X8.here hx rfl (hb hby d7_11) rfl k) ?_
  show Wp p e below _ (T8.setTop (mkF m 12 #[.val (.ref d0), .val (.long u0), .second] [(.int (y3 + (1 : Int32))), (.ref d0)]))
  obtain ⟨T9, h9, X9, e9, W9, st9⟩ := putF X8 hx hZ hown (host := "") (Or.inl (hw _ (List.mem_of_getElem? (i := 25) rfl))) Via.refl e8 c5 c2 (Or.inl (hw _ (List.mem_of_getElem? (i := 26) rfl))) (hw _ (List.mem_of_getElem? (i := 1) rfl)) (ty := .int) (by decide) rfl rfl (g := (mkF m 12 #[.val (.ref d0), .val (.long u0), .second] [(.int (y3 + (1 : Int32))), (.ref d0)])) rfl rfl (hb hby d7_12)
  have c10 := c2.wr W9
  have c11 := c3.other W9 (Or.inr (slot_ne (Or.inr (hw _ (List.mem_of_getElem? (i := 10) rfl))) (Or.inl (hw _ (List.mem_of_getElem? (i := 26) rfl))) (by decide) (t := .long) (t' := .int) (by decide) (by decide)))
  have c12 := c4.other W9 (Or.inr (slot_ne (Or.inr (hw _ (List.mem_of_getElem? (i := 12) rfl))) (Or.inl (hw _ (List.mem_of_getElem? (i := 26) rfl))) (by decide) (t := .int) (t' := .int) (by decide) (by decide)))
  have c13 := c6.other W9 (Or.inr (slot_ne (Or.inl (hw _ (List.mem_of_getElem? (i := 14) rfl))) (Or.inl (hw _ (List.mem_of_getElem? (i := 26) rfl))) (by decide) (t := .long) (t' := .int) (by decide) (by decide)))
  have c14 := c5.same W9
  have K15 := K7.wr W9 (Or.inl (List.mem_of_getElem? (i := 0) rfl))
  have N9 := Fr.snoc X9 N1 g_d0
  refine Wp.step st9 ?_
  show Wp p e below _ (T9.setTop (mkF m 15 #[.val (.ref d0), .val (.long u0), .second] []))
  refine Wp.retV X9 hx Bd.returns (hb hby d7_15) hlk ?_ (by decide) (by decide)
  show Q7 Z d0 u0 y0 y1 y2 y3 h0 n0 none T9.heap _
  rw [e9]
  exact ⟨rfl, N9, K15, c10, c11, c12, c13, c14⟩
theorem d3_0 : decode prog_58_method_4_code 0 = .ok (.aload_n 0, 1) := by decide +kernel
theorem d3_1 : decode prog_58_method_4_code 1 = .ok (.getfield 19, 3) := by decide +kernel
theorem d3_4 : decode prog_58_method_4_code 4 = .ok (.lreturn, 1) := by decide +kernel
theorem ef_3_0 (m : MethodId) (x0 : Addr) : entryFrame m #[(.ref x0)] 1 = mkF m 0 #[.val (.ref x0)] [] := by first | (simp [entryFrame, mkF, argsToLocals, Value.category]; done) | rfl
def Q3 (Z : State) (d0 : Addr) (f0 : Int64) (h0 : Heap) (n0 : Nat) (v : Option Value) (h : Heap) (L : List Loc) : Prop := v = some (.long f0) ∧ Fr n0 L ∧ h = h0
set_option maxRecDepth 65536 in
set_option maxHeartbeats 40000000 in
theorem rm3 (l : Launch) (Z : State) (a0 : Array Value) (hw : ∀ d ∈ tables_1, d.before a0 Z = true) (ws : List Jvm.Cond) (d0 : Addr) (f0 : Int64) (h0 : Heap) (n0 : Nat) (Z0 : n0 ≤ h0.size) (F_f : Fld Z h0 d0 "com/example/rank_merge/rankmerge/io/TopicBlock" "end" "J" (.long f0)) :
    MetFree l (⟨"com/example/rank_merge/rankmerge/io/TopicBlock", "getEnd", "()J"⟩ : MethodName) (head1 (Jvm.Cond.code (⟨"com/example/rank_merge/rankmerge/io/TopicBlock", "getEnd", "()J"⟩ : MethodName) prog_58_method_4_code 1 (some .long) :: ws) ({ frames := 0, cells := 0, slots := 0, locals := 0 } : Room)) (fun a U => a = #[(.ref d0)] ∧ Z.Warmed39 U.vm ∧ U.heap = h0) (fun _ _ _ _ _ => True) (fun _ U o U' => ∃ v L, o = .returned v ∧ Q3 Z d0 f0 h0 n0 v U'.heap L ∧ FrameEnd U o U' L ({ frames := 0, cells := 0, slots := 0, locals := 0 } : Room).cells ({ frames := 0, cells := 0, slots := 0, locals := 0 } : Room).slots) := by
  refine MetFree.of_bodySF (plainFor_of_name pn_com_example_rank_merge_rankmerge_io_TopicBlock) hisR ?_
  intro p e s m args below meth c s₁ Bd hml0 hP hK
  obtain ⟨rfl, hZ, hh⟩ := hP
  have hx := Bd.exec
  have hby := Bd.bytes
  have hlk : meth.locks = false := Bd.notSynchronized
  have hml : c.maxLocals = 1 := hml0
  have hown : s.vm.findClass "com/example/rank_merge/rankmerge/io/TopicBlock" = some m.cls := findClass_of_methodNamed Bd.named
  have hnm := (name_of_methodNamed Bd.named Bd.method).1
  have X0 : Stand p l e ({ frames := 0, cells := 0, slots := 0, locals := 0 } : Room) s m #[(.ref d0)] below meth c s₁ [] 0 0 := Stand.of_body Bd
  have e0 : s₁.heap = h0 := by rw [← hh, Bd.state]; rfl
  have N0 := Fr.nil n0
  have K0 : Keep h0 h0 [] := Keep.refl h0 _
  show Wp p e below (Out s (Q3 Z d0 f0 h0 n0) ({ frames := 0, cells := 0, slots := 0, locals := 0 } : Room).cells ({ frames := 0, cells := 0, slots := 0, locals := 0 } : Room).slots) (s₁.setTop (entryFrame m #[(.ref d0)] 1))
  rw [ef_3_0]
  show Wp p e below _ (s₁.setTop (mkF m 0 #[.val (.ref d0)] []))
  refine Wp.step (fun t k => XS.aloadN X0.here hx rfl (hb hby d3_0) rfl rfl k) ?_
  show Wp p e below _ (s₁.setTop (mkF m 1 #[.val (.ref d0)] [(.ref d0)]))
  obtain ⟨T1, X1, e1, st1⟩ := getF X0 hx hZ hown (host := "") (Or.inl (hw _ (List.mem_of_getElem? (i := 13) rfl))) Via.refl e0 F_f (g := (mkF m 1 #[.val (.ref d0)] [(.ref d0)])) rfl rfl (hb hby d3_1)
  refine Wp.step st1 ?_
  show Wp p e below _ (T1.setTop (mkF m 4 #[.val (.ref d0)] [(.long f0)]))
  refine Wp.retJ X1 hx Bd.returns (hb hby d3_4) hlk ?_ (by decide) (by decide)
  show Q3 Z d0 f0 h0 n0 (some (.long f0)) T1.heap _
  rw [e1]
  exact ⟨rfl, N0, rfl⟩
theorem d4_0 : decode prog_58_method_6_code 0 = .ok (.aload_n 0, 1) := by decide +kernel
theorem d4_1 : decode prog_58_method_6_code 1 = .ok (.getfield 22, 3) := by decide +kernel
theorem d4_4 : decode prog_58_method_6_code 4 = .ok (.ireturn, 1) := by decide +kernel
theorem ef_4_0 (m : MethodId) (x0 : Addr) : entryFrame m #[(.ref x0)] 1 = mkF m 0 #[.val (.ref x0)] [] := by first | (simp [entryFrame, mkF, argsToLocals, Value.category]; done) | rfl
def Q4 (Z : State) (d0 : Addr) (f0 : Int32) (h0 : Heap) (n0 : Nat) (v : Option Value) (h : Heap) (L : List Loc) : Prop := v = some (.int f0) ∧ Fr n0 L ∧ h = h0
set_option maxRecDepth 65536 in
set_option maxHeartbeats 40000000 in
theorem rm4 (l : Launch) (Z : State) (a0 : Array Value) (hw : ∀ d ∈ tables_1, d.before a0 Z = true) (ws : List Jvm.Cond) (d0 : Addr) (f0 : Int32) (h0 : Heap) (n0 : Nat) (Z0 : n0 ≤ h0.size) (F_f : Fld Z h0 d0 "com/example/rank_merge/rankmerge/io/TopicBlock" "records" "I" (.int f0)) :
    MetFree l (⟨"com/example/rank_merge/rankmerge/io/TopicBlock", "getRecords", "()I"⟩ : MethodName) (head1 (Jvm.Cond.code (⟨"com/example/rank_merge/rankmerge/io/TopicBlock", "getRecords", "()I"⟩ : MethodName) prog_58_method_6_code 1 (some .int) :: ws) ({ frames := 0, cells := 0, slots := 0, locals := 0 } : Room)) (fun a U => a = #[(.ref d0)] ∧ Z.Warmed39 U.vm ∧ U.heap = h0) (fun _ _ _ _ _ => True) (fun _ U o U' => ∃ v L, o = .returned v ∧ Q4 Z d0 f0 h0 n0 v U'.heap L ∧ FrameEnd U o U' L ({ frames := 0, cells := 0, slots := 0, locals := 0 } : Room).cells ({ frames := 0, cells := 0, slots := 0, locals := 0 } : Room).slots) := by
  refine MetFree.of_bodySF (plainFor_of_name pn_com_example_rank_merge_rankmerge_io_TopicBlock) hisR ?_
  intro p e s m args below meth c s₁ Bd hml0 hP hK
  obtain ⟨rfl, hZ, hh⟩ := hP
  have hx := Bd.exec
  have hby := Bd.bytes
  have hlk : meth.locks = false := Bd.notSynchronized
  have hml : c.maxLocals = 1 := hml0
  have hown : s.vm.findClass "com/example/rank_merge/rankmerge/io/TopicBlock" = some m.cls := findClass_of_methodNamed Bd.named
  have hnm := (name_of_methodNamed Bd.named Bd.method).1
  have X0 : Stand p l e ({ frames := 0, cells := 0, slots := 0, locals := 0 } : Room) s m #[(.ref d0)] below meth c s₁ [] 0 0 := Stand.of_body Bd
  have e0 : s₁.heap = h0 := by rw [← hh, Bd.state]; rfl
  have N0 := Fr.nil n0
  have K0 : Keep h0 h0 [] := Keep.refl h0 _
  show Wp p e below (Out s (Q4 Z d0 f0 h0 n0) ({ frames := 0, cells := 0, slots := 0, locals := 0 } : Room).cells ({ frames := 0, cells := 0, slots := 0, locals := 0 } : Room).slots) (s₁.setTop (entryFrame m #[(.ref d0)] 1))
  rw [ef_4_0]
  show Wp p e below _ (s₁.setTop (mkF m 0 #[.val (.ref d0)] []))
  refine Wp.step (fun t k => XS.aloadN X0.here hx rfl (hb hby d4_0) rfl rfl k) ?_
  show Wp p e below _ (s₁.setTop (mkF m 1 #[.val (.ref d0)] [(.ref d0)]))
  obtain ⟨T1, X1, e1, st1⟩ := getF X0 hx hZ hown (host := "") (Or.inl (hw _ (List.mem_of_getElem? (i := 25) rfl))) Via.refl e0 F_f (g := (mkF m 1 #[.val (.ref d0)] [(.ref d0)])) rfl rfl (hb hby d4_1)
  refine Wp.step st1 ?_
  show Wp p e below _ (T1.setTop (mkF m 4 #[.val (.ref d0)] [(.int f0)]))
  refine Wp.retI X1 hx Bd.returns (hb hby d4_4) hlk ?_ (by decide) (by decide)
  show Q4 Z d0 f0 h0 n0 (some (.int f0)) T1.heap _
  rw [e1]
  exact ⟨rfl, N0, rfl⟩
theorem d5_0 : decode prog_58_method_3_code 0 = .ok (.aload_n 0, 1) := by decide +kernel
theorem d5_1 : decode prog_58_method_3_code 1 = .ok (.getfield 9, 3) := by decide +kernel
theorem d5_4 : decode prog_58_method_3_code 4 = .ok (.lreturn, 1) := by decide +kernel
theorem ef_5_0 (m : MethodId) (x0 : Addr) : entryFrame m #[(.ref x0)] 1 = mkF m 0 #[.val (.ref x0)] [] := by first | (simp [entryFrame, mkF, argsToLocals, Value.category]; done) | rfl
def Q5 (Z : State) (d0 : Addr) (f0 : Int64) (h0 : Heap) (n0 : Nat) (v : Option Value) (h : Heap) (L : List Loc) : Prop := v = some (.long f0) ∧ Fr n0 L ∧ h = h0
set_option maxRecDepth 65536 in
set_option maxHeartbeats 40000000 in
theorem rm5 (l : Launch) (Z : State) (a0 : Array Value) (hw : ∀ d ∈ tables_1, d.before a0 Z = true) (ws : List Jvm.Cond) (d0 : Addr) (f0 : Int64) (h0 : Heap) (n0 : Nat) (Z0 : n0 ≤ h0.size) (F_f : Fld Z h0 d0 "com/example/rank_merge/rankmerge/io/TopicBlock" "start" "J" (.long f0)) :
    MetFree l (⟨"com/example/rank_merge/rankmerge/io/TopicBlock", "getStart", "()J"⟩ : MethodName) (head1 (Jvm.Cond.code (⟨"com/example/rank_merge/rankmerge/io/TopicBlock", "getStart", "()J"⟩ : MethodName) prog_58_method_3_code 1 (some .long) :: ws) ({ frames := 0, cells := 0, slots := 0, locals := 0 } : Room)) (fun a U => a = #[(.ref d0)] ∧ Z.Warmed39 U.vm ∧ U.heap = h0) (fun _ _ _ _ _ => True) (fun _ U o U' => ∃ v L, o = .returned v ∧ Q5 Z d0 f0 h0 n0 v U'.heap L ∧ FrameEnd U o U' L ({ frames := 0, cells := 0, slots := 0, locals := 0 } : Room).cells ({ frames := 0, cells := 0, slots := 0, locals := 0 } : Room).slots) := by
  refine MetFree.of_bodySF (plainFor_of_name pn_com_example_rank_merge_rankmerge_io_TopicBlock) hisR ?_
  intro p e s m args below meth c s₁ Bd hml0 hP hK
  obtain ⟨rfl, hZ, hh⟩ := hP
  have hx := Bd.exec
  have hby := Bd.bytes
  have hlk : meth.locks = false := Bd.notSynchronized
  have hml : c.maxLocals = 1 := hml0
  have hown : s.vm.findClass "com/example/rank_merge/rankmerge/io/TopicBlock" = some m.cls := findClass_of_methodNamed Bd.named
  have hnm := (name_of_methodNamed Bd.named Bd.method).1
  have X0 : Stand p l e ({ frames := 0, cells := 0, slots := 0, locals := 0 } : Room) s m #[(.ref d0)] below meth c s₁ [] 0 0 := Stand.of_body Bd
  have e0 : s₁.heap = h0 := by rw [← hh, Bd.state]; rfl
  have N0 := Fr.nil n0
  have K0 : Keep h0 h0 [] := Keep.refl h0 _
  show Wp p e below (Out s (Q5 Z d0 f0 h0 n0) ({ frames := 0, cells := 0, slots := 0, locals := 0 } : Room).cells ({ frames := 0, cells := 0, slots := 0, locals := 0 } : Room).slots) (s₁.setTop (entryFrame m #[(.ref d0)] 1))
  rw [ef_5_0]
  show Wp p e below _ (s₁.setTop (mkF m 0 #[.val (.ref d0)] []))
  refine Wp.step (fun t k => XS.aloadN X0.here hx rfl (hb hby d5_0) rfl rfl k) ?_
  show Wp p e below _ (s₁.setTop (mkF m 1 #[.val (.ref d0)] [(.ref d0)]))
  obtain ⟨T1, X1, e1, st1⟩ := getF X0 hx hZ hown (host := "") (Or.inl (hw _ (List.mem_of_getElem? (i := 9) rfl))) Via.refl e0 F_f (g := (mkF m 1 #[.val (.ref d0)] [(.ref d0)])) rfl rfl (hb hby d5_1)
  refine Wp.step st1 ?_
  show Wp p e below _ (T1.setTop (mkF m 4 #[.val (.ref d0)] [(.long f0)]))
  refine Wp.retJ X1 hx Bd.returns (hb hby d5_4) hlk ?_ (by decide) (by decide)
  show Q5 Z d0 f0 h0 n0 (some (.long f0)) T1.heap _
  rw [e1]
  exact ⟨rfl, N0, rfl⟩
theorem d6_0 : decode prog_58_method_5_code 0 = .ok (.aload_n 0, 1) := by decide +kernel
theorem d6_1 : decode prog_58_method_5_code 1 = .ok (.getfield 15, 3) := by decide +kernel
theorem d6_4 : decode prog_58_method_5_code 4 = .ok (.ireturn, 1) := by decide +kernel
theorem ef_6_0 (m : MethodId) (x0 : Addr) : entryFrame m #[(.ref x0)] 1 = mkF m 0 #[.val (.ref x0)] [] := by first | (simp [entryFrame, mkF, argsToLocals, Value.category]; done) | rfl
def Q6 (Z : State) (d0 : Addr) (f0 : Int32) (h0 : Heap) (n0 : Nat) (v : Option Value) (h : Heap) (L : List Loc) : Prop := v = some (.int f0) ∧ Fr n0 L ∧ h = h0
set_option maxRecDepth 65536 in
set_option maxHeartbeats 40000000 in
theorem rm6 (l : Launch) (Z : State) (a0 : Array Value) (hw : ∀ d ∈ tables_1, d.before a0 Z = true) (ws : List Jvm.Cond) (d0 : Addr) (f0 : Int32) (h0 : Heap) (n0 : Nat) (Z0 : n0 ≤ h0.size) (F_f : Fld Z h0 d0 "com/example/rank_merge/rankmerge/io/TopicBlock" "linesBefore" "I" (.int f0)) :
    MetFree l (⟨"com/example/rank_merge/rankmerge/io/TopicBlock", "getLinesBefore", "()I"⟩ : MethodName) (head1 (Jvm.Cond.code (⟨"com/example/rank_merge/rankmerge/io/TopicBlock", "getLinesBefore", "()I"⟩ : MethodName) prog_58_method_5_code 1 (some .int) :: ws) ({ frames := 0, cells := 0, slots := 0, locals := 0 } : Room)) (fun a U => a = #[(.ref d0)] ∧ Z.Warmed39 U.vm ∧ U.heap = h0) (fun _ _ _ _ _ => True) (fun _ U o U' => ∃ v L, o = .returned v ∧ Q6 Z d0 f0 h0 n0 v U'.heap L ∧ FrameEnd U o U' L ({ frames := 0, cells := 0, slots := 0, locals := 0 } : Room).cells ({ frames := 0, cells := 0, slots := 0, locals := 0 } : Room).slots) := by
  refine MetFree.of_bodySF (plainFor_of_name pn_com_example_rank_merge_rankmerge_io_TopicBlock) hisR ?_
  intro p e s m args below meth c s₁ Bd hml0 hP hK
  obtain ⟨rfl, hZ, hh⟩ := hP
  have hx := Bd.exec
  have hby := Bd.bytes
  have hlk : meth.locks = false := Bd.notSynchronized
  have hml : c.maxLocals = 1 := hml0
  have hown : s.vm.findClass "com/example/rank_merge/rankmerge/io/TopicBlock" = some m.cls := findClass_of_methodNamed Bd.named
  have hnm := (name_of_methodNamed Bd.named Bd.method).1
  have X0 : Stand p l e ({ frames := 0, cells := 0, slots := 0, locals := 0 } : Room) s m #[(.ref d0)] below meth c s₁ [] 0 0 := Stand.of_body Bd
  have e0 : s₁.heap = h0 := by rw [← hh, Bd.state]; rfl
  have N0 := Fr.nil n0
  have K0 : Keep h0 h0 [] := Keep.refl h0 _
  show Wp p e below (Out s (Q6 Z d0 f0 h0 n0) ({ frames := 0, cells := 0, slots := 0, locals := 0 } : Room).cells ({ frames := 0, cells := 0, slots := 0, locals := 0 } : Room).slots) (s₁.setTop (entryFrame m #[(.ref d0)] 1))
  rw [ef_6_0]
  show Wp p e below _ (s₁.setTop (mkF m 0 #[.val (.ref d0)] []))
  refine Wp.step (fun t k => XS.aloadN X0.here hx rfl (hb hby d6_0) rfl rfl k) ?_
  show Wp p e below _ (s₁.setTop (mkF m 1 #[.val (.ref d0)] [(.ref d0)]))
  obtain ⟨T1, X1, e1, st1⟩ := getF X0 hx hZ hown (host := "") (Or.inl (hw _ (List.mem_of_getElem? (i := 11) rfl))) Via.refl e0 F_f (g := (mkF m 1 #[.val (.ref d0)] [(.ref d0)])) rfl rfl (hb hby d6_1)
  refine Wp.step st1 ?_
  show Wp p e below _ (T1.setTop (mkF m 4 #[.val (.ref d0)] [(.int f0)]))
  refine Wp.retI X1 hx Bd.returns (hb hby d6_4) hlk ?_ (by decide) (by decide)
  show Q6 Z d0 f0 h0 n0 (some (.int f0)) T1.heap _
  rw [e1]
  exact ⟨rfl, N0, rfl⟩
theorem own_n0 {n : Int32} (h0 : 0 ≤ n.toInt) (h1 : n < 1) : (0 : Int32) = n := by
  rw [Int32.lt_iff_toInt_lt] at h1; rw [← Int32.toInt_inj]; have e : (1 : Int32).toInt = 1 := by decide
  have e0 : (0 : Int32).toInt = 0 := by decide
  omega
theorem own_n1 {n : Int32} (h1 : ¬ n < 1) (h2 : n < 2) : (0 : Int32) + 1 = n := by
  rw [Int32.lt_iff_toInt_lt] at h1 h2; rw [← Int32.toInt_inj]; have e : (1 : Int32).toInt = 1 := by decide
  have e0 : (2 : Int32).toInt = 2 := by decide
  have e1 : ((0 : Int32) + 1).toInt = 1 := by decide
  omega
theorem own_n2 {n : Int32} (h1 : ¬ n < 2) (h2 : n < 3) : (0 : Int32) + 1 + 1 = n := by
  rw [Int32.lt_iff_toInt_lt] at h1 h2; rw [← Int32.toInt_inj]; have e : (2 : Int32).toInt = 2 := by decide
  have e0 : (3 : Int32).toInt = 3 := by decide
  have e1 : ((0 : Int32) + 1 + 1).toInt = 2 := by decide
  omega
theorem own_n3 {n : Int32} (h1 : ¬ n < 3) (h2 : n.toInt ≤ 3) : (0 : Int32) + 1 + 1 + 1 = n := by
  rw [Int32.lt_iff_toInt_lt] at h1; rw [← Int32.toInt_inj]
  have e0 : (3 : Int32).toInt = 3 := by decide
  have e1 : ((0 : Int32) + 1 + 1 + 1).toInt = 3 := by decide
  omega
theorem own_lo {n a b : Int32} (h : n < a) (q : a < b) : n < b := by
  rw [Int32.lt_iff_toInt_lt] at h q ⊢; omega
theorem pd_28JI29V : parseMethodDescriptor "(JI)V" = some ⟨[.long, .int], none⟩ := by decide +kernel
theorem pd_2829J : parseMethodDescriptor "()J" = some ⟨[], some .long⟩ := by decide +kernel
theorem pd_2829I : parseMethodDescriptor "()I" = some ⟨[], some .int⟩ := by decide +kernel
theorem pd_28J29V : parseMethodDescriptor "(J)V" = some ⟨[.long], none⟩ := by decide +kernel
theorem pn_com_example_rank_merge_rankmerge_io_TopicBlockAddPinLaw : plainName "com/example/rank_merge/rankmerge/io/TopicBlockAddPinLaw" = true := by first | (simp [plainName, overriddenIn]; done) | decide +kernel
theorem ef_0_000000 (m : MethodId) (x0 : Int64) (x1 : Int32) (x2 : Int64) (x3 : Int64) (x4 : Int64) (x5 : Int32) : entryFrame m #[(.long x0), (.int x1), (.long x2), (.long x3), (.long x4), (.int x5)] maxLocals = mkF m 0 #[.val (.long x0), .second, .val (.int x1), .val (.long x2), .second, .val (.long x3), .second, .val (.long x4), .second, .val (.int x5), .unset, .unset, .unset, .unset] [] := by first | (simp [entryFrame, mkF, argsToLocals, Value.category, maxLocals]; done) | rfl
def Q0 (Z : State) (q0 : Int64) (p2 : Int32) (q3 : Int64) (q5 : Int64) (q7 : Int64) (p9 : Int32) (h0 : Heap) (n0 : Nat) (v : Option Value) (h : Heap) (L : List Loc) : Prop := v = some (.int 1) ∧ Fr n0 L
set_option maxRecDepth 65536 in
set_option maxHeartbeats 40000000 in
theorem rm0 (l : Launch) (Z : State) (a0 : Array Value) (hw : ∀ d ∈ tables_1, d.before a0 Z = true) (ws : List Jvm.Cond) (q0 : Int64) (p2 : Int32) (q3 : Int64) (q5 : Int64) (q7 : Int64) (p9 : Int32) (h0 : Heap) (n0 : Nat) (Z0 : n0 ≤ h0.size) :
    MetFree l x (head1 (Jvm.Cond.code x code maxLocals ret :: ws) room_1) (fun a U => a = #[(.long q0), (.int p2), (.long q3), (.long q5), (.long q7), (.int p9)] ∧ Z.Warmed39 U.vm ∧ U.heap = h0) (fun _ _ _ _ _ => True) (fun _ U o U' => ∃ v L, o = .returned v ∧ Q0 Z q0 p2 q3 q5 q7 p9 h0 n0 v U'.heap L ∧ FrameEnd U o U' L room_1.cells room_1.slots) := by
  refine MetFree.of_bodySF (plainFor_of_name pn_com_example_rank_merge_rankmerge_io_TopicBlockAddPinLaw) hisR ?_
  intro p e s m args below meth c s₁ Bd hml0 hP hK
  obtain ⟨rfl, hZ, hh⟩ := hP
  have hx := Bd.exec
  have hby := Bd.bytes
  have hlk : meth.locks = false := Bd.notSynchronized
  have hml : c.maxLocals = 14 := hml0
  have hown : s.vm.findClass "com/example/rank_merge/rankmerge/io/TopicBlockAddPinLaw" = some m.cls := findClass_of_methodNamed Bd.named
  have hnm := (name_of_methodNamed Bd.named Bd.method).1
  have X0 : Stand p l e room_1 s m #[(.long q0), (.int p2), (.long q3), (.long q5), (.long q7), (.int p9)] below meth c s₁ [] 0 0 := Stand.of_body Bd
  have e0 : s₁.heap = h0 := by rw [← hh, Bd.state]; rfl
  have N0 := Fr.nil n0
  have K0 : Keep h0 h0 [] := Keep.refl h0 _
  show Wp p e below (Out s (Q0 Z q0 p2 q3 q5 q7 p9 h0 n0) room_1.cells room_1.slots) (s₁.setTop (entryFrame m #[(.long q0), (.int p2), (.long q3), (.long q5), (.long q7), (.int p9)] maxLocals))
  rw [ef_0_000000]
  show Wp p e below _ (s₁.setTop (mkF m 0 #[.val (.long q0), .second, .val (.int p2), .val (.long q3), .second, .val (.long q5), .second, .val (.long q7), .second, .val (.int p9), .unset, .unset, .unset, .unset] []))
  obtain ⟨T1, h1, X1, e1, E1, A1, D1, -, st1⟩ := newO X0 hx hZ hown (hw _ (List.mem_of_getElem? (i := 0) rfl)) (hw _ (List.mem_of_getElem? (i := 1) rfl)) (hw _ (List.mem_of_getElem? (i := 2) rfl)) e0 (g := (mkF m 0 #[.val (.long q0), .second, .val (.int p2), .val (.long q3), .second, .val (.long q5), .second, .val (.long q7), .second, .val (.int p9), .unset, .unset, .unset, .unset] [])) rfl (hb hby at_0) (by decide) (by decide)
  obtain ⟨b1, g1⟩ : ∃ z, z = h0.size := ⟨_, rfl⟩
  rw [← g1] at A1 D1 st1
  have g_b1 : n0 ≤ b1 := Nat.le_trans (Nat.le_trans Z0 K0.1) (Nat.le_of_eq g1.symm)
  have sz_b1 : h0.size ≤ b1 := Nat.le_trans K0.1 (Nat.le_of_eq g1.symm)
  have K2 := K0.ext E1
  have c3 : Fld Z h1 b1 "com/example/rank_merge/rankmerge/io/TopicBlock" "start" "J" (.long (0 : Int64)) := D1 (Or.inr (hw _ (List.mem_of_getElem? (i := 10) rfl))) (ty := .long) (by decide)
  have c4 : Fld Z h1 b1 "com/example/rank_merge/rankmerge/io/TopicBlock" "linesBefore" "I" (.int (0 : Int32)) := D1 (Or.inr (hw _ (List.mem_of_getElem? (i := 12) rfl))) (ty := .int) (by decide)
  have c5 : Fld Z h1 b1 "com/example/rank_merge/rankmerge/io/TopicBlock" "end" "J" (.long (0 : Int64)) := D1 (Or.inl (hw _ (List.mem_of_getElem? (i := 14) rfl))) (ty := .long) (by decide)
  have c6 : Fld Z h1 b1 "com/example/rank_merge/rankmerge/io/TopicBlock" "records" "I" (.int (0 : Int32)) := D1 (Or.inl (hw _ (List.mem_of_getElem? (i := 26) rfl))) (ty := .int) (by decide)
  refine Wp.step st1 ?_
  show Wp p e below _ (T1.setTop (mkF m 3 #[.val (.long q0), .second, .val (.int p2), .val (.long q3), .second, .val (.long q5), .second, .val (.long q7), .second, .val (.int p9), .unset, .unset, .unset, .unset] [(.ref b1)]))
  refine Wp.step (fun t k => XS.dup X1.here hx rfl (hb hby at_3) rfl rfl k) ?_
  show Wp p e below _ (T1.setTop (mkF m 4 #[.val (.long q0), .second, .val (.int p2), .val (.long q3), .second, .val (.long q5), .second, .val (.long q7), .second, .val (.int p9), .unset, .unset, .unset, .unset] [(.ref b1), (.ref b1)]))
  refine Wp.step (fun t k => XS.lloadN X1.here hx rfl (hb hby at_4) rfl k) ?_
  show Wp p e below _ (T1.setTop (mkF m 5 #[.val (.long q0), .second, .val (.int p2), .val (.long q3), .second, .val (.long q5), .second, .val (.long q7), .second, .val (.int p9), .unset, .unset, .unset, .unset] [(.long q0), (.ref b1), (.ref b1)]))
  refine Wp.step (fun t k => XS.iloadN X1.here hx rfl (hb hby at_5) rfl k) ?_
  show Wp p e below _ (T1.setTop (mkF m 6 #[.val (.long q0), .second, .val (.int p2), .val (.long q3), .second, .val (.long q5), .second, .val (.long q7), .second, .val (.int p9), .unset, .unset, .unset, .unset] [(.int p2), (.long q0), (.ref b1), (.ref b1)]))
  obtain ⟨_, _, ⟨T7, L7, k7, n7⟩, -, X7, ⟨Lc7, hQ7, l7, y7, z7⟩, st7⟩ := X1.specialBack hx (y := (⟨"com/example/rank_merge/rankmerge/io/TopicBlock", "<init>", "(JI)V"⟩ : MethodName)) rfl hown (mvT hZ (hw _ (List.mem_of_getElem? (i := 3) rfl))) (mvT hZ (hw _ (List.mem_of_getElem? (i := 4) rfl))) (mvT hZ (hw _ (List.mem_of_getElem? (i := 5) rfl))) (by decide) (backOf (W := 1) (rm1 l Z a0 hw [] b1 q0 p2  h1 n0 (Nat.le_trans Z0 K2.1) g_b1 A1 c3 c4 c5 c6 ) hZ (hw _ (List.mem_of_getElem? (i := 5) rfl)) (hw _ (List.mem_of_getElem? (i := 2) rfl)) (by decide) (by decide)) (g := (mkF m 6 #[.val (.long q0), .second, .val (.int p2), .val (.long q3), .second, .val (.long q5), .second, .val (.long q7), .second, .val (.int p9), .unset, .unset, .unset, .unset] [(.int p2), (.long q0), (.ref b1), (.ref b1)])) rfl (by rw [hml]; rfl) (Steps.refl _) (a := b1) (argsL := [(.long q0), (.int p2)]) (rest := [(.ref b1)]) (lenOf pd_28JI29V rfl) rfl (by show 2 * 0 + _ ≤ _; exact Nat.le_of_eq rfl) (hb hby at_6) (fun _ _ => ⟨rfl, e1, (by decide : 1 + 0 ≤ _), (by decide : 4 + 0 ≤ _)⟩)
  dsimp only [Pt.U, Pt.locs, Pt.cells, Pt.slots] at X7 l7 y7 z7 st7 hQ7
  subst l7 y7 z7
  obtain ⟨h7, e7⟩ : ∃ z, T7.heap = z := ⟨_, rfl⟩
  rw [e7] at hQ7
  obtain ⟨rfl, N7q, Kc7, cE7, c7_start, c7_linesBefore, c7_end, c7_records⟩ := hQ7
  have N7 := Fr.app N0 N7q
  have c8 := A1.keep Kc7
  have K7 := K2.trans Kc7 (allS (Or.inr sz_b1) all0)
  refine Wp.go st7 ?_
  show Wp p e below _ (T7.setTop (mkF m 9 #[.val (.long q0), .second, .val (.int p2), .val (.long q3), .second, .val (.long q5), .second, .val (.long q7), .second, .val (.int p9), .unset, .unset, .unset, .unset] [(.ref b1)]))
  refine Wp.step (fun t k => XS.astore X7.here hx rfl (hb hby at_9) rfl rfl (l' := #[.val (.long q0), .second, .val (.int p2), .val (.long q3), .second, .val (.long q5), .second, .val (.long q7), .second, .val (.int p9), .val (.ref b1), .unset, .unset, .unset]) rfl k) ?_
  show Wp p e below _ (T7.setTop (mkF m 11 #[.val (.long q0), .second, .val (.int p2), .val (.long q3), .second, .val (.long q5), .second, .val (.long q7), .second, .val (.int p9), .val (.ref b1), .unset, .unset, .unset] []))
  refine Wp.step (fun t k => XS.iload X7.here hx rfl (hb hby at_11) rfl k) ?_
  show Wp p e below _ (T7.setTop (mkF m 13 #[.val (.long q0), .second, .val (.int p2), .val (.long q3), .second, .val (.long q5), .second, .val (.long q7), .second, .val (.int p9), .val (.ref b1), .unset, .unset, .unset] [(.int p9)]))
  refine Wp.step (fun t k => XS.iconst X7.here hx rfl (hb hby at_13) k) ?_
  show Wp p e below _ (T7.setTop (mkF m 14 #[.val (.long q0), .second, .val (.int p2), .val (.long q3), .second, .val (.long q5), .second, .val (.long q7), .second, .val (.int p9), .val (.ref b1), .unset, .unset, .unset] [(.int (3 : Int32)), (.int p9)]))
  refine Wp.step (fun t k => XS.iand X7.here hx rfl (hb hby at_14) rfl k) ?_
  show Wp p e below _ (T7.setTop (mkF m 15 #[.val (.long q0), .second, .val (.int p2), .val (.long q3), .second, .val (.long q5), .second, .val (.long q7), .second, .val (.int p9), .val (.ref b1), .unset, .unset, .unset] [(.int (p9 &&& (3 : Int32)))]))
  generalize hz_n1 : (p9 &&& (3 : Int32)) = n1
  refine Wp.step (fun t k => XS.istore X7.here hx rfl (hb hby at_15) rfl (l' := #[.val (.long q0), .second, .val (.int p2), .val (.long q3), .second, .val (.long q5), .second, .val (.long q7), .second, .val (.int p9), .val (.ref b1), .val (.int n1), .unset, .unset]) rfl k) ?_
  show Wp p e below _ (T7.setTop (mkF m 17 #[.val (.long q0), .second, .val (.int p2), .val (.long q3), .second, .val (.long q5), .second, .val (.long q7), .second, .val (.int p9), .val (.ref b1), .val (.int n1), .unset, .unset] []))
  have hlo : 0 ≤ n1.toInt := by rw [← hz_n1]; exact (c_and p9 3 (by decide)).1
  have hhi : n1.toInt ≤ 3 := by rw [← hz_n1]; exact (c_and p9 3 (by decide)).2
  refine Wp.step (fun t k => XS.lloadN X7.here hx rfl (hb hby at_17) rfl k) ?_
  show Wp p e below _ (T7.setTop (mkF m 18 #[.val (.long q0), .second, .val (.int p2), .val (.long q3), .second, .val (.long q5), .second, .val (.long q7), .second, .val (.int p9), .val (.ref b1), .val (.int n1), .unset, .unset] [(.long q0)]))
  refine Wp.step (fun t k => XS.lstore X7.here hx rfl (hb hby at_18) rfl (l' := #[.val (.long q0), .second, .val (.int p2), .val (.long q3), .second, .val (.long q5), .second, .val (.long q7), .second, .val (.int p9), .val (.ref b1), .val (.int n1), .val (.long q0), .second]) rfl k) ?_
  show Wp p e below _ (T7.setTop (mkF m 20 #[.val (.long q0), .second, .val (.int p2), .val (.long q3), .second, .val (.long q5), .second, .val (.long q7), .second, .val (.int p9), .val (.ref b1), .val (.int n1), .val (.long q0), .second] []))
  refine Wp.step (fun t k => XS.iload X7.here hx rfl (hb hby at_20) rfl k) ?_
  show Wp p e below _ (T7.setTop (mkF m 22 #[.val (.long q0), .second, .val (.int p2), .val (.long q3), .second, .val (.long q5), .second, .val (.long q7), .second, .val (.int p9), .val (.ref b1), .val (.int n1), .val (.long q0), .second] [(.int n1)]))
  refine Wp.step (fun t k => XS.iconst X7.here hx rfl (hb hby at_22) k) ?_
  show Wp p e below _ (T7.setTop (mkF m 23 #[.val (.long q0), .second, .val (.int p2), .val (.long q3), .second, .val (.long q5), .second, .val (.long q7), .second, .val (.int p9), .val (.ref b1), .val (.int n1), .val (.long q0), .second] [(.int (1 : Int32)), (.int n1)]))
  by_cases hc9 : n1 < (1 : Int32)
  · refine Wp.step (fun t k => XS.icmpYes X7.here hx rfl (pc0 := 23) (pc' := 35) rfl (hb hby at_23) rfl (tlt hc9).1 (by decide) (by decide) k) ?_
    show Wp p e below _ (T7.setTop (mkF m 35 #[.val (.long q0), .second, .val (.int p2), .val (.long q3), .second, .val (.long q5), .second, .val (.long q7), .second, .val (.int p9), .val (.ref b1), .val (.int n1), .val (.long q0), .second] []))
    refine Wp.step (fun t k => XS.iload X7.here hx rfl (hb hby at_35) rfl k) ?_
    show Wp p e below _ (T7.setTop (mkF m 37 #[.val (.long q0), .second, .val (.int p2), .val (.long q3), .second, .val (.long q5), .second, .val (.long q7), .second, .val (.int p9), .val (.ref b1), .val (.int n1), .val (.long q0), .second] [(.int n1)]))
    refine Wp.step (fun t k => XS.iconst X7.here hx rfl (hb hby at_37) k) ?_
    show Wp p e below _ (T7.setTop (mkF m 38 #[.val (.long q0), .second, .val (.int p2), .val (.long q3), .second, .val (.long q5), .second, .val (.long q7), .second, .val (.int p9), .val (.ref b1), .val (.int n1), .val (.long q0), .second] [(.int (2 : Int32)), (.int n1)]))
    refine Wp.step (fun t k => XS.icmpYes X7.here hx rfl (pc0 := 38) (pc' := 52) rfl (hb hby at_38) rfl (tlt (show n1 < (2 : Int32) from (own_lo hc9 (by decide)))).1 (by decide) (by decide) k) ?_
    show Wp p e below _ (T7.setTop (mkF m 52 #[.val (.long q0), .second, .val (.int p2), .val (.long q3), .second, .val (.long q5), .second, .val (.long q7), .second, .val (.int p9), .val (.ref b1), .val (.int n1), .val (.long q0), .second] []))
    refine Wp.step (fun t k => XS.iload X7.here hx rfl (hb hby at_52) rfl k) ?_
    show Wp p e below _ (T7.setTop (mkF m 54 #[.val (.long q0), .second, .val (.int p2), .val (.long q3), .second, .val (.long q5), .second, .val (.long q7), .second, .val (.int p9), .val (.ref b1), .val (.int n1), .val (.long q0), .second] [(.int n1)]))
    refine Wp.step (fun t k => XS.iconst X7.here hx rfl (hb hby at_54) k) ?_
    show Wp p e below _ (T7.setTop (mkF m 55 #[.val (.long q0), .second, .val (.int p2), .val (.long q3), .second, .val (.long q5), .second, .val (.long q7), .second, .val (.int p9), .val (.ref b1), .val (.int n1), .val (.long q0), .second] [(.int (3 : Int32)), (.int n1)]))
    refine Wp.step (fun t k => XS.icmpYes X7.here hx rfl (pc0 := 55) (pc' := 69) rfl (hb hby at_55) rfl (tlt (show n1 < (3 : Int32) from (own_lo hc9 (by decide)))).1 (by decide) (by decide) k) ?_
    show Wp p e below _ (T7.setTop (mkF m 69 #[.val (.long q0), .second, .val (.int p2), .val (.long q3), .second, .val (.long q5), .second, .val (.long q7), .second, .val (.int p9), .val (.ref b1), .val (.int n1), .val (.long q0), .second] []))
    refine Wp.step (fun t k => XS.aload X7.here hx rfl (hb hby at_69) rfl rfl k) ?_
    show Wp p e below _ (T7.setTop (mkF m 71 #[.val (.long q0), .second, .val (.int p2), .val (.long q3), .second, .val (.long q5), .second, .val (.long q7), .second, .val (.int p9), .val (.ref b1), .val (.int n1), .val (.long q0), .second] [(.ref b1)]))
    obtain ⟨cq12, kq12, q12a, q12b, q12c⟩ := isOf hZ e7 cE7
    obtain ⟨_, _, ⟨T12, L12, k12, n12⟩, -, X12, ⟨Lc12, hQ12, l12, y12, z12⟩, st12⟩ := X7.virtualBack hx (y := (⟨"com/example/rank_merge/rankmerge/io/TopicBlock", "getEnd", "()J"⟩ : MethodName)) (z := (⟨"com/example/rank_merge/rankmerge/io/TopicBlock", "getEnd", "()J"⟩ : MethodName)) hown (mvT hZ (hw _ (List.mem_of_getElem? (i := 15) rfl))) (mvT hZ (hw _ (List.mem_of_getElem? (i := 16) rfl))) (notFace_of_selects (args := #[]) (mvT hZ (hw _ (List.mem_of_getElem? (i := 18) rfl)))) (mvT hZ (hw _ (List.mem_of_getElem? (i := 18) rfl))) (mvT hZ (hw _ (List.mem_of_getElem? (i := 17) rfl))) (by decide) (backOf (W := 0) (rm3 l Z a0 hw [] b1 q0 h7 n0 (Nat.le_trans Z0 K7.1) c7_end) hZ (hw _ (List.mem_of_getElem? (i := 19) rfl)) (hw _ (List.mem_of_getElem? (i := 2) rfl)) (by decide) (by decide)) q12a q12c (g := (mkF m 71 #[.val (.long q0), .second, .val (.int p2), .val (.long q3), .second, .val (.long q5), .second, .val (.long q7), .second, .val (.int p9), .val (.ref b1), .val (.int n1), .val (.long q0), .second] [(.ref b1)])) rfl (by rw [hml]; rfl) (Steps.refl _) (argsL := []) (rest := []) (lenOf pd_2829J rfl) rfl (by show 2 * 0 + _ ≤ _; exact Nat.le_of_eq rfl) (hb hby at_71) (fun _ _ => ⟨rfl, e7, (by decide : 1 + 0 ≤ _), (by decide : 4 + 0 ≤ _)⟩)
    dsimp only [Pt.U, Pt.locs, Pt.cells, Pt.slots] at X12 l12 y12 z12 st12 hQ12
    subst l12 y12 z12
    obtain ⟨rfl, N12q, e12⟩ := hQ12
    have N12 := Fr.app N7 N12q
    refine Wp.go st12 ?_
    show Wp p e below _ (T12.setTop (mkF m 74 #[.val (.long q0), .second, .val (.int p2), .val (.long q3), .second, .val (.long q5), .second, .val (.long q7), .second, .val (.int p9), .val (.ref b1), .val (.int n1), .val (.long q0), .second] [(.long q0)]))
    refine Wp.step (fun t k => XS.lload X12.here hx rfl (hb hby at_74) rfl k) ?_
    show Wp p e below _ (T12.setTop (mkF m 76 #[.val (.long q0), .second, .val (.int p2), .val (.long q3), .second, .val (.long q5), .second, .val (.long q7), .second, .val (.int p9), .val (.ref b1), .val (.int n1), .val (.long q0), .second] [(.long q0), (.long q0)]))
    refine Wp.step (fun t k => XS.lcmp X12.here hx rfl (hb hby at_76) rfl k) ?_
    show Wp p e below _ (T12.setTop (mkF m 77 #[.val (.long q0), .second, .val (.int p2), .val (.long q3), .second, .val (.long q5), .second, .val (.long q7), .second, .val (.int p9), .val (.ref b1), .val (.int n1), .val (.long q0), .second] [(.int (lcmpW q0 q0))]))
    refine Wp.step (fun t k => XS.ifNo X12.here hx rfl (hb hby at_77) rfl ((if0 _ _).trans (teq (show (lcmpW q0 q0) = (0 : Int32) from (lw_eq _ _).mpr rfl)).2) k) ?_
    show Wp p e below _ (T12.setTop (mkF m 80 #[.val (.long q0), .second, .val (.int p2), .val (.long q3), .second, .val (.long q5), .second, .val (.long q7), .second, .val (.int p9), .val (.ref b1), .val (.int n1), .val (.long q0), .second] []))
    refine Wp.step (fun t k => XS.aload X12.here hx rfl (hb hby at_80) rfl rfl k) ?_
    show Wp p e below _ (T12.setTop (mkF m 82 #[.val (.long q0), .second, .val (.int p2), .val (.long q3), .second, .val (.long q5), .second, .val (.long q7), .second, .val (.int p9), .val (.ref b1), .val (.int n1), .val (.long q0), .second] [(.ref b1)]))
    obtain ⟨cq14, kq14, q14a, q14b, q14c⟩ := isOf hZ e12 cE7
    obtain ⟨_, _, ⟨T14, L14, k14, n14⟩, -, X14, ⟨Lc14, hQ14, l14, y14, z14⟩, st14⟩ := X12.virtualBack hx (y := (⟨"com/example/rank_merge/rankmerge/io/TopicBlock", "getRecords", "()I"⟩ : MethodName)) (z := (⟨"com/example/rank_merge/rankmerge/io/TopicBlock", "getRecords", "()I"⟩ : MethodName)) hown (mvT hZ (hw _ (List.mem_of_getElem? (i := 20) rfl))) (mvT hZ (hw _ (List.mem_of_getElem? (i := 21) rfl))) (notFace_of_selects (args := #[]) (mvT hZ (hw _ (List.mem_of_getElem? (i := 23) rfl)))) (mvT hZ (hw _ (List.mem_of_getElem? (i := 23) rfl))) (mvT hZ (hw _ (List.mem_of_getElem? (i := 22) rfl))) (by decide) (backOf (W := 0) (rm4 l Z a0 hw [] b1 (0 : Int32) h7 n0 (Nat.le_trans Z0 K7.1) c7_records) hZ (hw _ (List.mem_of_getElem? (i := 24) rfl)) (hw _ (List.mem_of_getElem? (i := 2) rfl)) (by decide) (by decide)) q14a q14c (g := (mkF m 82 #[.val (.long q0), .second, .val (.int p2), .val (.long q3), .second, .val (.long q5), .second, .val (.long q7), .second, .val (.int p9), .val (.ref b1), .val (.int n1), .val (.long q0), .second] [(.ref b1)])) rfl (by rw [hml]; rfl) (Steps.refl _) (argsL := []) (rest := []) (lenOf pd_2829I rfl) rfl (by show 2 * 0 + _ ≤ _; exact Nat.le_of_eq rfl) (hb hby at_82) (fun _ _ => ⟨rfl, e12, (by decide : 1 + 0 ≤ _), (by decide : 4 + 0 ≤ _)⟩)
    dsimp only [Pt.U, Pt.locs, Pt.cells, Pt.slots] at X14 l14 y14 z14 st14 hQ14
    subst l14 y14 z14
    obtain ⟨rfl, N14q, e14⟩ := hQ14
    have N14 := Fr.app N12 N14q
    refine Wp.go st14 ?_
    show Wp p e below _ (T14.setTop (mkF m 85 #[.val (.long q0), .second, .val (.int p2), .val (.long q3), .second, .val (.long q5), .second, .val (.long q7), .second, .val (.int p9), .val (.ref b1), .val (.int n1), .val (.long q0), .second] [(.int (0 : Int32))]))
    refine Wp.step (fun t k => XS.iload X14.here hx rfl (hb hby at_85) rfl k) ?_
    show Wp p e below _ (T14.setTop (mkF m 87 #[.val (.long q0), .second, .val (.int p2), .val (.long q3), .second, .val (.long q5), .second, .val (.long q7), .second, .val (.int p9), .val (.ref b1), .val (.int n1), .val (.long q0), .second] [(.int n1), (.int (0 : Int32))]))
    refine Wp.step (fun t k => XS.icmpNo X14.here hx rfl (hb hby at_87) rfl (teq (show (0 : Int32) = n1 from own_n0 hlo hc9)).2 k) ?_
    show Wp p e below _ (T14.setTop (mkF m 90 #[.val (.long q0), .second, .val (.int p2), .val (.long q3), .second, .val (.long q5), .second, .val (.long q7), .second, .val (.int p9), .val (.ref b1), .val (.int n1), .val (.long q0), .second] []))
    refine Wp.step (fun t k => XS.aload X14.here hx rfl (hb hby at_90) rfl rfl k) ?_
    show Wp p e below _ (T14.setTop (mkF m 92 #[.val (.long q0), .second, .val (.int p2), .val (.long q3), .second, .val (.long q5), .second, .val (.long q7), .second, .val (.int p9), .val (.ref b1), .val (.int n1), .val (.long q0), .second] [(.ref b1)]))
    obtain ⟨cq16, kq16, q16a, q16b, q16c⟩ := isOf hZ e14 cE7
    obtain ⟨_, _, ⟨T16, L16, k16, n16⟩, -, X16, ⟨Lc16, hQ16, l16, y16, z16⟩, st16⟩ := X14.virtualBack hx (y := (⟨"com/example/rank_merge/rankmerge/io/TopicBlock", "getStart", "()J"⟩ : MethodName)) (z := (⟨"com/example/rank_merge/rankmerge/io/TopicBlock", "getStart", "()J"⟩ : MethodName)) hown (mvT hZ (hw _ (List.mem_of_getElem? (i := 27) rfl))) (mvT hZ (hw _ (List.mem_of_getElem? (i := 28) rfl))) (notFace_of_selects (args := #[]) (mvT hZ (hw _ (List.mem_of_getElem? (i := 30) rfl)))) (mvT hZ (hw _ (List.mem_of_getElem? (i := 30) rfl))) (mvT hZ (hw _ (List.mem_of_getElem? (i := 29) rfl))) (by decide) (backOf (W := 0) (rm5 l Z a0 hw [] b1 q0 h7 n0 (Nat.le_trans Z0 K7.1) c7_start) hZ (hw _ (List.mem_of_getElem? (i := 31) rfl)) (hw _ (List.mem_of_getElem? (i := 2) rfl)) (by decide) (by decide)) q16a q16c (g := (mkF m 92 #[.val (.long q0), .second, .val (.int p2), .val (.long q3), .second, .val (.long q5), .second, .val (.long q7), .second, .val (.int p9), .val (.ref b1), .val (.int n1), .val (.long q0), .second] [(.ref b1)])) rfl (by rw [hml]; rfl) (Steps.refl _) (argsL := []) (rest := []) (lenOf pd_2829J rfl) rfl (by show 2 * 0 + _ ≤ _; exact Nat.le_of_eq rfl) (hb hby at_92) (fun _ _ => ⟨rfl, e14, (by decide : 1 + 0 ≤ _), (by decide : 4 + 0 ≤ _)⟩)
    dsimp only [Pt.U, Pt.locs, Pt.cells, Pt.slots] at X16 l16 y16 z16 st16 hQ16
    subst l16 y16 z16
    obtain ⟨rfl, N16q, e16⟩ := hQ16
    have N16 := Fr.app N14 N16q
    refine Wp.go st16 ?_
    show Wp p e below _ (T16.setTop (mkF m 95 #[.val (.long q0), .second, .val (.int p2), .val (.long q3), .second, .val (.long q5), .second, .val (.long q7), .second, .val (.int p9), .val (.ref b1), .val (.int n1), .val (.long q0), .second] [(.long q0)]))
    refine Wp.step (fun t k => XS.lloadN X16.here hx rfl (hb hby at_95) rfl k) ?_
    show Wp p e below _ (T16.setTop (mkF m 96 #[.val (.long q0), .second, .val (.int p2), .val (.long q3), .second, .val (.long q5), .second, .val (.long q7), .second, .val (.int p9), .val (.ref b1), .val (.int n1), .val (.long q0), .second] [(.long q0), (.long q0)]))
    refine Wp.step (fun t k => XS.lcmp X16.here hx rfl (hb hby at_96) rfl k) ?_
    show Wp p e below _ (T16.setTop (mkF m 97 #[.val (.long q0), .second, .val (.int p2), .val (.long q3), .second, .val (.long q5), .second, .val (.long q7), .second, .val (.int p9), .val (.ref b1), .val (.int n1), .val (.long q0), .second] [(.int (lcmpW q0 q0))]))
    refine Wp.step (fun t k => XS.ifNo X16.here hx rfl (hb hby at_97) rfl ((if0 _ _).trans (teq (show (lcmpW q0 q0) = (0 : Int32) from (lw_eq _ _).mpr rfl)).2) k) ?_
    show Wp p e below _ (T16.setTop (mkF m 100 #[.val (.long q0), .second, .val (.int p2), .val (.long q3), .second, .val (.long q5), .second, .val (.long q7), .second, .val (.int p9), .val (.ref b1), .val (.int n1), .val (.long q0), .second] []))
    refine Wp.step (fun t k => XS.aload X16.here hx rfl (hb hby at_100) rfl rfl k) ?_
    show Wp p e below _ (T16.setTop (mkF m 102 #[.val (.long q0), .second, .val (.int p2), .val (.long q3), .second, .val (.long q5), .second, .val (.long q7), .second, .val (.int p9), .val (.ref b1), .val (.int n1), .val (.long q0), .second] [(.ref b1)]))
    obtain ⟨cq18, kq18, q18a, q18b, q18c⟩ := isOf hZ e16 cE7
    obtain ⟨_, _, ⟨T18, L18, k18, n18⟩, -, X18, ⟨Lc18, hQ18, l18, y18, z18⟩, st18⟩ := X16.virtualBack hx (y := (⟨"com/example/rank_merge/rankmerge/io/TopicBlock", "getLinesBefore", "()I"⟩ : MethodName)) (z := (⟨"com/example/rank_merge/rankmerge/io/TopicBlock", "getLinesBefore", "()I"⟩ : MethodName)) hown (mvT hZ (hw _ (List.mem_of_getElem? (i := 32) rfl))) (mvT hZ (hw _ (List.mem_of_getElem? (i := 33) rfl))) (notFace_of_selects (args := #[]) (mvT hZ (hw _ (List.mem_of_getElem? (i := 35) rfl)))) (mvT hZ (hw _ (List.mem_of_getElem? (i := 35) rfl))) (mvT hZ (hw _ (List.mem_of_getElem? (i := 34) rfl))) (by decide) (backOf (W := 0) (rm6 l Z a0 hw [] b1 p2 h7 n0 (Nat.le_trans Z0 K7.1) c7_linesBefore) hZ (hw _ (List.mem_of_getElem? (i := 36) rfl)) (hw _ (List.mem_of_getElem? (i := 2) rfl)) (by decide) (by decide)) q18a q18c (g := (mkF m 102 #[.val (.long q0), .second, .val (.int p2), .val (.long q3), .second, .val (.long q5), .second, .val (.long q7), .second, .val (.int p9), .val (.ref b1), .val (.int n1), .val (.long q0), .second] [(.ref b1)])) rfl (by rw [hml]; rfl) (Steps.refl _) (argsL := []) (rest := []) (lenOf pd_2829I rfl) rfl (by show 2 * 0 + _ ≤ _; exact Nat.le_of_eq rfl) (hb hby at_102) (fun _ _ => ⟨rfl, e16, (by decide : 1 + 0 ≤ _), (by decide : 4 + 0 ≤ _)⟩)
    dsimp only [Pt.U, Pt.locs, Pt.cells, Pt.slots] at X18 l18 y18 z18 st18 hQ18
    subst l18 y18 z18
    obtain ⟨rfl, N18q, e18⟩ := hQ18
    have N18 := Fr.app N16 N18q
    refine Wp.go st18 ?_
    show Wp p e below _ (T18.setTop (mkF m 105 #[.val (.long q0), .second, .val (.int p2), .val (.long q3), .second, .val (.long q5), .second, .val (.long q7), .second, .val (.int p9), .val (.ref b1), .val (.int n1), .val (.long q0), .second] [(.int p2)]))
    refine Wp.step (fun t k => XS.iloadN X18.here hx rfl (hb hby at_105) rfl k) ?_
    show Wp p e below _ (T18.setTop (mkF m 106 #[.val (.long q0), .second, .val (.int p2), .val (.long q3), .second, .val (.long q5), .second, .val (.long q7), .second, .val (.int p9), .val (.ref b1), .val (.int n1), .val (.long q0), .second] [(.int p2), (.int p2)]))
    refine Wp.step (fun t k => XS.icmpNo X18.here hx rfl (hb hby at_106) rfl (teq (show p2 = p2 from rfl)).2 k) ?_
    show Wp p e below _ (T18.setTop (mkF m 109 #[.val (.long q0), .second, .val (.int p2), .val (.long q3), .second, .val (.long q5), .second, .val (.long q7), .second, .val (.int p9), .val (.ref b1), .val (.int n1), .val (.long q0), .second] []))
    refine Wp.step (fun t k => XS.iconst X18.here hx rfl (hb hby at_109) k) ?_
    show Wp p e below _ (T18.setTop (mkF m 110 #[.val (.long q0), .second, .val (.int p2), .val (.long q3), .second, .val (.long q5), .second, .val (.long q7), .second, .val (.int p9), .val (.ref b1), .val (.int n1), .val (.long q0), .second] [(.int (1 : Int32))]))
    refine Wp.step (fun t k => XS.goto X18.here hx rfl (pc0 := 110) (pc' := 114) rfl (hb hby at_110) (by decide) (by decide) k) ?_
    show Wp p e below _ (T18.setTop (mkF m 114 #[.val (.long q0), .second, .val (.int p2), .val (.long q3), .second, .val (.long q5), .second, .val (.long q7), .second, .val (.int p9), .val (.ref b1), .val (.int n1), .val (.long q0), .second] [(.int (1 : Int32))]))
    refine Wp.retN X18 hx (t := .boolean) Bd.returns (by simp) (hb hby at_114) hlk ?_ (by decide) (by decide)
    show Q0 Z q0 p2 q3 q5 q7 p9 h0 n0 (some (.int (nar .boolean (1 : Int32)))) T18.heap _
    rw [e18]
    exact ⟨rfl, N18⟩
  · refine Wp.step (fun t k => XS.icmpNo X7.here hx rfl (hb hby at_23) rfl (flt hc9).1 k) ?_
    show Wp p e below _ (T7.setTop (mkF m 26 #[.val (.long q0), .second, .val (.int p2), .val (.long q3), .second, .val (.long q5), .second, .val (.long q7), .second, .val (.int p9), .val (.ref b1), .val (.int n1), .val (.long q0), .second] []))
    refine Wp.step (fun t k => XS.aload X7.here hx rfl (hb hby at_26) rfl rfl k) ?_
    show Wp p e below _ (T7.setTop (mkF m 28 #[.val (.long q0), .second, .val (.int p2), .val (.long q3), .second, .val (.long q5), .second, .val (.long q7), .second, .val (.int p9), .val (.ref b1), .val (.int n1), .val (.long q0), .second] [(.ref b1)]))
    refine Wp.step (fun t k => XS.lloadN X7.here hx rfl (hb hby at_28) rfl k) ?_
    show Wp p e below _ (T7.setTop (mkF m 29 #[.val (.long q0), .second, .val (.int p2), .val (.long q3), .second, .val (.long q5), .second, .val (.long q7), .second, .val (.int p9), .val (.ref b1), .val (.int n1), .val (.long q0), .second] [(.long q3), (.ref b1)]))
    obtain ⟨cq20, kq20, q20a, q20b, q20c⟩ := isOf hZ e7 cE7
    obtain ⟨_, _, ⟨T20, L20, k20, n20⟩, -, X20, ⟨Lc20, hQ20, l20, y20, z20⟩, st20⟩ := X7.virtualBack hx (y := (⟨"com/example/rank_merge/rankmerge/io/TopicBlock", "add", "(J)V"⟩ : MethodName)) (z := (⟨"com/example/rank_merge/rankmerge/io/TopicBlock", "add", "(J)V"⟩ : MethodName)) hown (mvT hZ (hw _ (List.mem_of_getElem? (i := 37) rfl))) (mvT hZ (hw _ (List.mem_of_getElem? (i := 38) rfl))) (notFace_of_selects (args := #[]) (mvT hZ (hw _ (List.mem_of_getElem? (i := 40) rfl)))) (mvT hZ (hw _ (List.mem_of_getElem? (i := 40) rfl))) (mvT hZ (hw _ (List.mem_of_getElem? (i := 39) rfl))) (by decide) (backOf (W := 0) (rm7 l Z a0 hw [] b1 q3 q0 p2 q0 (0 : Int32) h7 n0 (Nat.le_trans Z0 K7.1) g_b1 cE7 c7_start c7_linesBefore c7_end c7_records ) hZ (hw _ (List.mem_of_getElem? (i := 41) rfl)) (hw _ (List.mem_of_getElem? (i := 2) rfl)) (by decide) (by decide)) q20a q20c (g := (mkF m 29 #[.val (.long q0), .second, .val (.int p2), .val (.long q3), .second, .val (.long q5), .second, .val (.long q7), .second, .val (.int p9), .val (.ref b1), .val (.int n1), .val (.long q0), .second] [(.long q3), (.ref b1)])) rfl (by rw [hml]; rfl) (Steps.refl _) (argsL := [(.long q3)]) (rest := []) (lenOf pd_28J29V rfl) rfl (by show 2 * 0 + _ ≤ _; exact Nat.le_of_eq rfl) (hb hby at_29) (fun _ _ => ⟨rfl, e7, (by decide : 1 + 0 ≤ _), (by decide : 4 + 0 ≤ _)⟩)
    dsimp only [Pt.U, Pt.locs, Pt.cells, Pt.slots] at X20 l20 y20 z20 st20 hQ20
    subst l20 y20 z20
    obtain ⟨h20, e20⟩ : ∃ z, T20.heap = z := ⟨_, rfl⟩
    rw [e20] at hQ20
    obtain ⟨rfl, N20q, Kc20, cE20, c20_start, c20_linesBefore, c20_end, c20_records⟩ := hQ20
    have N20 := Fr.app N7 N20q
    have c21 := cE7.keep Kc20
    have K20 := K7.trans Kc20 (allS (Or.inr sz_b1) all0)
    refine Wp.go st20 ?_
    show Wp p e below _ (T20.setTop (mkF m 32 #[.val (.long q0), .second, .val (.int p2), .val (.long q3), .second, .val (.long q5), .second, .val (.long q7), .second, .val (.int p9), .val (.ref b1), .val (.int n1), .val (.long q0), .second] []))
    refine Wp.step (fun t k => XS.lloadN X20.here hx rfl (hb hby at_32) rfl k) ?_
    show Wp p e below _ (T20.setTop (mkF m 33 #[.val (.long q0), .second, .val (.int p2), .val (.long q3), .second, .val (.long q5), .second, .val (.long q7), .second, .val (.int p9), .val (.ref b1), .val (.int n1), .val (.long q0), .second] [(.long q3)]))
    refine Wp.step (fun t k => XS.lstore X20.here hx rfl (hb hby at_33) rfl (l' := #[.val (.long q0), .second, .val (.int p2), .val (.long q3), .second, .val (.long q5), .second, .val (.long q7), .second, .val (.int p9), .val (.ref b1), .val (.int n1), .val (.long q3), .second]) rfl k) ?_
    show Wp p e below _ (T20.setTop (mkF m 35 #[.val (.long q0), .second, .val (.int p2), .val (.long q3), .second, .val (.long q5), .second, .val (.long q7), .second, .val (.int p9), .val (.ref b1), .val (.int n1), .val (.long q3), .second] []))
    refine Wp.step (fun t k => XS.iload X20.here hx rfl (hb hby at_35) rfl k) ?_
    show Wp p e below _ (T20.setTop (mkF m 37 #[.val (.long q0), .second, .val (.int p2), .val (.long q3), .second, .val (.long q5), .second, .val (.long q7), .second, .val (.int p9), .val (.ref b1), .val (.int n1), .val (.long q3), .second] [(.int n1)]))
    refine Wp.step (fun t k => XS.iconst X20.here hx rfl (hb hby at_37) k) ?_
    show Wp p e below _ (T20.setTop (mkF m 38 #[.val (.long q0), .second, .val (.int p2), .val (.long q3), .second, .val (.long q5), .second, .val (.long q7), .second, .val (.int p9), .val (.ref b1), .val (.int n1), .val (.long q3), .second] [(.int (2 : Int32)), (.int n1)]))
    by_cases hc22 : n1 < (2 : Int32)
    · refine Wp.step (fun t k => XS.icmpYes X20.here hx rfl (pc0 := 38) (pc' := 52) rfl (hb hby at_38) rfl (tlt hc22).1 (by decide) (by decide) k) ?_
      show Wp p e below _ (T20.setTop (mkF m 52 #[.val (.long q0), .second, .val (.int p2), .val (.long q3), .second, .val (.long q5), .second, .val (.long q7), .second, .val (.int p9), .val (.ref b1), .val (.int n1), .val (.long q3), .second] []))
      refine Wp.step (fun t k => XS.iload X20.here hx rfl (hb hby at_52) rfl k) ?_
      show Wp p e below _ (T20.setTop (mkF m 54 #[.val (.long q0), .second, .val (.int p2), .val (.long q3), .second, .val (.long q5), .second, .val (.long q7), .second, .val (.int p9), .val (.ref b1), .val (.int n1), .val (.long q3), .second] [(.int n1)]))
      refine Wp.step (fun t k => XS.iconst X20.here hx rfl (hb hby at_54) k) ?_
      show Wp p e below _ (T20.setTop (mkF m 55 #[.val (.long q0), .second, .val (.int p2), .val (.long q3), .second, .val (.long q5), .second, .val (.long q7), .second, .val (.int p9), .val (.ref b1), .val (.int n1), .val (.long q3), .second] [(.int (3 : Int32)), (.int n1)]))
      refine Wp.step (fun t k => XS.icmpYes X20.here hx rfl (pc0 := 55) (pc' := 69) rfl (hb hby at_55) rfl (tlt (show n1 < (3 : Int32) from (own_lo hc22 (by decide)))).1 (by decide) (by decide) k) ?_
      show Wp p e below _ (T20.setTop (mkF m 69 #[.val (.long q0), .second, .val (.int p2), .val (.long q3), .second, .val (.long q5), .second, .val (.long q7), .second, .val (.int p9), .val (.ref b1), .val (.int n1), .val (.long q3), .second] []))
      refine Wp.step (fun t k => XS.aload X20.here hx rfl (hb hby at_69) rfl rfl k) ?_
      show Wp p e below _ (T20.setTop (mkF m 71 #[.val (.long q0), .second, .val (.int p2), .val (.long q3), .second, .val (.long q5), .second, .val (.long q7), .second, .val (.int p9), .val (.ref b1), .val (.int n1), .val (.long q3), .second] [(.ref b1)]))
      obtain ⟨cq24, kq24, q24a, q24b, q24c⟩ := isOf hZ e20 cE20
      obtain ⟨_, _, ⟨T24, L24, k24, n24⟩, -, X24, ⟨Lc24, hQ24, l24, y24, z24⟩, st24⟩ := X20.virtualBack hx (y := (⟨"com/example/rank_merge/rankmerge/io/TopicBlock", "getEnd", "()J"⟩ : MethodName)) (z := (⟨"com/example/rank_merge/rankmerge/io/TopicBlock", "getEnd", "()J"⟩ : MethodName)) hown (mvT hZ (hw _ (List.mem_of_getElem? (i := 15) rfl))) (mvT hZ (hw _ (List.mem_of_getElem? (i := 16) rfl))) (notFace_of_selects (args := #[]) (mvT hZ (hw _ (List.mem_of_getElem? (i := 18) rfl)))) (mvT hZ (hw _ (List.mem_of_getElem? (i := 18) rfl))) (mvT hZ (hw _ (List.mem_of_getElem? (i := 17) rfl))) (by decide) (backOf (W := 0) (rm3 l Z a0 hw [] b1 q3 h20 n0 (Nat.le_trans Z0 K20.1) c20_end) hZ (hw _ (List.mem_of_getElem? (i := 19) rfl)) (hw _ (List.mem_of_getElem? (i := 2) rfl)) (by decide) (by decide)) q24a q24c (g := (mkF m 71 #[.val (.long q0), .second, .val (.int p2), .val (.long q3), .second, .val (.long q5), .second, .val (.long q7), .second, .val (.int p9), .val (.ref b1), .val (.int n1), .val (.long q3), .second] [(.ref b1)])) rfl (by rw [hml]; rfl) (Steps.refl _) (argsL := []) (rest := []) (lenOf pd_2829J rfl) rfl (by show 2 * 0 + _ ≤ _; exact Nat.le_of_eq rfl) (hb hby at_71) (fun _ _ => ⟨rfl, e20, (by decide : 1 + 0 ≤ _), (by decide : 4 + 0 ≤ _)⟩)
      dsimp only [Pt.U, Pt.locs, Pt.cells, Pt.slots] at X24 l24 y24 z24 st24 hQ24
      subst l24 y24 z24
      obtain ⟨rfl, N24q, e24⟩ := hQ24
      have N24 := Fr.app N20 N24q
      refine Wp.go st24 ?_
      show Wp p e below _ (T24.setTop (mkF m 74 #[.val (.long q0), .second, .val (.int p2), .val (.long q3), .second, .val (.long q5), .second, .val (.long q7), .second, .val (.int p9), .val (.ref b1), .val (.int n1), .val (.long q3), .second] [(.long q3)]))
      refine Wp.step (fun t k => XS.lload X24.here hx rfl (hb hby at_74) rfl k) ?_
      show Wp p e below _ (T24.setTop (mkF m 76 #[.val (.long q0), .second, .val (.int p2), .val (.long q3), .second, .val (.long q5), .second, .val (.long q7), .second, .val (.int p9), .val (.ref b1), .val (.int n1), .val (.long q3), .second] [(.long q3), (.long q3)]))
      refine Wp.step (fun t k => XS.lcmp X24.here hx rfl (hb hby at_76) rfl k) ?_
      show Wp p e below _ (T24.setTop (mkF m 77 #[.val (.long q0), .second, .val (.int p2), .val (.long q3), .second, .val (.long q5), .second, .val (.long q7), .second, .val (.int p9), .val (.ref b1), .val (.int n1), .val (.long q3), .second] [(.int (lcmpW q3 q3))]))
      refine Wp.step (fun t k => XS.ifNo X24.here hx rfl (hb hby at_77) rfl ((if0 _ _).trans (teq (show (lcmpW q3 q3) = (0 : Int32) from (lw_eq _ _).mpr rfl)).2) k) ?_
      show Wp p e below _ (T24.setTop (mkF m 80 #[.val (.long q0), .second, .val (.int p2), .val (.long q3), .second, .val (.long q5), .second, .val (.long q7), .second, .val (.int p9), .val (.ref b1), .val (.int n1), .val (.long q3), .second] []))
      refine Wp.step (fun t k => XS.aload X24.here hx rfl (hb hby at_80) rfl rfl k) ?_
      show Wp p e below _ (T24.setTop (mkF m 82 #[.val (.long q0), .second, .val (.int p2), .val (.long q3), .second, .val (.long q5), .second, .val (.long q7), .second, .val (.int p9), .val (.ref b1), .val (.int n1), .val (.long q3), .second] [(.ref b1)]))
      obtain ⟨cq26, kq26, q26a, q26b, q26c⟩ := isOf hZ e24 cE20
      obtain ⟨_, _, ⟨T26, L26, k26, n26⟩, -, X26, ⟨Lc26, hQ26, l26, y26, z26⟩, st26⟩ := X24.virtualBack hx (y := (⟨"com/example/rank_merge/rankmerge/io/TopicBlock", "getRecords", "()I"⟩ : MethodName)) (z := (⟨"com/example/rank_merge/rankmerge/io/TopicBlock", "getRecords", "()I"⟩ : MethodName)) hown (mvT hZ (hw _ (List.mem_of_getElem? (i := 20) rfl))) (mvT hZ (hw _ (List.mem_of_getElem? (i := 21) rfl))) (notFace_of_selects (args := #[]) (mvT hZ (hw _ (List.mem_of_getElem? (i := 23) rfl)))) (mvT hZ (hw _ (List.mem_of_getElem? (i := 23) rfl))) (mvT hZ (hw _ (List.mem_of_getElem? (i := 22) rfl))) (by decide) (backOf (W := 0) (rm4 l Z a0 hw [] b1 ((0 : Int32) + (1 : Int32)) h20 n0 (Nat.le_trans Z0 K20.1) c20_records) hZ (hw _ (List.mem_of_getElem? (i := 24) rfl)) (hw _ (List.mem_of_getElem? (i := 2) rfl)) (by decide) (by decide)) q26a q26c (g := (mkF m 82 #[.val (.long q0), .second, .val (.int p2), .val (.long q3), .second, .val (.long q5), .second, .val (.long q7), .second, .val (.int p9), .val (.ref b1), .val (.int n1), .val (.long q3), .second] [(.ref b1)])) rfl (by rw [hml]; rfl) (Steps.refl _) (argsL := []) (rest := []) (lenOf pd_2829I rfl) rfl (by show 2 * 0 + _ ≤ _; exact Nat.le_of_eq rfl) (hb hby at_82) (fun _ _ => ⟨rfl, e24, (by decide : 1 + 0 ≤ _), (by decide : 4 + 0 ≤ _)⟩)
      dsimp only [Pt.U, Pt.locs, Pt.cells, Pt.slots] at X26 l26 y26 z26 st26 hQ26
      subst l26 y26 z26
      obtain ⟨rfl, N26q, e26⟩ := hQ26
      have N26 := Fr.app N24 N26q
      refine Wp.go st26 ?_
      show Wp p e below _ (T26.setTop (mkF m 85 #[.val (.long q0), .second, .val (.int p2), .val (.long q3), .second, .val (.long q5), .second, .val (.long q7), .second, .val (.int p9), .val (.ref b1), .val (.int n1), .val (.long q3), .second] [(.int ((0 : Int32) + (1 : Int32)))]))
      refine Wp.step (fun t k => XS.iload X26.here hx rfl (hb hby at_85) rfl k) ?_
      show Wp p e below _ (T26.setTop (mkF m 87 #[.val (.long q0), .second, .val (.int p2), .val (.long q3), .second, .val (.long q5), .second, .val (.long q7), .second, .val (.int p9), .val (.ref b1), .val (.int n1), .val (.long q3), .second] [(.int n1), (.int ((0 : Int32) + (1 : Int32)))]))
      refine Wp.step (fun t k => XS.icmpNo X26.here hx rfl (hb hby at_87) rfl (teq (show ((0 : Int32) + (1 : Int32)) = n1 from own_n1 hc9 hc22)).2 k) ?_
      show Wp p e below _ (T26.setTop (mkF m 90 #[.val (.long q0), .second, .val (.int p2), .val (.long q3), .second, .val (.long q5), .second, .val (.long q7), .second, .val (.int p9), .val (.ref b1), .val (.int n1), .val (.long q3), .second] []))
      refine Wp.step (fun t k => XS.aload X26.here hx rfl (hb hby at_90) rfl rfl k) ?_
      show Wp p e below _ (T26.setTop (mkF m 92 #[.val (.long q0), .second, .val (.int p2), .val (.long q3), .second, .val (.long q5), .second, .val (.long q7), .second, .val (.int p9), .val (.ref b1), .val (.int n1), .val (.long q3), .second] [(.ref b1)]))
      obtain ⟨cq28, kq28, q28a, q28b, q28c⟩ := isOf hZ e26 cE20
      obtain ⟨_, _, ⟨T28, L28, k28, n28⟩, -, X28, ⟨Lc28, hQ28, l28, y28, z28⟩, st28⟩ := X26.virtualBack hx (y := (⟨"com/example/rank_merge/rankmerge/io/TopicBlock", "getStart", "()J"⟩ : MethodName)) (z := (⟨"com/example/rank_merge/rankmerge/io/TopicBlock", "getStart", "()J"⟩ : MethodName)) hown (mvT hZ (hw _ (List.mem_of_getElem? (i := 27) rfl))) (mvT hZ (hw _ (List.mem_of_getElem? (i := 28) rfl))) (notFace_of_selects (args := #[]) (mvT hZ (hw _ (List.mem_of_getElem? (i := 30) rfl)))) (mvT hZ (hw _ (List.mem_of_getElem? (i := 30) rfl))) (mvT hZ (hw _ (List.mem_of_getElem? (i := 29) rfl))) (by decide) (backOf (W := 0) (rm5 l Z a0 hw [] b1 q0 h20 n0 (Nat.le_trans Z0 K20.1) c20_start) hZ (hw _ (List.mem_of_getElem? (i := 31) rfl)) (hw _ (List.mem_of_getElem? (i := 2) rfl)) (by decide) (by decide)) q28a q28c (g := (mkF m 92 #[.val (.long q0), .second, .val (.int p2), .val (.long q3), .second, .val (.long q5), .second, .val (.long q7), .second, .val (.int p9), .val (.ref b1), .val (.int n1), .val (.long q3), .second] [(.ref b1)])) rfl (by rw [hml]; rfl) (Steps.refl _) (argsL := []) (rest := []) (lenOf pd_2829J rfl) rfl (by show 2 * 0 + _ ≤ _; exact Nat.le_of_eq rfl) (hb hby at_92) (fun _ _ => ⟨rfl, e26, (by decide : 1 + 0 ≤ _), (by decide : 4 + 0 ≤ _)⟩)
      dsimp only [Pt.U, Pt.locs, Pt.cells, Pt.slots] at X28 l28 y28 z28 st28 hQ28
      subst l28 y28 z28
      obtain ⟨rfl, N28q, e28⟩ := hQ28
      have N28 := Fr.app N26 N28q
      refine Wp.go st28 ?_
      show Wp p e below _ (T28.setTop (mkF m 95 #[.val (.long q0), .second, .val (.int p2), .val (.long q3), .second, .val (.long q5), .second, .val (.long q7), .second, .val (.int p9), .val (.ref b1), .val (.int n1), .val (.long q3), .second] [(.long q0)]))
      refine Wp.step (fun t k => XS.lloadN X28.here hx rfl (hb hby at_95) rfl k) ?_
      show Wp p e below _ (T28.setTop (mkF m 96 #[.val (.long q0), .second, .val (.int p2), .val (.long q3), .second, .val (.long q5), .second, .val (.long q7), .second, .val (.int p9), .val (.ref b1), .val (.int n1), .val (.long q3), .second] [(.long q0), (.long q0)]))
      refine Wp.step (fun t k => XS.lcmp X28.here hx rfl (hb hby at_96) rfl k) ?_
      show Wp p e below _ (T28.setTop (mkF m 97 #[.val (.long q0), .second, .val (.int p2), .val (.long q3), .second, .val (.long q5), .second, .val (.long q7), .second, .val (.int p9), .val (.ref b1), .val (.int n1), .val (.long q3), .second] [(.int (lcmpW q0 q0))]))
      refine Wp.step (fun t k => XS.ifNo X28.here hx rfl (hb hby at_97) rfl ((if0 _ _).trans (teq (show (lcmpW q0 q0) = (0 : Int32) from (lw_eq _ _).mpr rfl)).2) k) ?_
      show Wp p e below _ (T28.setTop (mkF m 100 #[.val (.long q0), .second, .val (.int p2), .val (.long q3), .second, .val (.long q5), .second, .val (.long q7), .second, .val (.int p9), .val (.ref b1), .val (.int n1), .val (.long q3), .second] []))
      refine Wp.step (fun t k => XS.aload X28.here hx rfl (hb hby at_100) rfl rfl k) ?_
      show Wp p e below _ (T28.setTop (mkF m 102 #[.val (.long q0), .second, .val (.int p2), .val (.long q3), .second, .val (.long q5), .second, .val (.long q7), .second, .val (.int p9), .val (.ref b1), .val (.int n1), .val (.long q3), .second] [(.ref b1)]))
      obtain ⟨cq30, kq30, q30a, q30b, q30c⟩ := isOf hZ e28 cE20
      obtain ⟨_, _, ⟨T30, L30, k30, n30⟩, -, X30, ⟨Lc30, hQ30, l30, y30, z30⟩, st30⟩ := X28.virtualBack hx (y := (⟨"com/example/rank_merge/rankmerge/io/TopicBlock", "getLinesBefore", "()I"⟩ : MethodName)) (z := (⟨"com/example/rank_merge/rankmerge/io/TopicBlock", "getLinesBefore", "()I"⟩ : MethodName)) hown (mvT hZ (hw _ (List.mem_of_getElem? (i := 32) rfl))) (mvT hZ (hw _ (List.mem_of_getElem? (i := 33) rfl))) (notFace_of_selects (args := #[]) (mvT hZ (hw _ (List.mem_of_getElem? (i := 35) rfl)))) (mvT hZ (hw _ (List.mem_of_getElem? (i := 35) rfl))) (mvT hZ (hw _ (List.mem_of_getElem? (i := 34) rfl))) (by decide) (backOf (W := 0) (rm6 l Z a0 hw [] b1 p2 h20 n0 (Nat.le_trans Z0 K20.1) c20_linesBefore) hZ (hw _ (List.mem_of_getElem? (i := 36) rfl)) (hw _ (List.mem_of_getElem? (i := 2) rfl)) (by decide) (by decide)) q30a q30c (g := (mkF m 102 #[.val (.long q0), .second, .val (.int p2), .val (.long q3), .second, .val (.long q5), .second, .val (.long q7), .second, .val (.int p9), .val (.ref b1), .val (.int n1), .val (.long q3), .second] [(.ref b1)])) rfl (by rw [hml]; rfl) (Steps.refl _) (argsL := []) (rest := []) (lenOf pd_2829I rfl) rfl (by show 2 * 0 + _ ≤ _; exact Nat.le_of_eq rfl) (hb hby at_102) (fun _ _ => ⟨rfl, e28, (by decide : 1 + 0 ≤ _), (by decide : 4 + 0 ≤ _)⟩)
      dsimp only [Pt.U, Pt.locs, Pt.cells, Pt.slots] at X30 l30 y30 z30 st30 hQ30
      subst l30 y30 z30
      obtain ⟨rfl, N30q, e30⟩ := hQ30
      have N30 := Fr.app N28 N30q
      refine Wp.go st30 ?_
      show Wp p e below _ (T30.setTop (mkF m 105 #[.val (.long q0), .second, .val (.int p2), .val (.long q3), .second, .val (.long q5), .second, .val (.long q7), .second, .val (.int p9), .val (.ref b1), .val (.int n1), .val (.long q3), .second] [(.int p2)]))
      refine Wp.step (fun t k => XS.iloadN X30.here hx rfl (hb hby at_105) rfl k) ?_
      show Wp p e below _ (T30.setTop (mkF m 106 #[.val (.long q0), .second, .val (.int p2), .val (.long q3), .second, .val (.long q5), .second, .val (.long q7), .second, .val (.int p9), .val (.ref b1), .val (.int n1), .val (.long q3), .second] [(.int p2), (.int p2)]))
      refine Wp.step (fun t k => XS.icmpNo X30.here hx rfl (hb hby at_106) rfl (teq (show p2 = p2 from rfl)).2 k) ?_
      show Wp p e below _ (T30.setTop (mkF m 109 #[.val (.long q0), .second, .val (.int p2), .val (.long q3), .second, .val (.long q5), .second, .val (.long q7), .second, .val (.int p9), .val (.ref b1), .val (.int n1), .val (.long q3), .second] []))
      refine Wp.step (fun t k => XS.iconst X30.here hx rfl (hb hby at_109) k) ?_
      show Wp p e below _ (T30.setTop (mkF m 110 #[.val (.long q0), .second, .val (.int p2), .val (.long q3), .second, .val (.long q5), .second, .val (.long q7), .second, .val (.int p9), .val (.ref b1), .val (.int n1), .val (.long q3), .second] [(.int (1 : Int32))]))
      refine Wp.step (fun t k => XS.goto X30.here hx rfl (pc0 := 110) (pc' := 114) rfl (hb hby at_110) (by decide) (by decide) k) ?_
      show Wp p e below _ (T30.setTop (mkF m 114 #[.val (.long q0), .second, .val (.int p2), .val (.long q3), .second, .val (.long q5), .second, .val (.long q7), .second, .val (.int p9), .val (.ref b1), .val (.int n1), .val (.long q3), .second] [(.int (1 : Int32))]))
      refine Wp.retN X30 hx (t := .boolean) Bd.returns (by simp) (hb hby at_114) hlk ?_ (by decide) (by decide)
      show Q0 Z q0 p2 q3 q5 q7 p9 h0 n0 (some (.int (nar .boolean (1 : Int32)))) T30.heap _
      rw [e30]
      exact ⟨rfl, N30⟩
    · refine Wp.step (fun t k => XS.icmpNo X20.here hx rfl (hb hby at_38) rfl (flt hc22).1 k) ?_
      show Wp p e below _ (T20.setTop (mkF m 41 #[.val (.long q0), .second, .val (.int p2), .val (.long q3), .second, .val (.long q5), .second, .val (.long q7), .second, .val (.int p9), .val (.ref b1), .val (.int n1), .val (.long q3), .second] []))
      refine Wp.step (fun t k => XS.aload X20.here hx rfl (hb hby at_41) rfl rfl k) ?_
      show Wp p e below _ (T20.setTop (mkF m 43 #[.val (.long q0), .second, .val (.int p2), .val (.long q3), .second, .val (.long q5), .second, .val (.long q7), .second, .val (.int p9), .val (.ref b1), .val (.int n1), .val (.long q3), .second] [(.ref b1)]))
      refine Wp.step (fun t k => XS.lload X20.here hx rfl (hb hby at_43) rfl k) ?_
      show Wp p e below _ (T20.setTop (mkF m 45 #[.val (.long q0), .second, .val (.int p2), .val (.long q3), .second, .val (.long q5), .second, .val (.long q7), .second, .val (.int p9), .val (.ref b1), .val (.int n1), .val (.long q3), .second] [(.long q5), (.ref b1)]))
      obtain ⟨cq32, kq32, q32a, q32b, q32c⟩ := isOf hZ e20 cE20
      obtain ⟨_, _, ⟨T32, L32, k32, n32⟩, -, X32, ⟨Lc32, hQ32, l32, y32, z32⟩, st32⟩ := X20.virtualBack hx (y := (⟨"com/example/rank_merge/rankmerge/io/TopicBlock", "add", "(J)V"⟩ : MethodName)) (z := (⟨"com/example/rank_merge/rankmerge/io/TopicBlock", "add", "(J)V"⟩ : MethodName)) hown (mvT hZ (hw _ (List.mem_of_getElem? (i := 37) rfl))) (mvT hZ (hw _ (List.mem_of_getElem? (i := 38) rfl))) (notFace_of_selects (args := #[]) (mvT hZ (hw _ (List.mem_of_getElem? (i := 40) rfl)))) (mvT hZ (hw _ (List.mem_of_getElem? (i := 40) rfl))) (mvT hZ (hw _ (List.mem_of_getElem? (i := 39) rfl))) (by decide) (backOf (W := 0) (rm7 l Z a0 hw [] b1 q5 q0 p2 q3 ((0 : Int32) + (1 : Int32)) h20 n0 (Nat.le_trans Z0 K20.1) g_b1 cE20 c20_start c20_linesBefore c20_end c20_records ) hZ (hw _ (List.mem_of_getElem? (i := 41) rfl)) (hw _ (List.mem_of_getElem? (i := 2) rfl)) (by decide) (by decide)) q32a q32c (g := (mkF m 45 #[.val (.long q0), .second, .val (.int p2), .val (.long q3), .second, .val (.long q5), .second, .val (.long q7), .second, .val (.int p9), .val (.ref b1), .val (.int n1), .val (.long q3), .second] [(.long q5), (.ref b1)])) rfl (by rw [hml]; rfl) (Steps.refl _) (argsL := [(.long q5)]) (rest := []) (lenOf pd_28J29V rfl) rfl (by show 2 * 0 + _ ≤ _; exact Nat.le_of_eq rfl) (hb hby at_45) (fun _ _ => ⟨rfl, e20, (by decide : 1 + 0 ≤ _), (by decide : 4 + 0 ≤ _)⟩)
      dsimp only [Pt.U, Pt.locs, Pt.cells, Pt.slots] at X32 l32 y32 z32 st32 hQ32
      subst l32 y32 z32
      obtain ⟨h32, e32⟩ : ∃ z, T32.heap = z := ⟨_, rfl⟩
      rw [e32] at hQ32
      obtain ⟨rfl, N32q, Kc32, cE32, c32_start, c32_linesBefore, c32_end, c32_records⟩ := hQ32
      have N32 := Fr.app N20 N32q
      have c33 := cE20.keep Kc32
      have K32 := K20.trans Kc32 (allS (Or.inr sz_b1) all0)
      refine Wp.go st32 ?_
      show Wp p e below _ (T32.setTop (mkF m 48 #[.val (.long q0), .second, .val (.int p2), .val (.long q3), .second, .val (.long q5), .second, .val (.long q7), .second, .val (.int p9), .val (.ref b1), .val (.int n1), .val (.long q3), .second] []))
      refine Wp.step (fun t k => XS.lload X32.here hx rfl (hb hby at_48) rfl k) ?_
      show Wp p e below _ (T32.setTop (mkF m 50 #[.val (.long q0), .second, .val (.int p2), .val (.long q3), .second, .val (.long q5), .second, .val (.long q7), .second, .val (.int p9), .val (.ref b1), .val (.int n1), .val (.long q3), .second] [(.long q5)]))
      refine Wp.step (fun t k => XS.lstore X32.here hx rfl (hb hby at_50) rfl (l' := #[.val (.long q0), .second, .val (.int p2), .val (.long q3), .second, .val (.long q5), .second, .val (.long q7), .second, .val (.int p9), .val (.ref b1), .val (.int n1), .val (.long q5), .second]) rfl k) ?_
      show Wp p e below _ (T32.setTop (mkF m 52 #[.val (.long q0), .second, .val (.int p2), .val (.long q3), .second, .val (.long q5), .second, .val (.long q7), .second, .val (.int p9), .val (.ref b1), .val (.int n1), .val (.long q5), .second] []))
      refine Wp.step (fun t k => XS.iload X32.here hx rfl (hb hby at_52) rfl k) ?_
      show Wp p e below _ (T32.setTop (mkF m 54 #[.val (.long q0), .second, .val (.int p2), .val (.long q3), .second, .val (.long q5), .second, .val (.long q7), .second, .val (.int p9), .val (.ref b1), .val (.int n1), .val (.long q5), .second] [(.int n1)]))
      refine Wp.step (fun t k => XS.iconst X32.here hx rfl (hb hby at_54) k) ?_
      show Wp p e below _ (T32.setTop (mkF m 55 #[.val (.long q0), .second, .val (.int p2), .val (.long q3), .second, .val (.long q5), .second, .val (.long q7), .second, .val (.int p9), .val (.ref b1), .val (.int n1), .val (.long q5), .second] [(.int (3 : Int32)), (.int n1)]))
      by_cases hc34 : n1 < (3 : Int32)
      · refine Wp.step (fun t k => XS.icmpYes X32.here hx rfl (pc0 := 55) (pc' := 69) rfl (hb hby at_55) rfl (tlt hc34).1 (by decide) (by decide) k) ?_
        show Wp p e below _ (T32.setTop (mkF m 69 #[.val (.long q0), .second, .val (.int p2), .val (.long q3), .second, .val (.long q5), .second, .val (.long q7), .second, .val (.int p9), .val (.ref b1), .val (.int n1), .val (.long q5), .second] []))
        refine Wp.step (fun t k => XS.aload X32.here hx rfl (hb hby at_69) rfl rfl k) ?_
        show Wp p e below _ (T32.setTop (mkF m 71 #[.val (.long q0), .second, .val (.int p2), .val (.long q3), .second, .val (.long q5), .second, .val (.long q7), .second, .val (.int p9), .val (.ref b1), .val (.int n1), .val (.long q5), .second] [(.ref b1)]))
        obtain ⟨cq35, kq35, q35a, q35b, q35c⟩ := isOf hZ e32 cE32
        obtain ⟨_, _, ⟨T35, L35, k35, n35⟩, -, X35, ⟨Lc35, hQ35, l35, y35, z35⟩, st35⟩ := X32.virtualBack hx (y := (⟨"com/example/rank_merge/rankmerge/io/TopicBlock", "getEnd", "()J"⟩ : MethodName)) (z := (⟨"com/example/rank_merge/rankmerge/io/TopicBlock", "getEnd", "()J"⟩ : MethodName)) hown (mvT hZ (hw _ (List.mem_of_getElem? (i := 15) rfl))) (mvT hZ (hw _ (List.mem_of_getElem? (i := 16) rfl))) (notFace_of_selects (args := #[]) (mvT hZ (hw _ (List.mem_of_getElem? (i := 18) rfl)))) (mvT hZ (hw _ (List.mem_of_getElem? (i := 18) rfl))) (mvT hZ (hw _ (List.mem_of_getElem? (i := 17) rfl))) (by decide) (backOf (W := 0) (rm3 l Z a0 hw [] b1 q5 h32 n0 (Nat.le_trans Z0 K32.1) c32_end) hZ (hw _ (List.mem_of_getElem? (i := 19) rfl)) (hw _ (List.mem_of_getElem? (i := 2) rfl)) (by decide) (by decide)) q35a q35c (g := (mkF m 71 #[.val (.long q0), .second, .val (.int p2), .val (.long q3), .second, .val (.long q5), .second, .val (.long q7), .second, .val (.int p9), .val (.ref b1), .val (.int n1), .val (.long q5), .second] [(.ref b1)])) rfl (by rw [hml]; rfl) (Steps.refl _) (argsL := []) (rest := []) (lenOf pd_2829J rfl) rfl (by show 2 * 0 + _ ≤ _; exact Nat.le_of_eq rfl) (hb hby at_71) (fun _ _ => ⟨rfl, e32, (by decide : 1 + 0 ≤ _), (by decide : 4 + 0 ≤ _)⟩)
        dsimp only [Pt.U, Pt.locs, Pt.cells, Pt.slots] at X35 l35 y35 z35 st35 hQ35
        subst l35 y35 z35
        obtain ⟨rfl, N35q, e35⟩ := hQ35
        have N35 := Fr.app N32 N35q
        refine Wp.go st35 ?_
        show Wp p e below _ (T35.setTop (mkF m 74 #[.val (.long q0), .second, .val (.int p2), .val (.long q3), .second, .val (.long q5), .second, .val (.long q7), .second, .val (.int p9), .val (.ref b1), .val (.int n1), .val (.long q5), .second] [(.long q5)]))
        refine Wp.step (fun t k => XS.lload X35.here hx rfl (hb hby at_74) rfl k) ?_
        show Wp p e below _ (T35.setTop (mkF m 76 #[.val (.long q0), .second, .val (.int p2), .val (.long q3), .second, .val (.long q5), .second, .val (.long q7), .second, .val (.int p9), .val (.ref b1), .val (.int n1), .val (.long q5), .second] [(.long q5), (.long q5)]))
        refine Wp.step (fun t k => XS.lcmp X35.here hx rfl (hb hby at_76) rfl k) ?_
        show Wp p e below _ (T35.setTop (mkF m 77 #[.val (.long q0), .second, .val (.int p2), .val (.long q3), .second, .val (.long q5), .second, .val (.long q7), .second, .val (.int p9), .val (.ref b1), .val (.int n1), .val (.long q5), .second] [(.int (lcmpW q5 q5))]))
        refine Wp.step (fun t k => XS.ifNo X35.here hx rfl (hb hby at_77) rfl ((if0 _ _).trans (teq (show (lcmpW q5 q5) = (0 : Int32) from (lw_eq _ _).mpr rfl)).2) k) ?_
        show Wp p e below _ (T35.setTop (mkF m 80 #[.val (.long q0), .second, .val (.int p2), .val (.long q3), .second, .val (.long q5), .second, .val (.long q7), .second, .val (.int p9), .val (.ref b1), .val (.int n1), .val (.long q5), .second] []))
        refine Wp.step (fun t k => XS.aload X35.here hx rfl (hb hby at_80) rfl rfl k) ?_
        show Wp p e below _ (T35.setTop (mkF m 82 #[.val (.long q0), .second, .val (.int p2), .val (.long q3), .second, .val (.long q5), .second, .val (.long q7), .second, .val (.int p9), .val (.ref b1), .val (.int n1), .val (.long q5), .second] [(.ref b1)]))
        obtain ⟨cq37, kq37, q37a, q37b, q37c⟩ := isOf hZ e35 cE32
        obtain ⟨_, _, ⟨T37, L37, k37, n37⟩, -, X37, ⟨Lc37, hQ37, l37, y37, z37⟩, st37⟩ := X35.virtualBack hx (y := (⟨"com/example/rank_merge/rankmerge/io/TopicBlock", "getRecords", "()I"⟩ : MethodName)) (z := (⟨"com/example/rank_merge/rankmerge/io/TopicBlock", "getRecords", "()I"⟩ : MethodName)) hown (mvT hZ (hw _ (List.mem_of_getElem? (i := 20) rfl))) (mvT hZ (hw _ (List.mem_of_getElem? (i := 21) rfl))) (notFace_of_selects (args := #[]) (mvT hZ (hw _ (List.mem_of_getElem? (i := 23) rfl)))) (mvT hZ (hw _ (List.mem_of_getElem? (i := 23) rfl))) (mvT hZ (hw _ (List.mem_of_getElem? (i := 22) rfl))) (by decide) (backOf (W := 0) (rm4 l Z a0 hw [] b1 (((0 : Int32) + (1 : Int32)) + (1 : Int32)) h32 n0 (Nat.le_trans Z0 K32.1) c32_records) hZ (hw _ (List.mem_of_getElem? (i := 24) rfl)) (hw _ (List.mem_of_getElem? (i := 2) rfl)) (by decide) (by decide)) q37a q37c (g := (mkF m 82 #[.val (.long q0), .second, .val (.int p2), .val (.long q3), .second, .val (.long q5), .second, .val (.long q7), .second, .val (.int p9), .val (.ref b1), .val (.int n1), .val (.long q5), .second] [(.ref b1)])) rfl (by rw [hml]; rfl) (Steps.refl _) (argsL := []) (rest := []) (lenOf pd_2829I rfl) rfl (by show 2 * 0 + _ ≤ _; exact Nat.le_of_eq rfl) (hb hby at_82) (fun _ _ => ⟨rfl, e35, (by decide : 1 + 0 ≤ _), (by decide : 4 + 0 ≤ _)⟩)
        dsimp only [Pt.U, Pt.locs, Pt.cells, Pt.slots] at X37 l37 y37 z37 st37 hQ37
        subst l37 y37 z37
        obtain ⟨rfl, N37q, e37⟩ := hQ37
        have N37 := Fr.app N35 N37q
        refine Wp.go st37 ?_
        show Wp p e below _ (T37.setTop (mkF m 85 #[.val (.long q0), .second, .val (.int p2), .val (.long q3), .second, .val (.long q5), .second, .val (.long q7), .second, .val (.int p9), .val (.ref b1), .val (.int n1), .val (.long q5), .second] [(.int (((0 : Int32) + (1 : Int32)) + (1 : Int32)))]))
        refine Wp.step (fun t k => XS.iload X37.here hx rfl (hb hby at_85) rfl k) ?_
        show Wp p e below _ (T37.setTop (mkF m 87 #[.val (.long q0), .second, .val (.int p2), .val (.long q3), .second, .val (.long q5), .second, .val (.long q7), .second, .val (.int p9), .val (.ref b1), .val (.int n1), .val (.long q5), .second] [(.int n1), (.int (((0 : Int32) + (1 : Int32)) + (1 : Int32)))]))
        refine Wp.step (fun t k => XS.icmpNo X37.here hx rfl (hb hby at_87) rfl (teq (show (((0 : Int32) + (1 : Int32)) + (1 : Int32)) = n1 from own_n2 hc22 hc34)).2 k) ?_
        show Wp p e below _ (T37.setTop (mkF m 90 #[.val (.long q0), .second, .val (.int p2), .val (.long q3), .second, .val (.long q5), .second, .val (.long q7), .second, .val (.int p9), .val (.ref b1), .val (.int n1), .val (.long q5), .second] []))
        refine Wp.step (fun t k => XS.aload X37.here hx rfl (hb hby at_90) rfl rfl k) ?_
        show Wp p e below _ (T37.setTop (mkF m 92 #[.val (.long q0), .second, .val (.int p2), .val (.long q3), .second, .val (.long q5), .second, .val (.long q7), .second, .val (.int p9), .val (.ref b1), .val (.int n1), .val (.long q5), .second] [(.ref b1)]))
        obtain ⟨cq39, kq39, q39a, q39b, q39c⟩ := isOf hZ e37 cE32
        obtain ⟨_, _, ⟨T39, L39, k39, n39⟩, -, X39, ⟨Lc39, hQ39, l39, y39, z39⟩, st39⟩ := X37.virtualBack hx (y := (⟨"com/example/rank_merge/rankmerge/io/TopicBlock", "getStart", "()J"⟩ : MethodName)) (z := (⟨"com/example/rank_merge/rankmerge/io/TopicBlock", "getStart", "()J"⟩ : MethodName)) hown (mvT hZ (hw _ (List.mem_of_getElem? (i := 27) rfl))) (mvT hZ (hw _ (List.mem_of_getElem? (i := 28) rfl))) (notFace_of_selects (args := #[]) (mvT hZ (hw _ (List.mem_of_getElem? (i := 30) rfl)))) (mvT hZ (hw _ (List.mem_of_getElem? (i := 30) rfl))) (mvT hZ (hw _ (List.mem_of_getElem? (i := 29) rfl))) (by decide) (backOf (W := 0) (rm5 l Z a0 hw [] b1 q0 h32 n0 (Nat.le_trans Z0 K32.1) c32_start) hZ (hw _ (List.mem_of_getElem? (i := 31) rfl)) (hw _ (List.mem_of_getElem? (i := 2) rfl)) (by decide) (by decide)) q39a q39c (g := (mkF m 92 #[.val (.long q0), .second, .val (.int p2), .val (.long q3), .second, .val (.long q5), .second, .val (.long q7), .second, .val (.int p9), .val (.ref b1), .val (.int n1), .val (.long q5), .second] [(.ref b1)])) rfl (by rw [hml]; rfl) (Steps.refl _) (argsL := []) (rest := []) (lenOf pd_2829J rfl) rfl (by show 2 * 0 + _ ≤ _; exact Nat.le_of_eq rfl) (hb hby at_92) (fun _ _ => ⟨rfl, e37, (by decide : 1 + 0 ≤ _), (by decide : 4 + 0 ≤ _)⟩)
        dsimp only [Pt.U, Pt.locs, Pt.cells, Pt.slots] at X39 l39 y39 z39 st39 hQ39
        subst l39 y39 z39
        obtain ⟨rfl, N39q, e39⟩ := hQ39
        have N39 := Fr.app N37 N39q
        refine Wp.go st39 ?_
        show Wp p e below _ (T39.setTop (mkF m 95 #[.val (.long q0), .second, .val (.int p2), .val (.long q3), .second, .val (.long q5), .second, .val (.long q7), .second, .val (.int p9), .val (.ref b1), .val (.int n1), .val (.long q5), .second] [(.long q0)]))
        refine Wp.step (fun t k => XS.lloadN X39.here hx rfl (hb hby at_95) rfl k) ?_
        show Wp p e below _ (T39.setTop (mkF m 96 #[.val (.long q0), .second, .val (.int p2), .val (.long q3), .second, .val (.long q5), .second, .val (.long q7), .second, .val (.int p9), .val (.ref b1), .val (.int n1), .val (.long q5), .second] [(.long q0), (.long q0)]))
        refine Wp.step (fun t k => XS.lcmp X39.here hx rfl (hb hby at_96) rfl k) ?_
        show Wp p e below _ (T39.setTop (mkF m 97 #[.val (.long q0), .second, .val (.int p2), .val (.long q3), .second, .val (.long q5), .second, .val (.long q7), .second, .val (.int p9), .val (.ref b1), .val (.int n1), .val (.long q5), .second] [(.int (lcmpW q0 q0))]))
        refine Wp.step (fun t k => XS.ifNo X39.here hx rfl (hb hby at_97) rfl ((if0 _ _).trans (teq (show (lcmpW q0 q0) = (0 : Int32) from (lw_eq _ _).mpr rfl)).2) k) ?_
        show Wp p e below _ (T39.setTop (mkF m 100 #[.val (.long q0), .second, .val (.int p2), .val (.long q3), .second, .val (.long q5), .second, .val (.long q7), .second, .val (.int p9), .val (.ref b1), .val (.int n1), .val (.long q5), .second] []))
        refine Wp.step (fun t k => XS.aload X39.here hx rfl (hb hby at_100) rfl rfl k) ?_
        show Wp p e below _ (T39.setTop (mkF m 102 #[.val (.long q0), .second, .val (.int p2), .val (.long q3), .second, .val (.long q5), .second, .val (.long q7), .second, .val (.int p9), .val (.ref b1), .val (.int n1), .val (.long q5), .second] [(.ref b1)]))
        obtain ⟨cq41, kq41, q41a, q41b, q41c⟩ := isOf hZ e39 cE32
        obtain ⟨_, _, ⟨T41, L41, k41, n41⟩, -, X41, ⟨Lc41, hQ41, l41, y41, z41⟩, st41⟩ := X39.virtualBack hx (y := (⟨"com/example/rank_merge/rankmerge/io/TopicBlock", "getLinesBefore", "()I"⟩ : MethodName)) (z := (⟨"com/example/rank_merge/rankmerge/io/TopicBlock", "getLinesBefore", "()I"⟩ : MethodName)) hown (mvT hZ (hw _ (List.mem_of_getElem? (i := 32) rfl))) (mvT hZ (hw _ (List.mem_of_getElem? (i := 33) rfl))) (notFace_of_selects (args := #[]) (mvT hZ (hw _ (List.mem_of_getElem? (i := 35) rfl)))) (mvT hZ (hw _ (List.mem_of_getElem? (i := 35) rfl))) (mvT hZ (hw _ (List.mem_of_getElem? (i := 34) rfl))) (by decide) (backOf (W := 0) (rm6 l Z a0 hw [] b1 p2 h32 n0 (Nat.le_trans Z0 K32.1) c32_linesBefore) hZ (hw _ (List.mem_of_getElem? (i := 36) rfl)) (hw _ (List.mem_of_getElem? (i := 2) rfl)) (by decide) (by decide)) q41a q41c (g := (mkF m 102 #[.val (.long q0), .second, .val (.int p2), .val (.long q3), .second, .val (.long q5), .second, .val (.long q7), .second, .val (.int p9), .val (.ref b1), .val (.int n1), .val (.long q5), .second] [(.ref b1)])) rfl (by rw [hml]; rfl) (Steps.refl _) (argsL := []) (rest := []) (lenOf pd_2829I rfl) rfl (by show 2 * 0 + _ ≤ _; exact Nat.le_of_eq rfl) (hb hby at_102) (fun _ _ => ⟨rfl, e39, (by decide : 1 + 0 ≤ _), (by decide : 4 + 0 ≤ _)⟩)
        dsimp only [Pt.U, Pt.locs, Pt.cells, Pt.slots] at X41 l41 y41 z41 st41 hQ41
        subst l41 y41 z41
        obtain ⟨rfl, N41q, e41⟩ := hQ41
        have N41 := Fr.app N39 N41q
        refine Wp.go st41 ?_
        show Wp p e below _ (T41.setTop (mkF m 105 #[.val (.long q0), .second, .val (.int p2), .val (.long q3), .second, .val (.long q5), .second, .val (.long q7), .second, .val (.int p9), .val (.ref b1), .val (.int n1), .val (.long q5), .second] [(.int p2)]))
        refine Wp.step (fun t k => XS.iloadN X41.here hx rfl (hb hby at_105) rfl k) ?_
        show Wp p e below _ (T41.setTop (mkF m 106 #[.val (.long q0), .second, .val (.int p2), .val (.long q3), .second, .val (.long q5), .second, .val (.long q7), .second, .val (.int p9), .val (.ref b1), .val (.int n1), .val (.long q5), .second] [(.int p2), (.int p2)]))
        refine Wp.step (fun t k => XS.icmpNo X41.here hx rfl (hb hby at_106) rfl (teq (show p2 = p2 from rfl)).2 k) ?_
        show Wp p e below _ (T41.setTop (mkF m 109 #[.val (.long q0), .second, .val (.int p2), .val (.long q3), .second, .val (.long q5), .second, .val (.long q7), .second, .val (.int p9), .val (.ref b1), .val (.int n1), .val (.long q5), .second] []))
        refine Wp.step (fun t k => XS.iconst X41.here hx rfl (hb hby at_109) k) ?_
        show Wp p e below _ (T41.setTop (mkF m 110 #[.val (.long q0), .second, .val (.int p2), .val (.long q3), .second, .val (.long q5), .second, .val (.long q7), .second, .val (.int p9), .val (.ref b1), .val (.int n1), .val (.long q5), .second] [(.int (1 : Int32))]))
        refine Wp.step (fun t k => XS.goto X41.here hx rfl (pc0 := 110) (pc' := 114) rfl (hb hby at_110) (by decide) (by decide) k) ?_
        show Wp p e below _ (T41.setTop (mkF m 114 #[.val (.long q0), .second, .val (.int p2), .val (.long q3), .second, .val (.long q5), .second, .val (.long q7), .second, .val (.int p9), .val (.ref b1), .val (.int n1), .val (.long q5), .second] [(.int (1 : Int32))]))
        refine Wp.retN X41 hx (t := .boolean) Bd.returns (by simp) (hb hby at_114) hlk ?_ (by decide) (by decide)
        show Q0 Z q0 p2 q3 q5 q7 p9 h0 n0 (some (.int (nar .boolean (1 : Int32)))) T41.heap _
        rw [e41]
        exact ⟨rfl, N41⟩
      · refine Wp.step (fun t k => XS.icmpNo X32.here hx rfl (hb hby at_55) rfl (flt hc34).1 k) ?_
        show Wp p e below _ (T32.setTop (mkF m 58 #[.val (.long q0), .second, .val (.int p2), .val (.long q3), .second, .val (.long q5), .second, .val (.long q7), .second, .val (.int p9), .val (.ref b1), .val (.int n1), .val (.long q5), .second] []))
        refine Wp.step (fun t k => XS.aload X32.here hx rfl (hb hby at_58) rfl rfl k) ?_
        show Wp p e below _ (T32.setTop (mkF m 60 #[.val (.long q0), .second, .val (.int p2), .val (.long q3), .second, .val (.long q5), .second, .val (.long q7), .second, .val (.int p9), .val (.ref b1), .val (.int n1), .val (.long q5), .second] [(.ref b1)]))
        refine Wp.step (fun t k => XS.lload X32.here hx rfl (hb hby at_60) rfl k) ?_
        show Wp p e below _ (T32.setTop (mkF m 62 #[.val (.long q0), .second, .val (.int p2), .val (.long q3), .second, .val (.long q5), .second, .val (.long q7), .second, .val (.int p9), .val (.ref b1), .val (.int n1), .val (.long q5), .second] [(.long q7), (.ref b1)]))
        obtain ⟨cq43, kq43, q43a, q43b, q43c⟩ := isOf hZ e32 cE32
        obtain ⟨_, _, ⟨T43, L43, k43, n43⟩, -, X43, ⟨Lc43, hQ43, l43, y43, z43⟩, st43⟩ := X32.virtualBack hx (y := (⟨"com/example/rank_merge/rankmerge/io/TopicBlock", "add", "(J)V"⟩ : MethodName)) (z := (⟨"com/example/rank_merge/rankmerge/io/TopicBlock", "add", "(J)V"⟩ : MethodName)) hown (mvT hZ (hw _ (List.mem_of_getElem? (i := 37) rfl))) (mvT hZ (hw _ (List.mem_of_getElem? (i := 38) rfl))) (notFace_of_selects (args := #[]) (mvT hZ (hw _ (List.mem_of_getElem? (i := 40) rfl)))) (mvT hZ (hw _ (List.mem_of_getElem? (i := 40) rfl))) (mvT hZ (hw _ (List.mem_of_getElem? (i := 39) rfl))) (by decide) (backOf (W := 0) (rm7 l Z a0 hw [] b1 q7 q0 p2 q5 (((0 : Int32) + (1 : Int32)) + (1 : Int32)) h32 n0 (Nat.le_trans Z0 K32.1) g_b1 cE32 c32_start c32_linesBefore c32_end c32_records ) hZ (hw _ (List.mem_of_getElem? (i := 41) rfl)) (hw _ (List.mem_of_getElem? (i := 2) rfl)) (by decide) (by decide)) q43a q43c (g := (mkF m 62 #[.val (.long q0), .second, .val (.int p2), .val (.long q3), .second, .val (.long q5), .second, .val (.long q7), .second, .val (.int p9), .val (.ref b1), .val (.int n1), .val (.long q5), .second] [(.long q7), (.ref b1)])) rfl (by rw [hml]; rfl) (Steps.refl _) (argsL := [(.long q7)]) (rest := []) (lenOf pd_28J29V rfl) rfl (by show 2 * 0 + _ ≤ _; exact Nat.le_of_eq rfl) (hb hby at_62) (fun _ _ => ⟨rfl, e32, (by decide : 1 + 0 ≤ _), (by decide : 4 + 0 ≤ _)⟩)
        dsimp only [Pt.U, Pt.locs, Pt.cells, Pt.slots] at X43 l43 y43 z43 st43 hQ43
        subst l43 y43 z43
        obtain ⟨h43, e43⟩ : ∃ z, T43.heap = z := ⟨_, rfl⟩
        rw [e43] at hQ43
        obtain ⟨rfl, N43q, Kc43, cE43, c43_start, c43_linesBefore, c43_end, c43_records⟩ := hQ43
        have N43 := Fr.app N32 N43q
        have c44 := cE32.keep Kc43
        have K43 := K32.trans Kc43 (allS (Or.inr sz_b1) all0)
        refine Wp.go st43 ?_
        show Wp p e below _ (T43.setTop (mkF m 65 #[.val (.long q0), .second, .val (.int p2), .val (.long q3), .second, .val (.long q5), .second, .val (.long q7), .second, .val (.int p9), .val (.ref b1), .val (.int n1), .val (.long q5), .second] []))
        refine Wp.step (fun t k => XS.lload X43.here hx rfl (hb hby at_65) rfl k) ?_
        show Wp p e below _ (T43.setTop (mkF m 67 #[.val (.long q0), .second, .val (.int p2), .val (.long q3), .second, .val (.long q5), .second, .val (.long q7), .second, .val (.int p9), .val (.ref b1), .val (.int n1), .val (.long q5), .second] [(.long q7)]))
        refine Wp.step (fun t k => XS.lstore X43.here hx rfl (hb hby at_67) rfl (l' := #[.val (.long q0), .second, .val (.int p2), .val (.long q3), .second, .val (.long q5), .second, .val (.long q7), .second, .val (.int p9), .val (.ref b1), .val (.int n1), .val (.long q7), .second]) rfl k) ?_
        show Wp p e below _ (T43.setTop (mkF m 69 #[.val (.long q0), .second, .val (.int p2), .val (.long q3), .second, .val (.long q5), .second, .val (.long q7), .second, .val (.int p9), .val (.ref b1), .val (.int n1), .val (.long q7), .second] []))
        refine Wp.step (fun t k => XS.aload X43.here hx rfl (hb hby at_69) rfl rfl k) ?_
        show Wp p e below _ (T43.setTop (mkF m 71 #[.val (.long q0), .second, .val (.int p2), .val (.long q3), .second, .val (.long q5), .second, .val (.long q7), .second, .val (.int p9), .val (.ref b1), .val (.int n1), .val (.long q7), .second] [(.ref b1)]))
        obtain ⟨cq45, kq45, q45a, q45b, q45c⟩ := isOf hZ e43 cE43
        obtain ⟨_, _, ⟨T45, L45, k45, n45⟩, -, X45, ⟨Lc45, hQ45, l45, y45, z45⟩, st45⟩ := X43.virtualBack hx (y := (⟨"com/example/rank_merge/rankmerge/io/TopicBlock", "getEnd", "()J"⟩ : MethodName)) (z := (⟨"com/example/rank_merge/rankmerge/io/TopicBlock", "getEnd", "()J"⟩ : MethodName)) hown (mvT hZ (hw _ (List.mem_of_getElem? (i := 15) rfl))) (mvT hZ (hw _ (List.mem_of_getElem? (i := 16) rfl))) (notFace_of_selects (args := #[]) (mvT hZ (hw _ (List.mem_of_getElem? (i := 18) rfl)))) (mvT hZ (hw _ (List.mem_of_getElem? (i := 18) rfl))) (mvT hZ (hw _ (List.mem_of_getElem? (i := 17) rfl))) (by decide) (backOf (W := 0) (rm3 l Z a0 hw [] b1 q7 h43 n0 (Nat.le_trans Z0 K43.1) c43_end) hZ (hw _ (List.mem_of_getElem? (i := 19) rfl)) (hw _ (List.mem_of_getElem? (i := 2) rfl)) (by decide) (by decide)) q45a q45c (g := (mkF m 71 #[.val (.long q0), .second, .val (.int p2), .val (.long q3), .second, .val (.long q5), .second, .val (.long q7), .second, .val (.int p9), .val (.ref b1), .val (.int n1), .val (.long q7), .second] [(.ref b1)])) rfl (by rw [hml]; rfl) (Steps.refl _) (argsL := []) (rest := []) (lenOf pd_2829J rfl) rfl (by show 2 * 0 + _ ≤ _; exact Nat.le_of_eq rfl) (hb hby at_71) (fun _ _ => ⟨rfl, e43, (by decide : 1 + 0 ≤ _), (by decide : 4 + 0 ≤ _)⟩)
        dsimp only [Pt.U, Pt.locs, Pt.cells, Pt.slots] at X45 l45 y45 z45 st45 hQ45
        subst l45 y45 z45
        obtain ⟨rfl, N45q, e45⟩ := hQ45
        have N45 := Fr.app N43 N45q
        refine Wp.go st45 ?_
        show Wp p e below _ (T45.setTop (mkF m 74 #[.val (.long q0), .second, .val (.int p2), .val (.long q3), .second, .val (.long q5), .second, .val (.long q7), .second, .val (.int p9), .val (.ref b1), .val (.int n1), .val (.long q7), .second] [(.long q7)]))
        refine Wp.step (fun t k => XS.lload X45.here hx rfl (hb hby at_74) rfl k) ?_
        show Wp p e below _ (T45.setTop (mkF m 76 #[.val (.long q0), .second, .val (.int p2), .val (.long q3), .second, .val (.long q5), .second, .val (.long q7), .second, .val (.int p9), .val (.ref b1), .val (.int n1), .val (.long q7), .second] [(.long q7), (.long q7)]))
        refine Wp.step (fun t k => XS.lcmp X45.here hx rfl (hb hby at_76) rfl k) ?_
        show Wp p e below _ (T45.setTop (mkF m 77 #[.val (.long q0), .second, .val (.int p2), .val (.long q3), .second, .val (.long q5), .second, .val (.long q7), .second, .val (.int p9), .val (.ref b1), .val (.int n1), .val (.long q7), .second] [(.int (lcmpW q7 q7))]))
        refine Wp.step (fun t k => XS.ifNo X45.here hx rfl (hb hby at_77) rfl ((if0 _ _).trans (teq (show (lcmpW q7 q7) = (0 : Int32) from (lw_eq _ _).mpr rfl)).2) k) ?_
        show Wp p e below _ (T45.setTop (mkF m 80 #[.val (.long q0), .second, .val (.int p2), .val (.long q3), .second, .val (.long q5), .second, .val (.long q7), .second, .val (.int p9), .val (.ref b1), .val (.int n1), .val (.long q7), .second] []))
        refine Wp.step (fun t k => XS.aload X45.here hx rfl (hb hby at_80) rfl rfl k) ?_
        show Wp p e below _ (T45.setTop (mkF m 82 #[.val (.long q0), .second, .val (.int p2), .val (.long q3), .second, .val (.long q5), .second, .val (.long q7), .second, .val (.int p9), .val (.ref b1), .val (.int n1), .val (.long q7), .second] [(.ref b1)]))
        obtain ⟨cq47, kq47, q47a, q47b, q47c⟩ := isOf hZ e45 cE43
        obtain ⟨_, _, ⟨T47, L47, k47, n47⟩, -, X47, ⟨Lc47, hQ47, l47, y47, z47⟩, st47⟩ := X45.virtualBack hx (y := (⟨"com/example/rank_merge/rankmerge/io/TopicBlock", "getRecords", "()I"⟩ : MethodName)) (z := (⟨"com/example/rank_merge/rankmerge/io/TopicBlock", "getRecords", "()I"⟩ : MethodName)) hown (mvT hZ (hw _ (List.mem_of_getElem? (i := 20) rfl))) (mvT hZ (hw _ (List.mem_of_getElem? (i := 21) rfl))) (notFace_of_selects (args := #[]) (mvT hZ (hw _ (List.mem_of_getElem? (i := 23) rfl)))) (mvT hZ (hw _ (List.mem_of_getElem? (i := 23) rfl))) (mvT hZ (hw _ (List.mem_of_getElem? (i := 22) rfl))) (by decide) (backOf (W := 0) (rm4 l Z a0 hw [] b1 ((((0 : Int32) + (1 : Int32)) + (1 : Int32)) + (1 : Int32)) h43 n0 (Nat.le_trans Z0 K43.1) c43_records) hZ (hw _ (List.mem_of_getElem? (i := 24) rfl)) (hw _ (List.mem_of_getElem? (i := 2) rfl)) (by decide) (by decide)) q47a q47c (g := (mkF m 82 #[.val (.long q0), .second, .val (.int p2), .val (.long q3), .second, .val (.long q5), .second, .val (.long q7), .second, .val (.int p9), .val (.ref b1), .val (.int n1), .val (.long q7), .second] [(.ref b1)])) rfl (by rw [hml]; rfl) (Steps.refl _) (argsL := []) (rest := []) (lenOf pd_2829I rfl) rfl (by show 2 * 0 + _ ≤ _; exact Nat.le_of_eq rfl) (hb hby at_82) (fun _ _ => ⟨rfl, e45, (by decide : 1 + 0 ≤ _), (by decide : 4 + 0 ≤ _)⟩)
        dsimp only [Pt.U, Pt.locs, Pt.cells, Pt.slots] at X47 l47 y47 z47 st47 hQ47
        subst l47 y47 z47
        obtain ⟨rfl, N47q, e47⟩ := hQ47
        have N47 := Fr.app N45 N47q
        refine Wp.go st47 ?_
        show Wp p e below _ (T47.setTop (mkF m 85 #[.val (.long q0), .second, .val (.int p2), .val (.long q3), .second, .val (.long q5), .second, .val (.long q7), .second, .val (.int p9), .val (.ref b1), .val (.int n1), .val (.long q7), .second] [(.int ((((0 : Int32) + (1 : Int32)) + (1 : Int32)) + (1 : Int32)))]))
        refine Wp.step (fun t k => XS.iload X47.here hx rfl (hb hby at_85) rfl k) ?_
        show Wp p e below _ (T47.setTop (mkF m 87 #[.val (.long q0), .second, .val (.int p2), .val (.long q3), .second, .val (.long q5), .second, .val (.long q7), .second, .val (.int p9), .val (.ref b1), .val (.int n1), .val (.long q7), .second] [(.int n1), (.int ((((0 : Int32) + (1 : Int32)) + (1 : Int32)) + (1 : Int32)))]))
        refine Wp.step (fun t k => XS.icmpNo X47.here hx rfl (hb hby at_87) rfl (teq (show ((((0 : Int32) + (1 : Int32)) + (1 : Int32)) + (1 : Int32)) = n1 from own_n3 hc34 hhi)).2 k) ?_
        show Wp p e below _ (T47.setTop (mkF m 90 #[.val (.long q0), .second, .val (.int p2), .val (.long q3), .second, .val (.long q5), .second, .val (.long q7), .second, .val (.int p9), .val (.ref b1), .val (.int n1), .val (.long q7), .second] []))
        refine Wp.step (fun t k => XS.aload X47.here hx rfl (hb hby at_90) rfl rfl k) ?_
        show Wp p e below _ (T47.setTop (mkF m 92 #[.val (.long q0), .second, .val (.int p2), .val (.long q3), .second, .val (.long q5), .second, .val (.long q7), .second, .val (.int p9), .val (.ref b1), .val (.int n1), .val (.long q7), .second] [(.ref b1)]))
        obtain ⟨cq49, kq49, q49a, q49b, q49c⟩ := isOf hZ e47 cE43
        obtain ⟨_, _, ⟨T49, L49, k49, n49⟩, -, X49, ⟨Lc49, hQ49, l49, y49, z49⟩, st49⟩ := X47.virtualBack hx (y := (⟨"com/example/rank_merge/rankmerge/io/TopicBlock", "getStart", "()J"⟩ : MethodName)) (z := (⟨"com/example/rank_merge/rankmerge/io/TopicBlock", "getStart", "()J"⟩ : MethodName)) hown (mvT hZ (hw _ (List.mem_of_getElem? (i := 27) rfl))) (mvT hZ (hw _ (List.mem_of_getElem? (i := 28) rfl))) (notFace_of_selects (args := #[]) (mvT hZ (hw _ (List.mem_of_getElem? (i := 30) rfl)))) (mvT hZ (hw _ (List.mem_of_getElem? (i := 30) rfl))) (mvT hZ (hw _ (List.mem_of_getElem? (i := 29) rfl))) (by decide) (backOf (W := 0) (rm5 l Z a0 hw [] b1 q0 h43 n0 (Nat.le_trans Z0 K43.1) c43_start) hZ (hw _ (List.mem_of_getElem? (i := 31) rfl)) (hw _ (List.mem_of_getElem? (i := 2) rfl)) (by decide) (by decide)) q49a q49c (g := (mkF m 92 #[.val (.long q0), .second, .val (.int p2), .val (.long q3), .second, .val (.long q5), .second, .val (.long q7), .second, .val (.int p9), .val (.ref b1), .val (.int n1), .val (.long q7), .second] [(.ref b1)])) rfl (by rw [hml]; rfl) (Steps.refl _) (argsL := []) (rest := []) (lenOf pd_2829J rfl) rfl (by show 2 * 0 + _ ≤ _; exact Nat.le_of_eq rfl) (hb hby at_92) (fun _ _ => ⟨rfl, e47, (by decide : 1 + 0 ≤ _), (by decide : 4 + 0 ≤ _)⟩)
        dsimp only [Pt.U, Pt.locs, Pt.cells, Pt.slots] at X49 l49 y49 z49 st49 hQ49
        subst l49 y49 z49
        obtain ⟨rfl, N49q, e49⟩ := hQ49
        have N49 := Fr.app N47 N49q
        refine Wp.go st49 ?_
        show Wp p e below _ (T49.setTop (mkF m 95 #[.val (.long q0), .second, .val (.int p2), .val (.long q3), .second, .val (.long q5), .second, .val (.long q7), .second, .val (.int p9), .val (.ref b1), .val (.int n1), .val (.long q7), .second] [(.long q0)]))
        refine Wp.step (fun t k => XS.lloadN X49.here hx rfl (hb hby at_95) rfl k) ?_
        show Wp p e below _ (T49.setTop (mkF m 96 #[.val (.long q0), .second, .val (.int p2), .val (.long q3), .second, .val (.long q5), .second, .val (.long q7), .second, .val (.int p9), .val (.ref b1), .val (.int n1), .val (.long q7), .second] [(.long q0), (.long q0)]))
        refine Wp.step (fun t k => XS.lcmp X49.here hx rfl (hb hby at_96) rfl k) ?_
        show Wp p e below _ (T49.setTop (mkF m 97 #[.val (.long q0), .second, .val (.int p2), .val (.long q3), .second, .val (.long q5), .second, .val (.long q7), .second, .val (.int p9), .val (.ref b1), .val (.int n1), .val (.long q7), .second] [(.int (lcmpW q0 q0))]))
        refine Wp.step (fun t k => XS.ifNo X49.here hx rfl (hb hby at_97) rfl ((if0 _ _).trans (teq (show (lcmpW q0 q0) = (0 : Int32) from (lw_eq _ _).mpr rfl)).2) k) ?_
        show Wp p e below _ (T49.setTop (mkF m 100 #[.val (.long q0), .second, .val (.int p2), .val (.long q3), .second, .val (.long q5), .second, .val (.long q7), .second, .val (.int p9), .val (.ref b1), .val (.int n1), .val (.long q7), .second] []))
        refine Wp.step (fun t k => XS.aload X49.here hx rfl (hb hby at_100) rfl rfl k) ?_
        show Wp p e below _ (T49.setTop (mkF m 102 #[.val (.long q0), .second, .val (.int p2), .val (.long q3), .second, .val (.long q5), .second, .val (.long q7), .second, .val (.int p9), .val (.ref b1), .val (.int n1), .val (.long q7), .second] [(.ref b1)]))
        obtain ⟨cq51, kq51, q51a, q51b, q51c⟩ := isOf hZ e49 cE43
        obtain ⟨_, _, ⟨T51, L51, k51, n51⟩, -, X51, ⟨Lc51, hQ51, l51, y51, z51⟩, st51⟩ := X49.virtualBack hx (y := (⟨"com/example/rank_merge/rankmerge/io/TopicBlock", "getLinesBefore", "()I"⟩ : MethodName)) (z := (⟨"com/example/rank_merge/rankmerge/io/TopicBlock", "getLinesBefore", "()I"⟩ : MethodName)) hown (mvT hZ (hw _ (List.mem_of_getElem? (i := 32) rfl))) (mvT hZ (hw _ (List.mem_of_getElem? (i := 33) rfl))) (notFace_of_selects (args := #[]) (mvT hZ (hw _ (List.mem_of_getElem? (i := 35) rfl)))) (mvT hZ (hw _ (List.mem_of_getElem? (i := 35) rfl))) (mvT hZ (hw _ (List.mem_of_getElem? (i := 34) rfl))) (by decide) (backOf (W := 0) (rm6 l Z a0 hw [] b1 p2 h43 n0 (Nat.le_trans Z0 K43.1) c43_linesBefore) hZ (hw _ (List.mem_of_getElem? (i := 36) rfl)) (hw _ (List.mem_of_getElem? (i := 2) rfl)) (by decide) (by decide)) q51a q51c (g := (mkF m 102 #[.val (.long q0), .second, .val (.int p2), .val (.long q3), .second, .val (.long q5), .second, .val (.long q7), .second, .val (.int p9), .val (.ref b1), .val (.int n1), .val (.long q7), .second] [(.ref b1)])) rfl (by rw [hml]; rfl) (Steps.refl _) (argsL := []) (rest := []) (lenOf pd_2829I rfl) rfl (by show 2 * 0 + _ ≤ _; exact Nat.le_of_eq rfl) (hb hby at_102) (fun _ _ => ⟨rfl, e49, (by decide : 1 + 0 ≤ _), (by decide : 4 + 0 ≤ _)⟩)
        dsimp only [Pt.U, Pt.locs, Pt.cells, Pt.slots] at X51 l51 y51 z51 st51 hQ51
        subst l51 y51 z51
        obtain ⟨rfl, N51q, e51⟩ := hQ51
        have N51 := Fr.app N49 N51q
        refine Wp.go st51 ?_
        show Wp p e below _ (T51.setTop (mkF m 105 #[.val (.long q0), .second, .val (.int p2), .val (.long q3), .second, .val (.long q5), .second, .val (.long q7), .second, .val (.int p9), .val (.ref b1), .val (.int n1), .val (.long q7), .second] [(.int p2)]))
        refine Wp.step (fun t k => XS.iloadN X51.here hx rfl (hb hby at_105) rfl k) ?_
        show Wp p e below _ (T51.setTop (mkF m 106 #[.val (.long q0), .second, .val (.int p2), .val (.long q3), .second, .val (.long q5), .second, .val (.long q7), .second, .val (.int p9), .val (.ref b1), .val (.int n1), .val (.long q7), .second] [(.int p2), (.int p2)]))
        refine Wp.step (fun t k => XS.icmpNo X51.here hx rfl (hb hby at_106) rfl (teq (show p2 = p2 from rfl)).2 k) ?_
        show Wp p e below _ (T51.setTop (mkF m 109 #[.val (.long q0), .second, .val (.int p2), .val (.long q3), .second, .val (.long q5), .second, .val (.long q7), .second, .val (.int p9), .val (.ref b1), .val (.int n1), .val (.long q7), .second] []))
        refine Wp.step (fun t k => XS.iconst X51.here hx rfl (hb hby at_109) k) ?_
        show Wp p e below _ (T51.setTop (mkF m 110 #[.val (.long q0), .second, .val (.int p2), .val (.long q3), .second, .val (.long q5), .second, .val (.long q7), .second, .val (.int p9), .val (.ref b1), .val (.int n1), .val (.long q7), .second] [(.int (1 : Int32))]))
        refine Wp.step (fun t k => XS.goto X51.here hx rfl (pc0 := 110) (pc' := 114) rfl (hb hby at_110) (by decide) (by decide) k) ?_
        show Wp p e below _ (T51.setTop (mkF m 114 #[.val (.long q0), .second, .val (.int p2), .val (.long q3), .second, .val (.long q5), .second, .val (.long q7), .second, .val (.int p9), .val (.ref b1), .val (.int n1), .val (.long q7), .second] [(.int (1 : Int32))]))
        refine Wp.retN X51 hx (t := .boolean) Bd.returns (by simp) (hb hby at_114) hlk ?_ (by decide) (by decide)
        show Q0 Z q0 p2 q3 q5 q7 p9 h0 n0 (some (.int (nar .boolean (1 : Int32)))) T51.heap _
        rw [e51]
        exact ⟨rfl, N51⟩
set_option maxRecDepth 65536 in
set_option maxHeartbeats 40000000 in
theorem comes_1 {Post : Tables → Env → Array Value → State → Outcome → State → Prop} (hpost : ∀ tb e args s v u, (limb_1_1.after args s (.returned v) u = true ∧ limb_1_2.after args s (.returned v) u = true ∧ True) → FrameEnd s (.returned v) u (Jvm.fieldLocs frame_1_writes args s ++ Jvm.arrayLocs frame_1_arrays args s ++ Jvm.staticLocs frame_1_statics s) 16 128 → Post tb e args s (.returned v) u) :
    ArmFor flags0 classFile x code maxLocals ret World_1 tables_1 room_1 Calls_1 rest_1 Pre_1 Post := by
  intro l hfl _ _ p e ha hc hk s m args below hf hA hF happ hP
  obtain ⟨hcalls, hrest, hpre⟩ := hP
  obtain ⟨-, -, -, hnamed, -, -, -, hat⟩ := (Spec.applies_iff hf).mp happ
  obtain ⟨hg, hn⟩ := and_e (Cond.before_iff.mp (show (Jvm.Cond.and given_1 narrow_1).before args s = true from hpre))
  obtain ⟨hcnt, hr0⟩ := and_e hg
  obtain ⟨hi0, hr1⟩ := and_e hr0
  obtain ⟨hi1, hr2⟩ := and_e hr1
  obtain ⟨hi2, hr3⟩ := and_e hr2
  obtain ⟨hi3, hr4⟩ := and_e hr3
  obtain ⟨hi4, hi5⟩ := and_e hr4
  obtain ⟨w0, w1, w2, w3, w4, w5, rfl⟩ : ∃ w0 w1 w2 w3 w4 w5 : Value, args = #[w0, w1, w2, w3, w4, w5] := by
    have hs : args.size = 6 := by simpa [Cond.value, given_1] using hcnt
    obtain ⟨L⟩ := args
    match L, hs with
    | [w0, w1, w2, w3, w4, w5], _ => exact ⟨w0, w1, w2, w3, w4, w5, rfl⟩
  have hw := fun d (hd : d ∈ tables_1) => atoms_spec (ws := Jvm.Cond.code x code maxLocals ret :: tables_1) hat d (List.mem_cons_of_mem _ hd)
  have hfit : Fit s := fun {y c} hc i hi => by
    obtain ⟨ha, rfl⟩ := Array.getElem?_eq_some_iff.mp hc
    have q := List.all_eq_true.mp ((Array.all_eq_true_iff_forall_mem.mp hF) _ (Array.getElem_mem ha)) i (List.mem_range.mpr hi)
    simpa [Array.getElem?_eq_getElem hi] using q
  obtain ⟨i0, ei0⟩ := isL_v hi0
  obtain rfl : w0 = (.long i0) := Option.some.inj ei0
  obtain ⟨i1, ei1⟩ := is_v hi1
  obtain rfl : w1 = (.int i1) := Option.some.inj ei1
  obtain ⟨i2, ei2⟩ := isL_v hi2
  obtain rfl : w2 = (.long i2) := Option.some.inj ei2
  obtain ⟨i3, ei3⟩ := isL_v hi3
  obtain rfl : w3 = (.long i3) := Option.some.inj ei3
  obtain ⟨i4, ei4⟩ := isL_v hi4
  obtain rfl : w4 = (.long i4) := Option.some.inj ei4
  obtain ⟨i5, ei5⟩ := is_v hi5
  obtain rfl : w5 = (.int i5) := Option.some.inj ei5
  obtain ⟨n, o, h1, h2, h3, _, L, rfl, ⟨rfl, N⟩, hq⟩ := rm0 l s _ hw tables_1 i0 i1 i2 i3 i4 i5 s.heap s.heap.size (Nat.le_refl _)  p e ha hc hk s m _ below hf ((Spec.applies_iff_loose hf).mp happ).1 ⟨rfl, State.Warmed39.refl s, rfl⟩ trivial
  refine ⟨n, _, h1, h2, h3, hpost _ _ _ _ _ _ ⟨Cond.after_iff.mpr rfl, Cond.after_iff.mpr (eq_i res_at (Term.int_eval (1)) rfl), trivial⟩ ⟨hq.1, hq.2.1, (hq.2.2.sift fun y hy => Or.inr (N y hy)).mono (by decide) (by decide)⟩⟩
theorem main_1_1 : Claimed_1_1 := comes_1 fun _ _ _ _ _ _ h hF => ⟨h.1, hF⟩
theorem main_1_2 : Claimed_1_2 := comes_1 fun _ _ _ _ _ _ h hF => ⟨h.2.1, hF⟩
end Jvm.Pilot.@@N@@
namespace Jvm.Pilot.@@N@@
open Jvm Jvm.ClassFile Sem Op Lib Jvm.Free Jvm.Stand Jvm.Pilot.@@N@@.Jvm.D
/-! MADE BY PROGRAM (witnessworld.py) out of the Statement's table words and the real class files: 7 classes; the members and pool entries that the words name. The judged class is class 1, her method 1. -/
namespace start1
open Jvm.ClassFile
def u (s : String) : CpInfo := .utf8 (stringToUtf16 s)
/-- a pool by its gaps: so many unusable entries, then the entry; so many at the end -/
def gap : Nat → List CpInfo → List CpInfo
  | 0, r => r
  | n + 1, r => .unusable :: gap n r
def poolList (es : List (Nat × CpInfo)) (last : Nat) : List CpInfo := es.foldr (fun e r => gap e.1 (e.2 :: r)) (gap last [])
def pool (es : List (Nat × CpInfo)) (last : Nat) : Array CpInfo := ⟨poolList es last⟩
def fileOf (pool : Array CpInfo) (this : Nat) (attrs : Array Attribute := #[]) (ms : Array MethodInfo := #[]) (fl : Nat := 33) (sup : Nat := 0) (ifs : Array Nat := #[]) (fds : Array FieldInfo := #[]) : ClassFile where
  minorVersion := 0
  majorVersion := 65
  constantPool := pool
  accessFlags := fl
  thisClass := this
  superClass := sup
  interfaces := ifs
  fields := fds
  methods := ms
  attributes := attrs
def plain (name : String) (sup : Option ClassId) : Class where
  name := name
  kind := .ordinary
  loader := none
  accessFlags := 33
  super := sup
  interfaces := #[]
  cf := none
  fields := #[]
  methods := #[]
  instanceTypes := #[]
  staticTypes := #[]
  resolved := #[]
  callSites := []
  init := .initialized
  statics := none
  mirror := none

def pool0 : Array CpInfo := pool [(5, u "<init>"), (0, u "()V"), (1, .class_ 10), (1, u "java/lang/Object")] 113

def k0c0 : Code := { maxStack := 0, maxLocals := 1, code := object_method_1_code, exceptionTable := #[], attributes := #[] }
def k0m0 : Method := { name := "<init>", desc := "()V", sig := { parameters := [], returnType := none }, accessFlags := 1, code := some k0c0 }
/-- java/lang/Object -/
def k0 : Class := { plain "java/lang/Object" none with
  accessFlags := 33
  interfaces := #[]
  cf := some (fileOf pool0 8 #[] #[{ accessFlags := 1, nameIndex := 5, descriptorIndex := 6, attributes := #[] }] 33 0 #[] #[])
  fields := #[]
  methods := #[k0m0]
  instanceTypes := #[]
  staticTypes := #[]
  resolved := Array.replicate 124 none
  statics := none }

def pool1 : Array CpInfo := pool [(2, .class_ 4), (1, u "java/lang/Object"), (0, u "<init>"), (0, u "()V"), (0, .class_ 8), (0, u "com/example/rank_merge/rankmerge/io/TopicBlock"), (0, .methodref 7 10), (0, .nameAndType 5 11), (0, u "(JI)V"), (0, .methodref 7 13), (0, .nameAndType 14 15), (0, u "add"), (0, u "(J)V"), (0, .methodref 7 17), (0, .nameAndType 18 19), (0, u "getEnd"), (0, u "()J"), (0, .methodref 7 21), (0, .nameAndType 22 23), (0, u "getRecords"), (0, u "()I"), (0, .methodref 7 25), (0, .nameAndType 26 19), (0, u "getStart"), (0, .methodref 7 28), (0, .nameAndType 29 23), (0, u "getLinesBefore"), (0, .class_ 31), (0, u "com/example/rank_merge/rankmerge/io/TopicBlockAddPinLaw"), (2, u "law"), (0, u "(JIJJJI)Z")] 3

def k1m0 : Method := { name := "<init>", desc := "()V", sig := { parameters := [], returnType := none }, accessFlags := 1, code := none }
def k1c1 : Code := { maxStack := 5, maxLocals := 14, code := code, exceptionTable := #[], attributes := #[] }
def k1m1 : Method := { name := "law", desc := "(JIJJJI)Z", sig := { parameters := [.long, .int, .long, .long, .long, .int], returnType := some .boolean }, accessFlags := 9, code := some k1c1 }
/-- com/example/rank_merge/rankmerge/io/TopicBlockAddPinLaw -/
def k1 : Class := { plain "com/example/rank_merge/rankmerge/io/TopicBlockAddPinLaw" (some 0) with
  accessFlags := 49
  interfaces := #[]
  cf := some (fileOf pool1 30 #[] #[{ accessFlags := 1, nameIndex := 5, descriptorIndex := 6, attributes := #[] }, { accessFlags := 9, nameIndex := 34, descriptorIndex := 35, attributes := #[] }] 49 2 #[] #[])
  fields := #[]
  methods := #[k1m0, k1m1]
  instanceTypes := #[]
  staticTypes := #[]
  resolved := Array.replicate 39 none
  statics := none }

def pool2 : Array CpInfo := pool [(3, .methodref 4 5), (0, .class_ 6), (0, .nameAndType 7 8), (0, u "java/lang/Object"), (0, u "<init>"), (0, u "()V"), (0, .fieldref 10 11), (0, .class_ 12), (0, .nameAndType 13 14), (0, u "com/example/rank_merge/rankmerge/io/TopicBlock"), (0, u "start"), (0, u "J"), (0, .fieldref 10 16), (0, .nameAndType 17 18), (0, u "linesBefore"), (0, u "I"), (0, .fieldref 10 20), (0, .nameAndType 21 14), (0, u "end"), (0, .fieldref 10 23), (0, .nameAndType 24 18), (0, u "records"), (0, u "LONGEST"), (3, u "(JI)V"), (2, u "add"), (0, u "(J)V"), (0, u "getStart"), (0, u "()J"), (0, u "getEnd"), (0, u "getLinesBefore"), (0, u "()I"), (0, u "getRecords")] 2

def k2c0 : Code := { maxStack := 3, maxLocals := 4, code := prog_58_method_1_code, exceptionTable := #[], attributes := #[] }
def k2m0 : Method := { name := "<init>", desc := "(JI)V", sig := { parameters := [.long, .int], returnType := none }, accessFlags := 0, code := some k2c0 }
def k2c1 : Code := { maxStack := 3, maxLocals := 3, code := prog_58_method_2_code, exceptionTable := #[], attributes := #[] }
def k2m1 : Method := { name := "add", desc := "(J)V", sig := { parameters := [.long], returnType := none }, accessFlags := 0, code := some k2c1 }
def k2c2 : Code := { maxStack := 2, maxLocals := 1, code := prog_58_method_3_code, exceptionTable := #[], attributes := #[] }
def k2m2 : Method := { name := "getStart", desc := "()J", sig := { parameters := [], returnType := some .long }, accessFlags := 0, code := some k2c2 }
def k2c3 : Code := { maxStack := 2, maxLocals := 1, code := prog_58_method_4_code, exceptionTable := #[], attributes := #[] }
def k2m3 : Method := { name := "getEnd", desc := "()J", sig := { parameters := [], returnType := some .long }, accessFlags := 0, code := some k2c3 }
def k2c4 : Code := { maxStack := 1, maxLocals := 1, code := prog_58_method_5_code, exceptionTable := #[], attributes := #[] }
def k2m4 : Method := { name := "getLinesBefore", desc := "()I", sig := { parameters := [], returnType := some .int }, accessFlags := 0, code := some k2c4 }
def k2c5 : Code := { maxStack := 1, maxLocals := 1, code := prog_58_method_6_code, exceptionTable := #[], attributes := #[] }
def k2m5 : Method := { name := "getRecords", desc := "()I", sig := { parameters := [], returnType := some .int }, accessFlags := 0, code := some k2c5 }
/-- com/example/rank_merge/rankmerge/io/TopicBlock -/
def k2 : Class := { plain "com/example/rank_merge/rankmerge/io/TopicBlock" (some 0) with
  accessFlags := 32
  interfaces := #[]
  cf := some (fileOf pool2 10 #[] #[{ accessFlags := 0, nameIndex := 7, descriptorIndex := 29, attributes := #[] }, { accessFlags := 0, nameIndex := 32, descriptorIndex := 33, attributes := #[] }, { accessFlags := 0, nameIndex := 34, descriptorIndex := 35, attributes := #[] }, { accessFlags := 0, nameIndex := 36, descriptorIndex := 35, attributes := #[] }, { accessFlags := 0, nameIndex := 37, descriptorIndex := 38, attributes := #[] }, { accessFlags := 0, nameIndex := 39, descriptorIndex := 38, attributes := #[] }] 32 4 #[] #[{ accessFlags := 24, nameIndex := 25, descriptorIndex := 14, attributes := #[] }, { accessFlags := 18, nameIndex := 13, descriptorIndex := 14, attributes := #[] }, { accessFlags := 18, nameIndex := 17, descriptorIndex := 18, attributes := #[] }, { accessFlags := 2, nameIndex := 21, descriptorIndex := 14, attributes := #[] }, { accessFlags := 2, nameIndex := 24, descriptorIndex := 18, attributes := #[] }])
  fields := #[{ name := "LONGEST", type := .long, accessFlags := 24, slot := 0, constantValue := 0 }, { name := "start", type := .long, accessFlags := 18, slot := 0, constantValue := 0 }, { name := "linesBefore", type := .int, accessFlags := 18, slot := 1, constantValue := 0 }, { name := "end", type := .long, accessFlags := 2, slot := 2, constantValue := 0 }, { name := "records", type := .int, accessFlags := 2, slot := 3, constantValue := 0 }]
  methods := #[k2m0, k2m1, k2m2, k2m3, k2m4, k2m5]
  instanceTypes := #[.long, .int, .long, .int]
  staticTypes := #[.long]
  resolved := Array.replicate 42 none
  statics := none }

def pool3 : Array CpInfo := pool [(1, u "java/lang/Cloneable"), (0, .class_ 1), (0, u "java/lang/Object"), (0, .class_ 3)] 3

/-- java/lang/Cloneable -/
def k3 : Class := { plain "java/lang/Cloneable" (some 0) with
  accessFlags := 1537
  interfaces := #[]
  cf := some (fileOf pool3 2 #[] #[] 1537 4 #[] #[])
  fields := #[]
  methods := #[]
  instanceTypes := #[]
  staticTypes := #[]
  resolved := Array.replicate 8 none
  statics := none }

def pool4 : Array CpInfo := pool [(1, u "java/io/Serializable"), (0, .class_ 1), (0, u "java/lang/Object"), (0, .class_ 3)] 3

/-- java/io/Serializable -/
def k4 : Class := { plain "java/io/Serializable" (some 0) with
  accessFlags := 1537
  interfaces := #[]
  cf := some (fileOf pool4 2 #[] #[] 1537 4 #[] #[])
  fields := #[]
  methods := #[]
  instanceTypes := #[]
  staticTypes := #[]
  resolved := Array.replicate 8 none
  statics := none }

/-- the primitive byte -/
def k5 : Class := { plain "byte" none with kind := .primitive 'B', accessFlags := 0x411 }
/-- [B -/
def k6 : Class := { plain "[B" (some 0) with kind := .array 5 .byte, interfaces := #[3, 4], accessFlags := 1041 }

def heap : Heap := #[]
def classes : Array Class := #[k0, k1, k2, k3, k4, k5, k6]
def interned : List (Array UInt16 × Addr) := []
def slotsUsed : Nat := 0
def theMethod : MethodId := ⟨1, 1⟩
def args0 : Array Value := #[.long 5, .int 7, .long 6, .long 9, .long 10, .int 2]
def aboutOver (below : List Frame) : State where
  vm := { classes := classes, interned := interned.toArray }
  heap := heap
  slotsUsed := slotsUsed
  threads := #[{ frames := .invoking theMethod args0 :: below }]
def below0 : List Frame := [.native { method := ⟨0, 0⟩, args := #[] }]
def about1 : State := aboutOver below0
def p0 : Program := .bare "" "" ""
def e0 : Env := launch0.env 0 0 0
theorem w_frames : about1.frames = Frame.invoking theMethod args0 :: below0 := rfl
set_option maxRecDepth 65536 in
theorem w_args : argsFit about1.vm theMethod args0 = true := by decide +kernel
set_option maxRecDepth 65536 in
theorem w_heap : heapFits about1 = true := by decide +kernel
set_option maxRecDepth 65536 in
theorem w_runnable : about1.curStatus? = some .runnable := by decide +kernel
set_option maxRecDepth 65536 in
theorem w_alone : about1.alone = true := by decide +kernel
set_option maxRecDepth 65536 in
theorem w_named : about1.methodNamed? x = some theMethod := by decide +kernel
set_option maxRecDepth 65536 in
theorem w_hears : about1.hears theMethod below0 = true := by decide +kernel
set_option maxRecDepth 65536 in
theorem w_ripe : about1.ripe theMethod args0 below0 = true := by decide +kernel
theorem w_running : about1.status = .running := rfl
set_option maxRecDepth 65536 in
theorem w_room : about1.hasRoom e0.platform room_1 = true :=
  launch0.hasRoom_least _ room_1 (by decide +kernel) (by decide +kernel) (by decide +kernel) (by decide +kernel) (by decide +kernel) (by decide +kernel)
theorem allAtoms_all (ts : List Jvm.Cond) (a : Array Jvm.Value) (st : Jvm.State) : (allAtoms ts).before a st = ts.all (fun c => c.before a st) := by
  induction ts with
  | nil => rfl
  | cons c t ih =>
    show (Jvm.Cond.and c (allAtoms t)).before a st = _
    rw [Jvm.Cond.before_and, ih, List.all_cons]
def words1 : List Jvm.Cond := Jvm.Cond.code x code maxLocals ret :: tables_1
/-- a 'code' word, met by the world's own term for the bytes: nothing is compared byte by byte -/
theorem code_word {y : MethodName} {bytes : ByteArray} {mx : Nat} {rt : Option FieldType} {a : Array Value} {s : State} {m : MethodId} {meth : Method} {c : Code} (h1 : s.methodNamed? y = some m) (h2 : s.vm.method? m = some meth) (h3 : meth.code = some c) (h4 : c.code = bytes)
    (h5 : (c.maxLocals == mx && c.exceptionTable.isEmpty && decide (c.maxStack ≤ mostOperands) && decide (meth.sig.returnType = rt) && !meth.locks && decide (parseMethodDescriptor y.desc = some meth.sig)) = true) : (Jvm.Cond.code y bytes mx rt).before a s = true := by
  simp only [Bool.and_eq_true, beq_iff_eq, Bool.not_eq_true', decide_eq_true_eq] at h5
  obtain ⟨⟨⟨⟨⟨g1, g2⟩, g3⟩, g4⟩, g5⟩, g6⟩ := h5
  simp [Cond.before, Cond.holds, Cond.value, h1, h2, h3, h4, g1, g2, g3, g4, g5, g6]
def isCode : Jvm.Cond → Bool
  | .code _ _ _ _ => true
  | _ => false
theorem all_split {L : List Jvm.Cond} {P : Jvm.Cond → Bool} (h1 : L.all (fun c => isCode c || P c) = true) (h2 : ∀ c ∈ L.filter isCode, P c = true) : L.all P = true := by
  refine List.all_eq_true.mpr fun c hc => ?_
  have h := List.all_eq_true.mp h1 c hc
  rcases Bool.eq_false_or_eq_true (isCode c) with hi | hi
  · exact h2 c (List.mem_filter.mpr ⟨hc, hi⟩)
  · simpa [hi] using h
set_option maxRecDepth 65536 in
theorem w_c0 : (Jvm.Cond.code x code maxLocals ret).before args0 about1 = true := code_word (m := ⟨1, 1⟩) (meth := k1m1) (c := k1c1) (by decide +kernel) rfl rfl rfl (by decide +kernel)
set_option maxRecDepth 65536 in
theorem w_c1 : (Jvm.Cond.code ({ cls := "com/example/rank_merge/rankmerge/io/TopicBlock", name := "<init>", desc := "(JI)V" } : Jvm.MethodName) prog_58_method_1_code (4 : Nat) (Option.none : Option Jvm.ClassFile.FieldType)).before args0 about1 = true := code_word (m := ⟨2, 0⟩) (meth := k2m0) (c := k2c0) (by decide +kernel) rfl rfl rfl (by decide +kernel)
set_option maxRecDepth 65536 in
theorem w_c2 : (Jvm.Cond.code ({ cls := "java/lang/Object", name := "<init>", desc := "()V" } : Jvm.MethodName) object_method_1_code (1 : Nat) (Option.none : Option Jvm.ClassFile.FieldType)).before args0 about1 = true := code_word (m := ⟨0, 0⟩) (meth := k0m0) (c := k0c0) (by decide +kernel) rfl rfl rfl (by decide +kernel)
set_option maxRecDepth 65536 in
theorem w_c3 : (Jvm.Cond.code ({ cls := "com/example/rank_merge/rankmerge/io/TopicBlock", name := "getEnd", desc := "()J" } : Jvm.MethodName) prog_58_method_4_code (1 : Nat) (Option.some Jvm.ClassFile.FieldType.long)).before args0 about1 = true := code_word (m := ⟨2, 3⟩) (meth := k2m3) (c := k2c3) (by decide +kernel) rfl rfl rfl (by decide +kernel)
set_option maxRecDepth 65536 in
theorem w_c4 : (Jvm.Cond.code ({ cls := "com/example/rank_merge/rankmerge/io/TopicBlock", name := "getRecords", desc := "()I" } : Jvm.MethodName) prog_58_method_6_code (1 : Nat) (Option.some Jvm.ClassFile.FieldType.int)).before args0 about1 = true := code_word (m := ⟨2, 5⟩) (meth := k2m5) (c := k2c5) (by decide +kernel) rfl rfl rfl (by decide +kernel)
set_option maxRecDepth 65536 in
theorem w_c5 : (Jvm.Cond.code ({ cls := "com/example/rank_merge/rankmerge/io/TopicBlock", name := "getStart", desc := "()J" } : Jvm.MethodName) prog_58_method_3_code (1 : Nat) (Option.some Jvm.ClassFile.FieldType.long)).before args0 about1 = true := code_word (m := ⟨2, 2⟩) (meth := k2m2) (c := k2c2) (by decide +kernel) rfl rfl rfl (by decide +kernel)
set_option maxRecDepth 65536 in
theorem w_c6 : (Jvm.Cond.code ({ cls := "com/example/rank_merge/rankmerge/io/TopicBlock", name := "getLinesBefore", desc := "()I" } : Jvm.MethodName) prog_58_method_5_code (1 : Nat) (Option.some Jvm.ClassFile.FieldType.int)).before args0 about1 = true := code_word (m := ⟨2, 4⟩) (meth := k2m4) (c := k2c4) (by decide +kernel) rfl rfl rfl (by decide +kernel)
set_option maxRecDepth 65536 in
theorem w_c7 : (Jvm.Cond.code ({ cls := "com/example/rank_merge/rankmerge/io/TopicBlock", name := "add", desc := "(J)V" } : Jvm.MethodName) prog_58_method_2_code (3 : Nat) (Option.none : Option Jvm.ClassFile.FieldType)).before args0 about1 = true := code_word (m := ⟨2, 1⟩) (meth := k2m1) (c := k2c1) (by decide +kernel) rfl rfl rfl (by decide +kernel)
def codes1 : List Jvm.Cond := [Jvm.Cond.code x code maxLocals ret, Jvm.Cond.code ({ cls := "com/example/rank_merge/rankmerge/io/TopicBlock", name := "<init>", desc := "(JI)V" } : Jvm.MethodName) prog_58_method_1_code (4 : Nat) (Option.none : Option Jvm.ClassFile.FieldType), Jvm.Cond.code ({ cls := "java/lang/Object", name := "<init>", desc := "()V" } : Jvm.MethodName) object_method_1_code (1 : Nat) (Option.none : Option Jvm.ClassFile.FieldType), Jvm.Cond.code ({ cls := "com/example/rank_merge/rankmerge/io/TopicBlock", name := "getEnd", desc := "()J" } : Jvm.MethodName) prog_58_method_4_code (1 : Nat) (Option.some Jvm.ClassFile.FieldType.long), Jvm.Cond.code ({ cls := "com/example/rank_merge/rankmerge/io/TopicBlock", name := "getRecords", desc := "()I" } : Jvm.MethodName) prog_58_method_6_code (1 : Nat) (Option.some Jvm.ClassFile.FieldType.int), Jvm.Cond.code ({ cls := "com/example/rank_merge/rankmerge/io/TopicBlock", name := "getStart", desc := "()J" } : Jvm.MethodName) prog_58_method_3_code (1 : Nat) (Option.some Jvm.ClassFile.FieldType.long), Jvm.Cond.code ({ cls := "com/example/rank_merge/rankmerge/io/TopicBlock", name := "getLinesBefore", desc := "()I" } : Jvm.MethodName) prog_58_method_5_code (1 : Nat) (Option.some Jvm.ClassFile.FieldType.int), Jvm.Cond.code ({ cls := "com/example/rank_merge/rankmerge/io/TopicBlock", name := "add", desc := "(J)V" } : Jvm.MethodName) prog_58_method_2_code (3 : Nat) (Option.none : Option Jvm.ClassFile.FieldType)]
set_option maxRecDepth 65536 in
theorem codes_eq : words1.filter isCode = codes1 := rfl
theorem w_codes : ∀ c ∈ words1.filter isCode, c.before args0 about1 = true := by
  rw [codes_eq]
  intro c hc
  simp only [codes1, List.mem_cons, List.not_mem_nil, or_false] at hc
  rcases hc with rfl | rfl | rfl | rfl | rfl | rfl | rfl | rfl
  · exact w_c0
  · exact w_c1
  · exact w_c2
  · exact w_c3
  · exact w_c4
  · exact w_c5
  · exact w_c6
  · exact w_c7
set_option maxRecDepth 65536 in
theorem w_t1 : (words1.take 24).all (fun c => isCode c || c.before args0 about1) = true := by decide +kernel
set_option maxRecDepth 65536 in
theorem w_t2 : (words1.drop 24).all (fun c => isCode c || c.before args0 about1) = true := by decide +kernel
theorem w_tables : (allAtoms (Jvm.Cond.code x code maxLocals ret :: tables_1)).before args0 about1 = true := by
  rw [allAtoms_all]
  show words1.all (fun c => c.before args0 about1) = true
  refine all_split ?_ w_codes
  rw [← List.take_append_drop 24 words1, List.all_append, w_t1, w_t2]
  rfl
set_option maxRecDepth 65536 in
theorem w_case : (Jvm.Cond.and given_1 narrow_1).before args0 about1 = true := by decide +kernel
theorem w_applies : (headSpec (Jvm.Cond.code x code maxLocals ret :: tables_1) room_1).applies x e0.platform about1 = true :=
  (Spec.applies_iff w_frames).mpr ⟨w_running, w_runnable, w_alone, w_named, w_hears, w_ripe, w_room, w_tables⟩
theorem atStart : AtStart classFile x code maxLocals ret World_1 tables_1 room_1 Calls_1 rest_1 Pre_1 launch0 p0 e0 about1 theMethod args0 below0 :=
  ⟨lists_1, trivial, launch0.admits_env _ _ _, launch0.least_env, fairChoices_fair.cas, fairChoices_fair.clock, w_frames, w_args, w_heap, w_applies, trivial, trivial, w_case⟩
end start1
theorem witness_1 : WitnessClaimed_1 := ⟨start1.p0, start1.e0, start1.about1, start1.theMethod, start1.args0, start1.below0, start1.atStart⟩
end Jvm.Pilot.@@N@@
