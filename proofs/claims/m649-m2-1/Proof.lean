import JvmDerived
import JvmDerived.Pilot.@@N@@Statement
import JvmDerived.Pilot.@@N@@Code
set_option linter.unusedVariables false
set_option linter.unusedSimpArgs false
namespace Jvm.Pilot.@@N@@
open Jvm Jvm.ClassFile Sem Op Lib Jvm.Free Jvm.Stand Jvm.LawKit Jvm.RoadKit Bundle Jvm.Pilot.@@N@@.Jvm.D
/-! a run from here comes to the end of the invocation, and Q holds there -/
section OwnWp
variable {p : Program} {l : Launch} {e : Env} {R : Room} {s : State} {m : MethodId} {args : Array Value} {below : List Frame} {meth : Method} {c : Code} {T : State} {locs : List Loc} {cells slots : Nat}
def Wp (p : Program) (e : Env) (below : List Frame) (Q : Outcome → State → Prop) (A : State) : Prop := ∃ s₂ o, Steps p.tables e below A s₂ ∧ s₂.status = .running ∧ Ended s₂ below o ∧ Q o s₂
def Out (s : State) (Q : Option Value → Heap → List Loc → Prop) (k n : Nat) (o : Outcome) (t : State) : Prop := ∃ v L, o = .returned v ∧ Q v t.heap L ∧ FrameEnd s o t L k n
theorem Wp.step {Q : Outcome → State → Prop} {A B : State} (h : ∀ t, Steps p.tables e below B t → Steps p.tables e below A t) (k : Wp p e below Q B) : Wp p e below Q A := by
  obtain ⟨s₂, o, h1, h2⟩ := k; exact ⟨s₂, o, h _ h1, h2⟩
theorem Wp.go {Q : Outcome → State → Prop} {A B : State} (h : Steps p.tables e below A B) (k : Wp p e below Q B) : Wp p e below Q A := Wp.step (fun _ q => h.trans q) k
theorem Wp.out (X : Stand p l e R s m args below meth c T locs cells slots) {A : State} {v : Option Value} {Q : Option Value → Heap → List Loc → Prop} {k n : Nat} (hv : meth.sig.returnType = none → v = none) (hlk : meth.locks = false)
    (hs : ∀ fs, (∀ (f : JFrame) (acts : List Action), f.method = m → f.locked = none → f.entered = [] → (doReturn e (T.setTop f) acts v).1 = T.setFrames fs) → Steps p.tables e below A (T.setFrames fs)) (hQ : Q v T.heap locs) (hk : cells ≤ k) (hn : slots ≤ n) : Wp p e below (Out s Q k n) A := by
  obtain ⟨fs, hr, hrun, hended, hW, hsame⟩ := X.leave (v := v) hv hlk
  exact ⟨_, _, hs fs hr, hrun, hended, _, _, rfl, hQ, ⟨_, rfl⟩, hW, hsame.mono hk hn⟩
theorem Wp.retV (X : Stand p l e R s m args below meth c T locs cells slots) (hx : p.tables.exec = Jvm.exec) {pc : Nat} {Ls : Array Slot} {Q : Option Value → Heap → List Loc → Prop} {k n : Nat} (hret : meth.sig.returnType = none) (hd : decode c.code pc = .ok (.return_, 1)) (hlk : meth.locks = false)
    (hQ : Q none T.heap locs) (hk : cells ≤ k) (hn : slots ≤ n) : Wp p e below (Out s Q k n) (T.setTop (mkF m pc Ls [])) := Wp.out X (fun _ => rfl) hlk (fun fs hr => X.returnOut hx hret hd hr) hQ hk hn
theorem Wp.retN (X : Stand p l e R s m args below meth c T locs cells slots) (hx : p.tables.exec = Jvm.exec) {pc : Nat} {Ls : Array Slot} {z : Int32} {rest : List Value} {t : FieldType} {Q : Option Value → Heap → List Loc → Prop} {k n : Nat} (hret : meth.sig.returnType = some t) (ht : t = .boolean ∨ t = .byte ∨ t = .char ∨ t = .short) (hd : decode c.code pc = .ok (.ireturn, 1)) (hlk : meth.locks = false)
    (hQ : Q (some (.int (nar t z))) T.heap locs) (hk : cells ≤ k) (hn : slots ≤ n) : Wp p e below (Out s Q k n) (T.setTop (mkF m pc Ls (.int z :: rest))) := Wp.out X (fun h => by rw [hret] at h; cases h) hlk (fun fs hr => Jvm.RoadKit.retN X hx hret ht hd hr) hQ hk hn
theorem Wp.retI (X : Stand p l e R s m args below meth c T locs cells slots) (hx : p.tables.exec = Jvm.exec) {pc : Nat} {Ls : Array Slot} {z : Int32} {rest : List Value} {Q : Option Value → Heap → List Loc → Prop} {k n : Nat} (hret : meth.sig.returnType = some .int) (hd : decode c.code pc = .ok (.ireturn, 1)) (hlk : meth.locks = false)
    (hQ : Q (some (.int z)) T.heap locs) (hk : cells ≤ k) (hn : slots ≤ n) : Wp p e below (Out s Q k n) (T.setTop (mkF m pc Ls (.int z :: rest))) := Wp.out X (fun h => by rw [hret] at h; cases h) hlk (fun fs hr => Jvm.RoadKit.retOut X hx hret rfl (Or.inl ⟨rfl, Or.inl rfl, z, rfl⟩) hd hr) hQ hk hn
theorem Wp.retJ (X : Stand p l e R s m args below meth c T locs cells slots) (hx : p.tables.exec = Jvm.exec) {pc : Nat} {Ls : Array Slot} {z : Int64} {rest : List Value} {Q : Option Value → Heap → List Loc → Prop} {k n : Nat} (hret : meth.sig.returnType = some .long) (hd : decode c.code pc = .ok (.lreturn, 1)) (hlk : meth.locks = false)
    (hQ : Q (some (.long z)) T.heap locs) (hk : cells ≤ k) (hn : slots ≤ n) : Wp p e below (Out s Q k n) (T.setTop (mkF m pc Ls (.long z :: rest))) := Wp.out X (fun h => by rw [hret] at h; cases h) hlk (fun fs hr => Jvm.RoadKit.retOut X hx hret rfl (Or.inr (Or.inl ⟨rfl, rfl, z, rfl⟩)) hd hr) hQ hk hn
theorem Wp.retA (X : Stand p l e R s m args below meth c T locs cells slots) (hx : p.tables.exec = Jvm.exec) {pc : Nat} {Ls : Array Slot} {w : Value} {rest : List Value} {t : FieldType} {Q : Option Value → Heap → List Loc → Prop} {k n : Nat} (hret : meth.sig.returnType = some t) (hw : w.isRef = true) (hd : decode c.code pc = .ok (.areturn, 1)) (hlk : meth.locks = false)
    (hQ : Q (some w) T.heap locs) (hk : cells ≤ k) (hn : slots ≤ n) (ht : t.isReference = true := by rfl) : Wp p e below (Out s Q k n) (T.setTop (mkF m pc Ls (w :: rest))) := Wp.out X (fun h => by rw [hret] at h; cases h) hlk (fun fs hr => Jvm.RoadKit.retOut X hx hret (by cases t <;> first | (cases ht; done) | (cases w <;> first | (cases hw; done) | rfl)) (Or.inr (Or.inr (Or.inr (Or.inr ⟨rfl, ht, hw⟩)))) hd hr) hQ hk hn
end OwnWp
/-! arrays of whole numbers as functions of the place -/
def own_IA (ty : FieldType) (Z : State) (h : Heap) (a : Addr) (len : Int32) (g : Nat → Int32) : Prop := ∃ cl : Cell, Arr Z h a cl ty ∧ cl.slots.size = len.toNatClampNeg ∧ ¬ len < 0 ∧ ∀ i : Nat, i < len.toNatClampNeg → cl.slots[i]? = some (.int (g i)) ∧ fits ty (.int (g i)) = true
def own_JA (Z : State) (h : Heap) (a : Addr) (len : Int32) (g : Nat → Int64) : Prop := ∃ cl : Cell, Arr Z h a cl .long ∧ cl.slots.size = len.toNatClampNeg ∧ ¬ len < 0 ∧ ∀ i : Nat, i < len.toNatClampNeg → cl.slots[i]? = some (.long (g i))
def own_upd (g : Nat → Int32) (k : Nat) (y : Int32) : Nat → Int32 := fun i => if i = k then y else g i
def own_updJ (g : Nat → Int64) (k : Nat) (y : Int64) : Nat → Int64 := fun i => if i = k then y else g i
section OwnArr
variable {ty : FieldType} {Z : State} {h h' : Heap} {a b : Addr} {len : Int32} {g g' : Nat → Int32} {gj gj' : Nat → Int64} {ws : List Addr} {sl : Nat} {v : Value}
theorem own_IA.lt (F : own_IA ty Z h a len g) : a < h.size := by obtain ⟨c, A, -⟩ := F; exact A.lt
theorem own_IA.ext (F : own_IA ty Z h a len g) (E : Ext h h') : own_IA ty Z h' a len g := by obtain ⟨c, A, r⟩ := F; exact ⟨c, A.ext E, r⟩
theorem own_IA.other (F : own_IA ty Z h b len g) (W : Wr h h' a sl v) (q : b ≠ a) : own_IA ty Z h' b len g := by obtain ⟨c, A, r⟩ := F; exact ⟨c, A.other W q, r⟩
theorem own_IA.keep (F : own_IA ty Z h a len g) (K : Keep h h' ws) (q : a ∉ ws) : own_IA ty Z h' a len g := by obtain ⟨c, A, r⟩ := F; exact ⟨c, ⟨K.2.1 a c A.1 q, A.2⟩, r⟩
theorem own_JA.lt (F : own_JA Z h a len gj) : a < h.size := by obtain ⟨c, A, -⟩ := F; exact A.lt
theorem own_JA.ext (F : own_JA Z h a len gj) (E : Ext h h') : own_JA Z h' a len gj := by obtain ⟨c, A, r⟩ := F; exact ⟨c, A.ext E, r⟩
theorem own_JA.other (F : own_JA Z h b len gj) (W : Wr h h' a sl v) (q : b ≠ a) : own_JA Z h' b len gj := by obtain ⟨c, A, r⟩ := F; exact ⟨c, A.other W q, r⟩
theorem own_JA.keep (F : own_JA Z h a len gj) (K : Keep h h' ws) (q : a ∉ ws) : own_JA Z h' a len gj := by obtain ⟨c, A, r⟩ := F; exact ⟨c, ⟨K.2.1 a c A.1 q, A.2⟩, r⟩
theorem own_narb (x : Int32) : nar .byte x.toInt8.toInt32 = x.toInt8.toInt32 := by simp [nar]
theorem own_IA.set {cl : Cell} {j x : Int32} (A : Arr Z h a cl ty) (S : cl.slots.size = len.toNatClampNeg) (N : ¬ len < 0) (H : ∀ i : Nat, i < len.toNatClampNeg → cl.slots[i]? = some (.int (g i)) ∧ fits ty (.int (g i)) = true) (W : Wr h h' a j.toNatClampNeg (.int x)) (hf : fits ty (.int x) = true) : own_IA ty Z h' a len (own_upd g j.toNatClampNeg x) := by
  refine ⟨_, A.same W, by rw [sz_set]; exact S, N, fun i hi => ?_⟩
  unfold own_upd
  by_cases q : i = j.toNatClampNeg
  · subst q; rw [if_pos rfl]; exact ⟨by simp [Cell.setSlot, S, hi], hf⟩
  · rw [if_neg q]; exact ⟨by rw [Jvm.LawKit.slot_ne cl _ (Ne.symm q)]; exact (H i hi).1, (H i hi).2⟩
theorem own_JA.set {cl : Cell} {j : Int32} {x : Int64} (A : Arr Z h a cl .long) (S : cl.slots.size = len.toNatClampNeg) (N : ¬ len < 0) (H : ∀ i : Nat, i < len.toNatClampNeg → cl.slots[i]? = some (.long (gj i))) (W : Wr h h' a j.toNatClampNeg (.long x)) : own_JA Z h' a len (own_updJ gj j.toNatClampNeg x) := by
  refine ⟨_, A.same W, by rw [sz_set]; exact S, N, fun i hi => ?_⟩
  unfold own_updJ
  by_cases q : i = j.toNatClampNeg
  · subst q; rw [if_pos rfl]; simp [Cell.setSlot, S, hi]
  · rw [if_neg q, Jvm.LawKit.slot_ne cl _ (Ne.symm q)]; exact H i hi
theorem own_IA.new {k : ClassId} {n : Int32} (A : Arr Z h a (newA k ty n) ty) (N : ¬ n < 0) (hd : defaultValue ty = .int 0) : own_IA ty Z h a n (fun _ => (0 : Int32)) :=
  ⟨_, A, sz_new _ _ _, N, fun i hi => ⟨by simp [newA, hi, hd], by rw [← hd]; cases ty <;> first | rfl | cases hd⟩⟩
theorem own_JA.new {k : ClassId} {n : Int32} (A : Arr Z h a (newA k .long n) .long) (N : ¬ n < 0) : own_JA Z h a n (fun _ => (0 : Int64)) :=
  ⟨_, A, sz_new _ _ _, N, fun i hi => by simp [newA, hi, defaultValue]⟩
theorem own_IA.cong (F : own_IA ty Z h a len g) (e : ∀ i, i < len.toNatClampNeg → g' i = g i) : own_IA ty Z h a len g' := by
  obtain ⟨c, A, S, N, H⟩ := F; exact ⟨c, A, S, N, fun i hi => by rw [e i hi]; exact H i hi⟩
theorem own_JA.cong (F : own_JA Z h a len gj) (e : ∀ i, i < len.toNatClampNeg → gj' i = gj i) : own_JA Z h a len gj' := by
  obtain ⟨c, A, S, N, H⟩ := F; exact ⟨c, A, S, N, fun i hi => by rw [e i hi]; exact H i hi⟩
theorem own_range {α : Type} (f : Nat → α) (n k : Nat) (d : α) (hk : k < n) : ((List.range n).map f).getD k d = f k := by
  simp [List.getD_eq_getElem?_getD, List.getElem?_map, List.getElem?_range hk]
theorem own_IA.arv (F : own_IA ty Z h a len g) : ∃ k, Arv Z h a k ty len ((List.range len.toNatClampNeg).map fun i => Value.int (g i)) (.int 0) := by
  obtain ⟨c, A, S, N, H⟩ := F
  exact ⟨c.cls, c, A, rfl, S, N, fun i hi => by rw [S] at hi; rw [own_range _ _ _ _ hi]; exact (H i hi).1, fun i hi => by rw [S] at hi; rw [own_range _ _ _ _ hi]; exact (H i hi).2⟩
theorem own_IA.ofArv {k : ClassId} {vs : List Value} {dv : Value} (F : Arv Z h a k ty len vs dv) (H : ∀ i, i < len.toNatClampNeg → vs.getD i dv = .int (g i)) : own_IA ty Z h a len g := by
  obtain ⟨c, A, -, S, N, G1, G2⟩ := F
  exact ⟨c, A, S, N, fun i hi => ⟨by rw [← H i hi]; exact G1 i (by rw [S]; exact hi), by rw [← H i hi]; exact G2 i (by rw [S]; exact hi)⟩⟩
theorem own_JA.arv (F : own_JA Z h a len gj) : ∃ k, Arv Z h a k .long len ((List.range len.toNatClampNeg).map fun i => Value.long (gj i)) (.long 0) := by
  obtain ⟨c, A, S, N, H⟩ := F
  exact ⟨c.cls, c, A, rfl, S, N, fun i hi => by rw [S] at hi; rw [own_range _ _ _ _ hi]; exact H i hi, fun i hi => by rw [S] at hi; rw [own_range _ _ _ _ hi]; rfl⟩
theorem own_JA.ofArv {k : ClassId} {vs : List Value} {dv : Value} (F : Arv Z h a k .long len vs dv) (H : ∀ i, i < len.toNatClampNeg → vs.getD i dv = .long (gj i)) : own_JA Z h a len gj := by
  obtain ⟨c, A, -, S, N, G1, G2⟩ := F
  exact ⟨c, A, S, N, fun i hi => by rw [← H i hi]; exact G1 i (by rw [S]; exact hi)⟩
def own_copy {α : Type} (gs gd : Nat → α) (sp dp nn : Nat) : Nat → α := fun i => if dp ≤ i ∧ i < dp + nn then gs (sp + (i - dp)) else gd i
theorem own_copy_list {α : Type} (gs gd : Nat → α) (us : List α) (B sp dp nn : Nat) (d : α) (l2 : us.length = nn) (hu : ∀ k, k < nn → us[k]? = some (gs (sp + k))) (h2 : dp + nn ≤ B) (i : Nat) (hi : i < B) :
    ((((List.range B).map gd).take dp ++ us ++ ((List.range B).map gd).drop (dp + nn)).getD i d) = own_copy gs gd sp dp nn i := by
  have l1 : (((List.range B).map gd).take dp).length = dp := by simp; omega
  unfold own_copy
  simp only [List.getD_eq_getElem?_getD]
  by_cases q1 : i < dp
  · rw [if_neg (by omega), List.append_assoc, List.getElem?_append_left (by rw [l1]; exact q1), List.getElem?_take_of_lt q1, List.getElem?_map, List.getElem?_range hi]; rfl
  · by_cases q2 : i < dp + nn
    · rw [if_pos ⟨by omega, q2⟩, List.append_assoc, List.getElem?_append_right (by rw [l1]; omega), l1, List.getElem?_append_left (by rw [l2]; omega), hu _ (by omega)]; rfl
    · rw [if_neg (by omega), List.getElem?_append_right (by rw [List.length_append, l1, l2]; omega), List.length_append, l1, l2, List.getElem?_drop, show dp + nn + (i - (dp + nn)) = i by omega, List.getElem?_map, List.getElem?_range hi]; rfl
theorem own_copy_us {α : Type} (gs : Nat → α) (A sp nn : Nat) (d : α) (h1 : sp + nn ≤ A) (k : Nat) (hk : k < nn) : ((List.range nn).map (fun i => ((List.range A).map gs).getD (sp + i) d))[k]? = some (gs (sp + k)) := by
  rw [List.getElem?_map, List.getElem?_range hk]
  show some (((List.range A).map gs).getD (sp + k) d) = _
  rw [own_range _ _ _ _ (by omega)]
section OwnCp
variable {p : Program} {l : Launch} {e : Env} {R : Room} {s : State} {m : MethodId} {args : Array Value} {below : List Frame} {meth : Method} {c : Code} {T : State} {locs : List Loc} {cells slots : Nat}
theorem own_cpI (X : Stand p l e R s m args below meth c T locs cells slots) (hx : p.tables.exec = Jvm.exec) (hZ : Z.Warmed39 s.vm) {a0 : Array Value} {own : String} {index : Nat} (hown : s.vm.findClass own = some m.cls)
    (w1 : (Jvm.Cond.methodLink own index Jvm.Stand.acN).before a0 Z = true) (w2 : (Jvm.Cond.native Jvm.Stand.acN).before a0 Z = true) (w3 : (Jvm.Cond.static Jvm.Stand.acN).before a0 Z = true) (w4 : (Jvm.Cond.initialized "java/lang/System").before a0 Z = true) (eT : T.heap = h)
    {z z' sp dp nn : Int32} {gs gd : Nat → Int32} (A : own_IA ty Z h a z gs) (B : own_IA ty Z h b z' gd) (hty : refKind ty = false)
    (h1 : ¬ sp < 0) (h2 : ¬ dp < 0) (h3 : ¬ nn < 0) (h4 : sp.toNatClampNeg + nn.toNatClampNeg ≤ z.toNatClampNeg) (h5 : dp.toNatClampNeg + nn.toNatClampNeg ≤ z'.toNatClampNeg) {n0 : Nat} (N : Fr n0 locs) (ge : n0 ≤ b)
    {g : JFrame} (hg : g.method = m) (hsize : g.locals.size = c.maxLocals) {rest : List Value} (hs : g.stack = .int nn :: .int dp :: .ref b :: .int sp :: .ref a :: rest) (hd : decode c.code g.pc = .ok (.invokestatic index, 3))
    (hf : 1 ≤ R.frames) {W : Nat} (hW : 2 * g.monitorRoom + (rest.map fun v => v.category).sum ≤ W) (hlo : W + (nativeFrameWords "java/lang/System" "arraycopy" 5 + 11) ≤ R.locals) :
    ∃ T' h' L, Stand p l e R s m args below meth c T' L cells slots ∧ T'.heap = h' ∧ Fr n0 L ∧ Keep h h' [b] ∧ own_IA ty Z h' b z' (own_copy gs gd sp.toNatClampNeg dp.toNatClampNeg nn.toNatClampNeg) ∧
      ∀ target, Steps p.tables e below (T'.setTop { g with pc := g.pc + 3, stack := rest }) target → Steps p.tables e below (T.setTop g) target := by
  obtain ⟨k1, A1⟩ := A.arv
  obtain ⟨k2, B1⟩ := B.arv
  obtain ⟨T', h', L, q1, q2, q3, q4, q5, q6⟩ := cpA X hx hZ hown w1 w2 w3 w4 eT A1 B1 (Or.inl ⟨rfl, hty⟩) h1 h2 h3 h4 h5 rfl (by simpa using h5) N ge hg hsize hs hd hf hW hlo
  refine ⟨T', h', L, q1, q2, q3, q4, own_IA.ofArv q5 fun i hi => ?_, q6⟩
  have r := own_copy_list (fun i => Value.int (gs i)) (fun i => Value.int (gd i)) _ z'.toNatClampNeg sp.toNatClampNeg dp.toNatClampNeg nn.toNatClampNeg (.int 0) (by simp) (own_copy_us (fun i => Value.int (gs i)) z.toNatClampNeg sp.toNatClampNeg nn.toNatClampNeg (.int 0) h4) h5 i hi
  rw [r]; unfold own_copy; split <;> rfl
theorem own_cpJ (X : Stand p l e R s m args below meth c T locs cells slots) (hx : p.tables.exec = Jvm.exec) (hZ : Z.Warmed39 s.vm) {a0 : Array Value} {own : String} {index : Nat} (hown : s.vm.findClass own = some m.cls)
    (w1 : (Jvm.Cond.methodLink own index Jvm.Stand.acN).before a0 Z = true) (w2 : (Jvm.Cond.native Jvm.Stand.acN).before a0 Z = true) (w3 : (Jvm.Cond.static Jvm.Stand.acN).before a0 Z = true) (w4 : (Jvm.Cond.initialized "java/lang/System").before a0 Z = true) (eT : T.heap = h)
    {z z' sp dp nn : Int32} {gs gd : Nat → Int64} (A : own_JA Z h a z gs) (B : own_JA Z h b z' gd)
    (h1 : ¬ sp < 0) (h2 : ¬ dp < 0) (h3 : ¬ nn < 0) (h4 : sp.toNatClampNeg + nn.toNatClampNeg ≤ z.toNatClampNeg) (h5 : dp.toNatClampNeg + nn.toNatClampNeg ≤ z'.toNatClampNeg) {n0 : Nat} (N : Fr n0 locs) (ge : n0 ≤ b)
    {g : JFrame} (hg : g.method = m) (hsize : g.locals.size = c.maxLocals) {rest : List Value} (hs : g.stack = .int nn :: .int dp :: .ref b :: .int sp :: .ref a :: rest) (hd : decode c.code g.pc = .ok (.invokestatic index, 3))
    (hf : 1 ≤ R.frames) {W : Nat} (hW : 2 * g.monitorRoom + (rest.map fun v => v.category).sum ≤ W) (hlo : W + (nativeFrameWords "java/lang/System" "arraycopy" 5 + 11) ≤ R.locals) :
    ∃ T' h' L, Stand p l e R s m args below meth c T' L cells slots ∧ T'.heap = h' ∧ Fr n0 L ∧ Keep h h' [b] ∧ own_JA Z h' b z' (own_copy gs gd sp.toNatClampNeg dp.toNatClampNeg nn.toNatClampNeg) ∧
      ∀ target, Steps p.tables e below (T'.setTop { g with pc := g.pc + 3, stack := rest }) target → Steps p.tables e below (T.setTop g) target := by
  obtain ⟨k1, A1⟩ := A.arv
  obtain ⟨k2, B1⟩ := B.arv
  obtain ⟨T', h', L, q1, q2, q3, q4, q5, q6⟩ := cpA X hx hZ hown w1 w2 w3 w4 eT A1 B1 (Or.inl ⟨rfl, rfl⟩) h1 h2 h3 h4 h5 rfl (by simpa using h5) N ge hg hsize hs hd hf hW hlo
  refine ⟨T', h', L, q1, q2, q3, q4, own_JA.ofArv q5 fun i hi => ?_, q6⟩
  have r := own_copy_list (fun i => Value.long (gs i)) (fun i => Value.long (gd i)) _ z'.toNatClampNeg sp.toNatClampNeg dp.toNatClampNeg nn.toNatClampNeg (.long 0) (by simp) (own_copy_us (fun i => Value.long (gs i)) z.toNatClampNeg sp.toNatClampNeg nn.toNatClampNeg (.long 0) h4) h5 i hi
  rw [r]; unfold own_copy; split <;> rfl
end OwnCp
end OwnArr
/-! small naturals as ints -/
theorem own_toInt {a : Nat} (h : a < 2147483648) : (Int32.ofNat a).toInt = a := by
  exact Int32.toInt_ofNat_of_lt h
theorem own_nat {a : Nat} (h : a < 2147483648) : (Int32.ofNat a).toNatClampNeg = a := by
  have q := own_toInt h
  simp only [Int32.toNatClampNeg, q]; omega
theorem own_lt {a b : Nat} (ha : a < 2147483648) (hb : b < 2147483648) : Int32.ofNat a < Int32.ofNat b ↔ a < b := by
  rw [Int32.lt_iff_toInt_lt, own_toInt ha, own_toInt hb]; omega
theorem own_eq {a b : Nat} (ha : a < 2147483648) (hb : b < 2147483648) : Int32.ofNat a = Int32.ofNat b ↔ a = b := by
  constructor
  · intro h; have := congrArg Int32.toInt h; rw [own_toInt ha, own_toInt hb] at this; omega
  · rintro rfl; rfl
theorem own_nn {a : Nat} (ha : a < 2147483648) : ¬ Int32.ofNat a < 0 := by
  have q : (0 : Int32) = Int32.ofNat 0 := rfl
  rw [q, own_lt ha (by omega)]; omega
theorem own_inb {a b : Nat} (h : a < b) (hb : b < 2147483648) : ¬ Int32.ofNat a < 0 ∧ Int32.ofNat a < Int32.ofNat b := ⟨own_nn (by omega), (own_lt (by omega) hb).mpr h⟩
theorem own_add (a b : Nat) : Int32.ofNat a + Int32.ofNat b = Int32.ofNat (a + b) := (Int32.ofNat_add a b).symm
theorem own_succ (a : Nat) : Int32.ofNat a + (1 : Int32) = Int32.ofNat (a + 1) := own_add a 1
theorem own_sub {a b : Nat} (h : b ≤ a) : Int32.ofNat a - Int32.ofNat b = Int32.ofNat (a - b) := by
  have q := own_add (a - b) b
  rw [Nat.sub_add_cancel h] at q
  rw [← q]; exact Int32.add_sub_cancel ..
theorem own_pred {a : Nat} (h : 1 ≤ a) : Int32.ofNat a - (1 : Int32) = Int32.ofNat (a - 1) := own_sub h
theorem own_pred' {a : Nat} : Int32.ofNat (a + 1) - (1 : Int32) = Int32.ofNat a := (own_sub (b := 1) (Nat.le_add_left 1 a)).trans (by rw [Nat.add_sub_cancel])
theorem own_dec {a : Nat} (h : 1 ≤ a) : Int32.ofNat a + (-1 : Int32) = Int32.ofNat (a - 1) := by rw [← own_pred h]; exact (Int32.sub_eq_add_neg _ _).symm
theorem own_dec_lt {a b : Nat} (ha : a < 2147483648) (hb : b < 2147483648) : Int32.ofNat a + (-1 : Int32) < Int32.ofNat b ↔ a < b + 1 := by
  have q : (Int32.ofNat a + (-1 : Int32)).toInt = (a : Int) - 1 := by
    rw [Int32.toInt_add, own_toInt ha]
    have : (-1 : Int32).toInt = -1 := by decide
    rw [this]; simp only [Int.bmod]; split <;> omega
  rw [Int32.lt_iff_toInt_lt, q, own_toInt hb]; omega
theorem own_incdec (a : Int32) : a + (-1 : Int32) + (1 : Int32) = a := by
  have : (-1 : Int32) + 1 = 0 := by decide
  rw [Int32.add_assoc, this]; exact Int32.add_zero a
def own_two (a b : Slot) : Prop := (a = .unset ∧ b = .unset) ∨ ∃ z, a = .val (.long z) ∧ b = .second
theorem own_two.u : own_two .unset .unset := Or.inl ⟨rfl, rfl⟩
theorem own_two.v (z : Int64) : own_two (.val (.long z)) .second := Or.inr ⟨z, rfl, rfl⟩
/-! a piece of an array as a list; sorting it in place -/
def own_seg (g : Nat → Int64) : Nat → Nat → List Int64
  | _, 0 => []
  | lo, n + 1 => g lo :: own_seg g (lo + 1) n
theorem own_seg_cong {g g' : Nat → Int64} : ∀ (n lo : Nat), (∀ j, lo ≤ j → j < lo + n → g j = g' j) → own_seg g lo n = own_seg g' lo n
  | 0, _, _ => rfl
  | n + 1, lo, h => by
    rw [own_seg, own_seg, h lo (by omega) (by omega), own_seg_cong n (lo + 1) fun j h1 h2 => h j (by omega) (by omega)]
theorem own_seg_len (g : Nat → Int64) : ∀ n lo, (own_seg g lo n).length = n
  | 0, _ => rfl
  | n + 1, lo => by rw [own_seg, List.length_cons, own_seg_len g n]
theorem own_seg_app (g : Nat → Int64) : ∀ n lo k, own_seg g lo (n + k) = own_seg g lo n ++ own_seg g (lo + n) k
  | 0, lo, k => by simp [own_seg]
  | n + 1, lo, k => by
    rw [show n + 1 + k = (n + k) + 1 by omega, own_seg, own_seg, own_seg_app g n (lo + 1) k, List.cons_append, show lo + 1 + n = lo + (n + 1) by omega]
theorem own_seg_snoc (g : Nat → Int64) (lo n : Nat) : own_seg g lo (n + 1) = own_seg g lo n ++ [g (lo + n)] := own_seg_app g n lo 1
theorem own_seg_get (g : Nat → Int64) : ∀ n lo i, i < n → (own_seg g lo n)[i]? = some (g (lo + i))
  | 0, _, _, h => absurd h (Nat.not_lt_zero _)
  | n + 1, lo, 0, _ => rfl
  | n + 1, lo, i + 1, h => by rw [own_seg, List.getElem?_cons_succ, own_seg_get g n (lo + 1) i (by omega), show lo + 1 + i = lo + (i + 1) by omega]
theorem own_seg_swap (g g' : Nat → Int64) (i : Nat) (h1 : g' i = g (i + 1)) (h2 : g' (i + 1) = g i) (h3 : ∀ j, j ≠ i → j ≠ i + 1 → g' j = g j) : ∀ n lo, lo ≤ i → i + 1 < lo + n → (own_seg g' lo n).Perm (own_seg g lo n)
  | 0, lo, a, b => by omega
  | n + 1, lo, a, b => by
    by_cases q : lo = i
    · subst q
      match n, b with
      | 0, b => omega
      | k + 1, _ =>
        simp only [own_seg]
        rw [h1, h2, own_seg_cong k (lo + 1 + 1) fun j u1 u2 => h3 j (by omega) (by omega)]
        exact List.Perm.swap ..
    · simp only [own_seg]
      rw [h3 lo q (by omega)]
      exact (own_seg_swap g g' i h1 h2 h3 n (lo + 1) (by omega) (by omega)).cons _
def own_upto (lo k hi : Nat) (g0 g : Nat → Int64) : Prop := (∀ j, j < lo ∨ hi ≤ j → g j = g0 j) ∧ (own_seg g lo (hi - lo)).Perm (own_seg g0 lo (hi - lo)) ∧ ∀ j, lo ≤ j → j + 1 < k → g j ≤ g (j + 1)
theorem own_upto.start (lo hi : Nat) (g : Nat → Int64) : own_upto lo (lo + 1) hi g g := ⟨fun _ _ => rfl, List.Perm.refl _, fun j a b => by omega⟩
theorem own_upto.keep {lo k hi : Nat} {g0 g : Nat → Int64} (h : own_upto lo k hi g0 g) (hk : 1 ≤ k) (q : ¬ g k < g (k - 1)) : own_upto lo (k + 1) hi g0 g := ⟨h.1, h.2.1, fun j a b => by
  by_cases e : j + 1 < k
  · exact h.2.2 j a e
  · obtain rfl : k = j + 1 := by omega
    exact Int64.not_lt.mp q⟩
theorem own_upto.mono {lo k k' hi : Nat} {g0 g : Nat → Int64} (h : own_upto lo k hi g0 g) (q : k' ≤ k) : own_upto lo k' hi g0 g := ⟨h.1, h.2.1, fun j a b => h.2.2 j a (by omega)⟩
def own_hole (lo k hi : Nat) (g0 g : Nat → Int64) (i : Nat) (ai : Int64) : Prop :=
  lo ≤ i ∧ i ≤ k ∧ k < hi ∧ (∀ j, j < lo ∨ hi ≤ j → own_updJ g i ai j = g0 j) ∧ (own_seg (own_updJ g i ai) lo (hi - lo)).Perm (own_seg g0 lo (hi - lo)) ∧
  (∀ j, lo ≤ j → j + 1 ≤ k → j + 1 ≠ i → own_updJ g i ai j ≤ own_updJ g i ai (j + 1)) ∧ (lo < i → i < k → own_updJ g i ai (i - 1) ≤ own_updJ g i ai (i + 1))
theorem own_updJ_self (g : Nat → Int64) (k : Nat) : own_updJ g k (g k) = g := by funext j; unfold own_updJ; split <;> simp_all
theorem own_updJ_at (g : Nat → Int64) (k : Nat) (y : Int64) : own_updJ g k y k = y := by simp [own_updJ]
theorem own_updJ_ne {g : Nat → Int64} {k j : Nat} {y : Int64} (h : j ≠ k) : own_updJ g k y j = g j := by simp [own_updJ, h]
theorem own_hole.start {lo k hi : Nat} {g0 g : Nat → Int64} (h : own_upto lo k hi g0 g) (a : lo ≤ k) (b : k < hi) : own_hole lo k hi g0 g k (g k) := by
  refine ⟨a, Nat.le_refl _, b, ?_, ?_, ?_, ?_⟩ <;> rw [own_updJ_self]
  · exact h.1
  · exact h.2.1
  · exact fun j u1 u2 u3 => h.2.2 j u1 (by omega)
  · intro u1 u2; omega
theorem own_hole.shift {lo k hi : Nat} {g0 g : Nat → Int64} {i : Nat} {ai : Int64} (h : own_hole lo k hi g0 g i ai) (a : lo < i) (q : ai < g (i - 1)) : own_hole lo k hi g0 (own_updJ g i (g (i - 1))) (i - 1) ai := by
  obtain ⟨h1, h2, h3, h4, h5, h6, h7⟩ := h
  obtain ⟨i, rfl⟩ : ∃ i', i = i' + 1 := ⟨i - 1, by omega⟩
  rw [Nat.add_sub_cancel] at q h7 ⊢
  have e1 : own_updJ (own_updJ g (i + 1) (g i)) i ai i = ai := own_updJ_at ..
  have e2 : own_updJ (own_updJ g (i + 1) (g i)) i ai (i + 1) = g i := by rw [own_updJ_ne (by omega), own_updJ_at]
  have e3 : ∀ j, j ≠ i → j ≠ i + 1 → own_updJ (own_updJ g (i + 1) (g i)) i ai j = g j := fun j u1 u2 => by rw [own_updJ_ne u1, own_updJ_ne u2]
  have d1 : own_updJ g (i + 1) ai (i + 1) = ai := own_updJ_at ..
  have d3 : ∀ j, j ≠ i + 1 → own_updJ g (i + 1) ai j = g j := fun j u => own_updJ_ne u
  refine ⟨by omega, by omega, h3, fun j u => ?_, ?_, fun j u1 u2 u3 => ?_, fun u1 u2 => ?_⟩
  · rw [e3 j (by omega) (by omega), ← h4 j u, d3 j (by omega)]
  · exact (own_seg_swap _ _ i (by rw [e1, d1]) (by rw [e2, d3 i (by omega)]) (fun j u1 u2 => by rw [e3 j u1 u2, d3 j u2]) _ _ (by omega) (by omega)).trans h5
  · by_cases v1 : j = i
    · subst v1; rw [e1, e2]; exact Int64.le_of_lt q
    · by_cases v2 : j = i + 1
      · subst v2
        rw [e2, e3 (i + 1 + 1) (by omega) (by omega)]
        have := h7 (by omega) (by omega)
        rwa [d3 i (by omega), d3 (i + 1 + 1) (by omega)] at this
      · rw [e3 j v1 v2, e3 (j + 1) (by omega) (by omega)]
        have := h6 j u1 u2 (by omega)
        rwa [d3 j v2, d3 (j + 1) (by omega)] at this
  · rw [e3 (i - 1) (by omega) (by omega), e2]
    have := h6 (i - 1) (by omega) (by omega) (by omega)
    rwa [d3 _ (by omega), show i - 1 + 1 = i by omega, d3 i (by omega)] at this
theorem own_hole.done {lo k hi : Nat} {g0 g : Nat → Int64} {i : Nat} {ai : Int64} (h : own_hole lo k hi g0 g i ai) (q : i < lo + 1 ∨ ¬ ai < g (i - 1)) : own_upto lo (k + 1) hi g0 (own_updJ g i ai) := by
  obtain ⟨h1, h2, h3, h4, h5, h6, h7⟩ := h
  refine ⟨h4, h5, fun j u1 u2 => ?_⟩
  by_cases v : j + 1 = i
  · subst v
    rcases q with q | q
    · omega
    · rw [own_updJ_at, own_updJ_ne (by omega)]
      rw [Nat.add_sub_cancel] at q
      exact Int64.not_lt.mp q
  · exact h6 j u1 (by omega) v
/-! the counting sort -/
def own_tot (K : Nat → Nat) (v : Nat) : Nat → Nat
  | 0 => 0
  | i + 1 => own_tot K v i + if K i = v then 1 else 0
def own_sel (K : Nat → Nat) (W : Nat → Int64) (v : Nat) : Nat → List Int64
  | 0 => []
  | i + 1 => own_sel K W v i ++ if K i = v then [W i] else []
def own_st (K : Nat → Nat) (c : Nat) : Nat → Nat
  | 0 => 0
  | v + 1 => own_st K c v + own_tot K v c
theorem own_sel_len (K : Nat → Nat) (W : Nat → Int64) (v : Nat) : ∀ i, (own_sel K W v i).length = own_tot K v i
  | 0 => rfl
  | i + 1 => by rw [own_sel, own_tot, List.length_append, own_sel_len K W v i]; split <;> rfl
theorem own_sel_mem {K : Nat → Nat} {W : Nat → Int64} {v : Nat} {w : Int64} : ∀ {c}, w ∈ own_sel K W v c → ∃ i, i < c ∧ K i = v ∧ W i = w
  | 0, h => by cases h
  | c + 1, h => by
    rw [own_sel, List.mem_append] at h
    rcases h with h | h
    · obtain ⟨i, h1, h2⟩ := own_sel_mem h; exact ⟨i, by omega, h2⟩
    · split at h
      · rename_i q; rw [List.mem_singleton] at h; exact ⟨c, by omega, q, h.symm⟩
      · cases h
theorem own_tot_mono (K : Nat → Nat) (v : Nat) {i j : Nat} (h : i ≤ j) : own_tot K v i ≤ own_tot K v j := by
  induction h with
  | refl => exact Nat.le_refl _
  | step _ ih => rw [own_tot]; omega
theorem own_tot_lt (K : Nat → Nat) {i c : Nat} (h : i < c) : own_tot K (K i) i < own_tot K (K i) c := by
  have q := own_tot_mono K (K i) (show i + 1 ≤ c from h)
  rw [own_tot, if_pos rfl] at q; omega
theorem own_st_mono (K : Nat → Nat) (c : Nat) {u v : Nat} (h : u ≤ v) : own_st K c u ≤ own_st K c v := by
  induction h with
  | refl => exact Nat.le_refl _
  | step _ ih => rw [own_st]; omega
theorem own_st_zero (K : Nat → Nat) : ∀ v, own_st K 0 v = 0
  | 0 => rfl
  | v + 1 => by rw [own_st, own_st_zero K v]; rfl
theorem own_st_step (K : Nat → Nat) (c : Nat) : ∀ v, own_st K (c + 1) v = own_st K c v + if K c < v then 1 else 0
  | 0 => by simp [own_st]
  | v + 1 => by
    rw [own_st, own_st_step K c v, own_st, own_tot]
    by_cases h1 : K c < v
    · rw [if_pos h1, if_neg (by omega), if_pos (by omega)]; omega
    · rw [if_neg h1]
      by_cases h2 : K c = v
      · rw [if_pos h2, if_pos (by omega)]; omega
      · rw [if_neg h2, if_neg (by omega)]; omega
theorem own_st_all {K : Nat → Nat} {n : Nat} : ∀ {c : Nat}, (∀ i, i < c → K i < n) → own_st K c n = c
  | 0, _ => own_st_zero K n
  | c + 1, h => by rw [own_st_step, own_st_all fun i hi => h i (by omega), if_pos (h c (by omega))]
theorem own_st_le {K : Nat → Nat} {n c v : Nat} (h : ∀ i, i < c → K i < n) (hv : v ≤ n) : own_st K c v ≤ c := Nat.le_trans (own_st_mono K c hv) (Nat.le_of_eq (own_st_all h))
theorem own_tot_le (K : Nat → Nat) (v : Nat) : ∀ c, own_tot K v c ≤ c
  | 0 => Nat.le_refl _
  | c + 1 => by have := own_tot_le K v c; rw [own_tot]; split <;> omega
def own_f1 (K : Nat → Nat) (i : Nat) : Nat → Int32
  | 0 => 0
  | v + 1 => Int32.ofNat (own_tot K v i)
theorem own_f1_zero (K : Nat → Nat) : own_f1 K 0 = fun _ => (0 : Int32) := by funext v; cases v <;> rfl
theorem own_f1_step (K : Nat → Nat) (i : Nat) : own_upd (own_f1 K i) (K i + 1) (own_f1 K i (K i + 1) + 1) = own_f1 K (i + 1) := by
  funext v
  unfold own_upd
  cases v with
  | zero => rw [if_neg (by omega)]; rfl
  | succ v =>
    by_cases q : K i = v
    · subst q; rw [if_pos rfl]; simp only [own_f1, own_tot, if_pos]; exact own_succ _
    · rw [if_neg (by omega)]; simp only [own_f1, own_tot, if_neg q, Nat.add_zero]
def own_f2 (K : Nat → Nat) (c i : Nat) : Nat → Int32 := fun v => if v < i then Int32.ofNat (own_st K c v) else own_f1 K c v
theorem own_f2_start (K : Nat → Nat) (c : Nat) : own_f2 K c 1 = own_f1 K c := by
  funext v; unfold own_f2; split
  · obtain rfl : v = 0 := by omega
    rfl
  · rfl
theorem own_f2_step (K : Nat → Nat) (c i : Nat) (hi : 1 ≤ i) : own_upd (own_f2 K c i) i (own_f2 K c i i + own_f2 K c i (i - 1)) = own_f2 K c (i + 1) := by
  funext v
  unfold own_upd
  obtain ⟨i, rfl⟩ : ∃ j, i = j + 1 := ⟨i - 1, by omega⟩
  by_cases q : v = i + 1
  · subst q
    rw [if_pos rfl]
    simp only [own_f2, Nat.add_sub_cancel]
    rw [if_neg (by omega), if_pos (by omega), if_pos (by omega)]
    simp only [own_f1, own_st]
    rw [own_add, Nat.add_comm]
  · rw [if_neg q]; simp only [own_f2]
    by_cases r : v < i + 1
    · rw [if_pos r, if_pos (by omega)]
    · rw [if_neg r, if_neg (by omega)]
def own_nx (K : Nat → Nat) (c i : Nat) : Nat → Int32 := fun v => Int32.ofNat (own_st K c v + own_tot K v i)
theorem own_nx_step (K : Nat → Nat) (c i : Nat) : own_upd (own_nx K c i) (K i) (own_nx K c i (K i) + 1) = own_nx K c (i + 1) := by
  funext v
  unfold own_upd own_nx
  by_cases q : v = K i
  · subst q; rw [if_pos rfl, own_succ, own_tot, if_pos rfl]; rfl
  · rw [if_neg q, own_tot, if_neg (fun e => q e.symm)]; rfl
def own_fill (K : Nat → Nat) (W : Nat → Int64) (c i : Nat) (g : Nat → Int64) : Prop := ∀ v, own_seg g (own_st K c v) (own_tot K v i) = own_sel K W v i
theorem own_fill.zero (K : Nat → Nat) (W : Nat → Int64) (c : Nat) (g : Nat → Int64) : own_fill K W c 0 g := fun _ => rfl
theorem own_fill.step {K : Nat → Nat} {W : Nat → Int64} {c i : Nat} {g : Nat → Int64} (h : own_fill K W c i g) (hi : i < c) : own_fill K W c (i + 1) (own_updJ g (own_st K c (K i) + own_tot K (K i) i) (W i)) := by
  intro v
  have lt := own_tot_lt K hi
  by_cases q : K i = v
  · subst q
    rw [own_tot, own_sel, if_pos rfl, if_pos rfl, own_seg_snoc, own_updJ_at, ← h]
    congr 1
    exact own_seg_cong _ _ fun j h1 h2 => own_updJ_ne (by omega)
  · rw [own_tot, own_sel, if_neg q, if_neg q, List.append_nil, ← h, Nat.add_zero]
    have tm := own_tot_mono K v (Nat.le_of_lt hi)
    refine own_seg_cong _ _ fun j h1 h2 => own_updJ_ne ?_
    by_cases r : v < K i
    · have := own_st_mono K c (show v + 1 ≤ K i from r)
      rw [own_st] at this; omega
    · have := own_st_mono K c (show K i + 1 ≤ v by omega)
      rw [own_st] at this; omega
def own_ok (g : Nat → Int64) (lo n : Nat) (l : List Int64) : Prop := (own_seg g lo n).Perm l ∧ ∀ j, lo ≤ j → j + 1 < lo + n → g j ≤ g (j + 1)
def own_part (K : Nat → Nat) (W : Nat → Int64) (c v : Nat) (g : Nat → Int64) : Prop := (∀ u, u < v → own_ok g (own_st K c u) (own_tot K u c) (own_sel K W u c)) ∧ ∀ u, v ≤ u → own_seg g (own_st K c u) (own_tot K u c) = own_sel K W u c
theorem own_part.start {K : Nat → Nat} {W : Nat → Int64} {c : Nat} {g : Nat → Int64} (h : own_fill K W c c g) : own_part K W c 0 g := ⟨fun u h => absurd h (Nat.not_lt_zero _), fun u _ => h u⟩
theorem own_part.step {K : Nat → Nat} {W : Nat → Int64} {c v : Nat} {g g' : Nat → Int64} (h : own_part K W c v g) (q : own_upto (own_st K c v) (own_st K c (v + 1)) (own_st K c (v + 1)) g g') : own_part K W c (v + 1) g' := by
  have e : own_st K c (v + 1) = own_st K c v + own_tot K v c := rfl
  have lo : ∀ u, u < v → ∀ j, j < own_st K c u + own_tot K u c → g' j = g j := fun u hu j hj => q.1 j (Or.inl (by have := own_st_mono K c (show u + 1 ≤ v from hu); rw [own_st] at this; omega))
  refine ⟨fun u hu => ?_, fun u hu => ?_⟩
  · by_cases r : u < v
    · obtain ⟨h1, h2⟩ := h.1 u r
      refine ⟨?_, fun j j1 j2 => ?_⟩
      · rw [own_seg_cong _ _ fun j _ j2 => lo u r j j2]; exact h1
      · rw [lo u r j (by omega), lo u r (j + 1) (by omega)]; exact h2 j j1 j2
    · obtain rfl : u = v := by omega
      refine ⟨?_, fun j j1 j2 => q.2.2 j j1 (by rw [e]; exact j2)⟩
      have p := q.2.1
      rw [e, Nat.add_sub_cancel_left, h.2 u (Nat.le_refl _)] at p
      exact p
  · rw [← h.2 u (by omega)]
    exact own_seg_cong _ _ fun j j1 _ => q.1 j (Or.inr (by have := own_st_mono K c hu; omega))
def own_fin (K : Nat → Nat) (W : Nat → Int64) (c n : Nat) (g : Nat → Int64) : Prop := ∀ u, u < n → own_ok g (own_st K c u) (own_tot K u c) (own_sel K W u c)
/-! distinct ones -/
def own_nd (p : Int64 → Bool) : List Int64 → Nat
  | [] => 0
  | a :: l => (if a ∈ l ∨ p a = false then 0 else 1) + own_nd p l
theorem own_nd_perm (p : Int64 → Bool) {l l' : List Int64} (h : l.Perm l') : own_nd p l = own_nd p l' := by
  induction h with
  | nil => rfl
  | cons a q ih => rw [own_nd, own_nd, ih]; simp only [q.mem_iff]
  | swap a b l =>
    simp only [own_nd, List.mem_cons]
    by_cases e : a = b
    · subst e; rfl
    · have e' : ¬ b = a := fun z => e z.symm
      simp only [e, e', false_or]; omega
  | trans _ _ i1 i2 => rw [i1, i2]
theorem own_nd_snoc (p : Int64 → Bool) (l : List Int64) (a : Int64) : own_nd p (l ++ [a]) = own_nd p l + if a ∈ l ∨ p a = false then 0 else 1 := by
  rw [own_nd_perm p (List.perm_append_comm (l₂ := [a])), List.singleton_append, own_nd, Nat.add_comm]
def own_run (g : Nat → Int64) (lo : Nat) : Nat → List Int64
  | 0 => []
  | k + 1 => own_run g lo k ++ if k = 0 ∨ g (lo + k) ≠ g (lo + k - 1) then [g (lo + k)] else []
theorem own_seg_mem {g : Nat → Int64} {w : Int64} : ∀ {n lo}, w ∈ own_seg g lo n → ∃ j, j < n ∧ w = g (lo + j)
  | 0, _, h => by cases h
  | n + 1, lo, h => by
    rw [own_seg, List.mem_cons] at h
    rcases h with h | h
    · exact ⟨0, by omega, h⟩
    · obtain ⟨j, h1, h2⟩ := own_seg_mem h; exact ⟨j + 1, by omega, by rw [h2]; congr 1; omega⟩
theorem own_mono_le {g : Nat → Int64} {lo n : Nat} (h : ∀ j, lo ≤ j → j + 1 < lo + n → g j ≤ g (j + 1)) : ∀ d j, lo ≤ j → j + d < lo + n → g j ≤ g (j + d)
  | 0, j, _, _ => Int64.le_refl _
  | d + 1, j, h1, h2 => Int64.le_trans (own_mono_le h d j h1 (by omega)) (h (j + d) (by omega) (by omega))
theorem own_run_len (p : Int64 → Bool) {g : Nat → Int64} {lo : Nat} : ∀ {n}, (∀ j, lo ≤ j → j + 1 < lo + n → g j ≤ g (j + 1)) → ((own_run g lo n).filter p).length = own_nd p (own_seg g lo n)
  | 0, _ => rfl
  | k + 1, h => by
    rw [own_run, own_seg_snoc, own_nd_snoc, List.filter_append, List.length_append, own_run_len p fun j h1 h2 => h j h1 (by omega)]
    congr 1
    have key : g (lo + k) ∈ own_seg g lo k ↔ ¬ (k = 0 ∨ g (lo + k) ≠ g (lo + k - 1)) := by
      constructor
      · intro m q
        obtain ⟨j, h1, h2⟩ := own_seg_mem m
        rcases q with q | q
        · omega
        · have a1 := own_mono_le h (k - 1 - j) (lo + j) (by omega) (by omega)
          have a2 := h (lo + k - 1) (by omega) (by omega)
          rw [show lo + j + (k - 1 - j) = lo + k - 1 by omega, ← h2] at a1
          rw [show lo + k - 1 + 1 = lo + k by omega] at a2
          exact q (Int64.le_antisymm a1 a2)
      · intro q
        obtain ⟨q1, q2⟩ := not_or.mp q
        have q3 : g (lo + k) = g (lo + k - 1) := Classical.byContradiction fun z => q2 z
        rw [q3]
        have := own_seg_get g k lo (k - 1) (by omega)
        rw [show lo + (k - 1) = lo + k - 1 by omega] at this
        exact List.mem_of_getElem? this
    by_cases q : k = 0 ∨ g (lo + k) ≠ g (lo + k - 1)
    · rw [if_pos q]
      have nm : g (lo + k) ∉ own_seg g lo k := fun m => key.mp m q
      cases hp : p (g (lo + k)) <;> simp [hp, nm]
    · rw [if_neg q, if_pos (Or.inl (key.mpr q))]; rfl
theorem own_run_mem {g : Nat → Int64} {lo : Nat} {w : Int64} : ∀ {n}, w ∈ own_run g lo n → w ∈ own_seg g lo n
  | 0, h => h
  | k + 1, h => by
    rw [own_seg_snoc]
    rw [own_run, List.mem_append] at h
    rcases h with h | h
    · exact List.mem_append_left _ (own_run_mem h)
    · split at h
      · exact List.mem_append_right _ h
      · cases h
def own_KL (g : Nat → Int64) (K : Nat → Nat) (c : Nat) : Nat → List Int64
  | 0 => []
  | v + 1 => own_KL g K c v ++ own_run g (own_st K c v) (own_tot K v c)
def own_D (p : Int64 → Bool) (K : Nat → Nat) (W : Nat → Int64) (c : Nat) : Nat → Nat
  | 0 => 0
  | v + 1 => own_D p K W c v + own_nd p (own_sel K W v c)
theorem own_KL_len (p : Int64 → Bool) {g : Nat → Int64} {K : Nat → Nat} {W : Nat → Int64} {c n : Nat} (h : own_fin K W c n g) : ∀ v, v ≤ n → ((own_KL g K c v).filter p).length = own_D p K W c v
  | 0, _ => rfl
  | v + 1, hv => by
    obtain ⟨h1, h2⟩ := h v hv
    rw [own_KL, own_D, List.filter_append, List.length_append, own_KL_len p h v (by omega), own_run_len p h2, own_nd_perm p h1]
theorem own_KL_mem {g : Nat → Int64} {K : Nat → Nat} {W : Nat → Int64} {c n : Nat} (h : own_fin K W c n g) {w : Int64} : ∀ {v}, v ≤ n → w ∈ own_KL g K c v → ∃ i, i < c ∧ W i = w
  | 0, _, m => by cases m
  | v + 1, hv, m => by
    rw [own_KL, List.mem_append] at m
    rcases m with m | m
    · exact own_KL_mem h (by omega) m
    · obtain ⟨i, h1, -, h3⟩ := own_sel_mem ((h v hv).1.mem_iff.mp (own_run_mem m)); exact ⟨i, h1, h3⟩
def own_el (q : Int64) : Int32 := ((q &&& (4294967295 : Int64)).toInt32)
def own_pr (q : Int64) : Int32 := (((q.toUInt64 >>> ((32 : Int32) &&& 0x3f).toInt64.toUInt64).toInt64).toInt32)
theorem own_copy0 {α : Type} {g gd : Nat → α} {nn i : Nat} (h : i < nn) : g i = own_copy g gd (0 : Int32).toNatClampNeg (0 : Int32).toNatClampNeg nn i := by
  have z0 : (0 : Int32).toNatClampNeg = 0 := rfl
  unfold own_copy; rw [z0, if_pos ⟨Nat.zero_le _, by omega⟩]; congr 1; omega
def own_stI (K : Nat → Nat) (c : Nat) : Nat → Int32 := fun v => Int32.ofNat (own_st K c v)
theorem own_nx_zero (K : Nat → Nat) (c : Nat) : own_nx K c 0 = own_stI K c := rfl
theorem own_nx_next (K : Nat → Nat) (c i : Nat) : own_upd (own_nx K c i) (K i) (Int32.ofNat (own_st K c (K i) + own_tot K (K i) i + 1)) = own_nx K c (i + 1) := by
  rw [← own_nx_step, own_nx, own_succ]
theorem own_f2_end (K : Nat → Nat) (c n v : Nat) (h : v < n) : own_stI K c v = own_f2 K c n v := by unfold own_f2 own_stI; rw [if_pos h]
theorem own_pos_lt {K : Nat → Nat} {n c i : Nat} (h : ∀ i, i < c → K i < n) (hi : i < c) : own_st K c (K i) + own_tot K (K i) i < c := by
  have a := own_tot_lt K hi
  have b := own_st_le h (show K i + 1 ≤ n from h i hi)
  rw [own_st] at b; omega
def own_W (g2 g3 : Nat → Int32) (i : Nat) : Int64 := ((((g2 i).toInt64) <<< ((32 : Int32) &&& 0x3f).toInt64) ||| ((g3 i).toInt64))
theorem own_part.fin {K : Nat → Nat} {W : Nat → Int64} {c v n : Nat} {g : Nat → Int64} (h : own_part K W c v g) (e : n ≤ v) : own_fin K W c n g := fun u hu => h.1 u (by omega)
/-! taking doubles out -/
def own_Dl (g0 : Nat → Int64) (K : Nat → Nat) (c v : Nat) : Nat := (own_KL g0 K c v).length
theorem own_Dl_mono (g0 : Nat → Int64) (K : Nat → Nat) (c : Nat) {u v : Nat} (h : u ≤ v) : own_Dl g0 K c u ≤ own_Dl g0 K c v := by
  induction h with
  | refl => exact Nat.le_refl _
  | step _ ih => refine Nat.le_trans ih ?_; unfold own_Dl; rw [own_KL, List.length_append]; omega
def own_ded (g0 : Nat → Int64) (K : Nat → Nat) (c v d kept : Nat) (g : Nat → Int64) : Prop :=
  kept = (own_KL g0 K c v ++ own_run g0 (own_st K c v) d).length ∧ kept ≤ own_st K c v + d ∧ own_seg g 0 kept = own_KL g0 K c v ++ own_run g0 (own_st K c v) d ∧ ∀ j, own_st K c v + d ≤ j + 1 → g j = g0 j
theorem own_ded.start (g0 : Nat → Int64) (K : Nat → Nat) (c : Nat) : own_ded g0 K c 0 0 0 g0 := ⟨rfl, Nat.le_refl _, rfl, fun _ _ => rfl⟩
theorem own_ded.len {g0 : Nat → Int64} {K : Nat → Nat} {c v kept : Nat} {g : Nat → Int64} (h : own_ded g0 K c v 0 kept g) : kept = own_Dl g0 K c v := by
  have := h.1; rw [own_run, List.append_nil] at this; exact this
theorem own_ded.next {g0 : Nat → Int64} {K : Nat → Nat} {c v d kept : Nat} {g : Nat → Int64} (h : own_ded g0 K c v d kept g) (e : d = own_tot K v c) : own_ded g0 K c (v + 1) 0 kept g := by
  subst e
  obtain ⟨h1, h2, h3, h4⟩ := h
  refine ⟨?_, h2, ?_, h4⟩
  · rw [own_run, List.append_nil, own_KL]; exact h1
  · rw [own_run, List.append_nil, own_KL]; exact h3
theorem own_ded.at {g0 : Nat → Int64} {K : Nat → Nat} {c v d kept : Nat} {g : Nat → Int64} (h : own_ded g0 K c v d kept g) : g (own_st K c v + d) = g0 (own_st K c v + d) := h.2.2.2 _ (by omega)
theorem own_ded.skip {g0 : Nat → Int64} {K : Nat → Nat} {c v d kept : Nat} {g : Nat → Int64} (h : own_ded g0 K c v d kept g) (hd : ¬ (own_st K c v + d = own_st K c v)) (q : g (own_st K c v + d) = g (own_st K c v + d - 1)) : own_ded g0 K c v (d + 1) kept g := by
  obtain ⟨h1, h2, h3, h4⟩ := h
  have e : own_run g0 (own_st K c v) (d + 1) = own_run g0 (own_st K c v) d := by
    rw [own_run, if_neg, List.append_nil]
    rintro (z | z)
    · omega
    · rw [h4 _ (by omega), h4 _ (by omega)] at q; exact z q
  exact ⟨by rw [e]; exact h1, by omega, by rw [e]; exact h3, fun j hj => h4 j (by omega)⟩
theorem own_ded.keep {g0 : Nat → Int64} {K : Nat → Nat} {c v d kept : Nat} {g : Nat → Int64} (h : own_ded g0 K c v d kept g) (q : own_st K c v + d = own_st K c v ∨ (¬ (own_st K c v + d = own_st K c v) ∧ ¬ g (own_st K c v + d) = g (own_st K c v + d - 1))) : own_ded g0 K c v (d + 1) (kept + 1) (own_updJ g kept (g (own_st K c v + d))) := by
  obtain ⟨h1, h2, h3, h4⟩ := h
  have e : own_run g0 (own_st K c v) (d + 1) = own_run g0 (own_st K c v) d ++ [g0 (own_st K c v + d)] := by
    rw [own_run, if_pos]
    rcases q with q | ⟨q, r⟩
    · exact Or.inl (by omega)
    · refine Or.inr ?_
      rw [h4 _ (by omega), h4 _ (by omega)] at r; exact r
  refine ⟨?_, by omega, ?_, fun j hj => ?_⟩
  · rw [e, ← List.append_assoc, List.length_append, ← h1]; rfl
  · rw [e, ← List.append_assoc, own_seg_snoc, Nat.zero_add, own_updJ_at, h4 _ (by omega), ← h3]
    congr 1
    exact own_seg_cong _ _ fun j _ hj => own_updJ_ne (by omega)
  · by_cases r : j = kept
    · subst r; rw [own_updJ_at, ← h4 _ (by omega)]
      have : own_st K c v + d = j := by omega
      rw [this]
    · rw [own_updJ_ne r]; exact h4 j (by omega)
def own_f3 (g0 : Nat → Int64) (K : Nat → Nat) (c v : Nat) : Nat → Int32 := fun u => if u < v then Int32.ofNat (own_Dl g0 K c u) else Int32.ofNat (own_st K c u)
theorem own_f3_zero (g0 : Nat → Int64) (K : Nat → Nat) (c : Nat) : own_f3 g0 K c 0 = own_stI K c := by funext u; unfold own_f3; rw [if_neg (by omega)]; rfl
theorem own_f3_at {g0 : Nat → Int64} {K : Nat → Nat} {c v u : Nat} (h : v ≤ u) : own_f3 g0 K c v u = Int32.ofNat (own_st K c u) := by unfold own_f3; rw [if_neg (by omega)]
theorem own_f3_lo {g0 : Nat → Int64} {K : Nat → Nat} {c v u : Nat} (h : u < v) : own_f3 g0 K c v u = Int32.ofNat (own_Dl g0 K c u) := by unfold own_f3; rw [if_pos h]
theorem own_f3_step {g0 : Nat → Int64} {K : Nat → Nat} {c v kept : Nat} (h : kept = own_Dl g0 K c v) : own_upd (own_f3 g0 K c v) v (Int32.ofNat kept) = own_f3 g0 K c (v + 1) := by
  subst h
  funext u
  unfold own_upd own_f3
  by_cases q : u = v
  · subst q; rw [if_pos rfl, if_pos (by omega)]
  · rw [if_neg q]
    by_cases r : u < v
    · rw [if_pos r, if_pos (by omega)]
    · rw [if_neg r, if_neg (by omega)]
theorem own_tot_seg {ga : Nat → Int64} {K : Nat → Nat} {v : Nat} {P : Int64 → Bool} : ∀ {i}, (∀ j, j < i → (K j = v ↔ P (ga j) = true)) → own_tot K v i = ((own_seg ga 0 i).filter P).length
  | 0, _ => rfl
  | i + 1, h => by
    rw [own_tot, own_seg_snoc, List.filter_append, List.length_append, ← own_tot_seg fun j hj => h j (by omega), Nat.zero_add]
    have q := h i (by omega)
    by_cases r : K i = v
    · rw [if_pos r]; simp [q.mp r]
    · rw [if_neg r]; have : P (ga i) = false := by simpa using fun z => r (q.mpr z)
      simp [this]
/-! what an edge's number holds -/
theorem own_sh : ((32 : Int32) &&& 0x3f).toInt64 = 32 := by decide
theorem own_bits1 (x y : BitVec 32) : (BitVec.signExtend 32 (BitVec.signExtend 64 x <<< 32) ||| y) &&& 4294967295#32 = y := by
  have e : (4294967295#32) = BitVec.allOnes 32 := by decide
  rw [e, BitVec.and_allOnes, BitVec.signExtend_eq_setWidth_of_le _ (by omega)]
  ext i hi
  simp [hi]
theorem own_bits2 (x y : BitVec 32) (h : y.msb = false) : BitVec.signExtend 32 ((BitVec.signExtend 64 x <<< 32 ||| BitVec.signExtend 64 y) >>> 32) = x := by
  rw [BitVec.signExtend_eq_setWidth_of_le _ (by omega)]
  ext i hi
  simp [BitVec.getLsbD_signExtend, h, hi]
  have a : 32 + i < 64 := by omega
  have b : i < 64 := by omega
  simp [a, b, BitVec.getLsbD_eq_getElem hi]
theorem own_el_W (a b : Int32) : own_el ((((a).toInt64) <<< ((32 : Int32) &&& 0x3f).toInt64) ||| ((b).toInt64)) = b := by
  unfold own_el
  rw [own_sh]
  apply Int32.toBitVec_inj.mp
  simp
  exact own_bits1 _ _
theorem own_pr_W (a b : Int32) (h : 0 ≤ b.toInt) : own_pr ((((a).toInt64) <<< ((32 : Int32) &&& 0x3f).toInt64) ||| ((b).toInt64)) = a := by
  unfold own_pr
  rw [own_sh]
  apply Int32.toBitVec_inj.mp
  simp
  refine own_bits2 _ _ ?_
  rw [BitVec.msb_eq_toInt]
  have : b.toBitVec.toInt = b.toInt := rfl
  rw [this]; simp; exact h
theorem own_el_own {g2 g3 : Nat → Int32} (i : Nat) : own_el (own_W g2 g3 i) = g3 i := own_el_W _ _
theorem own_K2 {g0 ga : Nat → Int64} {K Tg : Nat → Nat} {g2 g3 gt : Nat → Int32} {c n kk : Nat} (FIN : own_fin K (own_W g2 g3) c n g0) (DD : own_ded g0 K c n 0 kk ga) (hT : ∀ i, i < c → g3 i = Int32.ofNat (Tg i) ∧ Tg i < n) (hn : n ≤ 4) (TT : ∀ j, j < kk → gt j = own_el (ga j)) :
    ∀ j, j < kk → gt j = Int32.ofNat (own_el (ga j)).toNatClampNeg ∧ (own_el (ga j)).toNatClampNeg < n := by
  intro j hj
  have e := DD.2.2.1
  rw [own_run, List.append_nil] at e
  have q := own_seg_get ga kk 0 j hj
  rw [e, Nat.zero_add] at q
  obtain ⟨i, h1, h2⟩ := own_KL_mem FIN (Nat.le_refl _) (List.mem_of_getElem? q)
  obtain ⟨h3, h4⟩ := hT i h1
  have h5 : own_el (ga j) = Int32.ofNat (Tg i) := by rw [← h2, own_el_own, h3]
  rw [TT j hj, h5, own_nat (by omega)]
  exact ⟨rfl, h4⟩
theorem own_Dl_D {g0 : Nat → Int64} {K : Nat → Nat} {W : Nat → Int64} {c n v : Nat} (FIN : own_fin K W c n g0) (h : v ≤ n) : own_Dl g0 K c v = own_D (fun _ => true) K W c v := by
  rw [← own_KL_len _ FIN v h, List.filter_eq_self.mpr (fun _ _ => rfl)]; rfl
def own_DI (K : Nat → Nat) (W : Nat → Int64) (c : Nat) : Nat → Int32 := fun v => Int32.ofNat (own_D (fun _ => true) K W c v)
theorem own_T2 {g0 ga : Nat → Int64} {K Tg : Nat → Nat} {g2 g3 : Nat → Int32} {c n kk : Nat} (FIN : own_fin K (own_W g2 g3) c n g0) (DD : own_ded g0 K c n 0 kk ga) (hT : ∀ i, i < c → g3 i = Int32.ofNat (Tg i) ∧ Tg i < n) (hn : n ≤ 4) {q : Nat} (hq : q < n) :
    own_tot (fun j => (own_el (ga j)).toNatClampNeg) q kk = own_D (fun w => own_el w == Int32.ofNat q) K (own_W g2 g3) c n := by
  have e := DD.2.2.1
  rw [own_run, List.append_nil] at e
  have k2 := own_K2 FIN DD hT hn (gt := fun j => own_el (ga j)) (fun _ _ => rfl)
  rw [own_tot_seg (ga := ga) (P := fun w => own_el w == Int32.ofNat q), e, own_KL_len _ FIN n (Nat.le_refl _)]
  intro j hj
  obtain ⟨h1, h2⟩ := k2 j hj
  have h1 : own_el (ga j) = _ := h1
  show (own_el (ga j)).toNatClampNeg = q ↔ (own_el (ga j) == Int32.ofNat q) = true
  constructor
  · intro z; rw [z] at h1; simpa using h1
  · intro z; have z' : own_el (ga j) = Int32.ofNat q := by simpa using z
    rw [z', own_nat (by omega)]
theorem own_f3_end {g0 : Nat → Int64} {K : Nat → Nat} {W : Nat → Int64} {c n v : Nat} (FIN : own_fin K W c n g0) (h : v < n + 1) : own_DI K W c v = own_f3 g0 K c (n + 1) v := by
  rw [own_f3_lo h, own_Dl_D FIN (by omega)]; rfl
theorem own_TI {gt : Nat → Int32} {ga : Nat → Int64} {a : Nat} (h : ∀ j, j < a → gt j = own_el (ga j)) : ∀ j, j < a + 1 → own_upd gt a (own_el (ga a)) j = own_el (ga j) := by
  intro j hj
  unfold own_upd
  by_cases q : j = a
  · subst q; rw [if_pos rfl]
  · rw [if_neg q]; exact h j (by omega)
/-! the laws' own reckoning -/
theorem own_sel_nil {K : Nat → Nat} {W : Nat → Int64} {n w : Nat} (hw : n ≤ w) : ∀ {c}, (∀ i, i < c → K i < n) → own_sel K W w c = []
  | 0, _ => rfl
  | c + 1, h => by rw [own_sel, own_sel_nil hw fun i hi => h i (by omega), if_neg (by have := h c (by omega); omega)]; rfl
theorem own_nd_sel (p : Int64 → Bool) (K : Nat → Nat) (W : Nat → Int64) (v i : Nat) : own_nd p (own_sel K W v (i + 1)) = own_nd p (own_sel K W v i) + if K i = v ∧ p (W i) = true ∧ ¬ W i ∈ own_sel K W v i then 1 else 0 := by
  rw [own_sel]
  by_cases q : K i = v
  · rw [if_pos q, own_nd_snoc]
    by_cases r : W i ∈ own_sel K W v i
    · simp [r]
    · cases hp : p (W i) <;> simp [r, q]
  · rw [if_neg q, List.append_nil, if_neg (fun z => q z.1)]; rfl
theorem own_mem_sel (K : Nat → Nat) (W : Nat → Int64) (v i : Nat) (w : Int64) : w ∈ own_sel K W v (i + 1) ↔ w ∈ own_sel K W v i ∨ (K i = v ∧ W i = w) := by
  rw [own_sel, List.mem_append]
  by_cases q : K i = v
  · simp [q, eq_comm]
  · simp [q]
theorem own_W_eq {g2 g3 : Nat → Int32} {Tg : Nat → Nat} {i j : Nat} (hi : g3 i = Int32.ofNat (Tg i) ∧ Tg i < 2147483648) (hj : g3 j = Int32.ofNat (Tg j) ∧ Tg j < 2147483648) : own_W g2 g3 i = own_W g2 g3 j ↔ g2 i = g2 j ∧ g3 i = g3 j := by
  constructor
  · intro h
    have e1 : own_el (own_W g2 g3 i) = own_el (own_W g2 g3 j) := by rw [h]
    have e2 : own_pr (own_W g2 g3 i) = own_pr (own_W g2 g3 j) := by rw [h]
    rw [own_el_own, own_el_own] at e1
    have b : ∀ k, g3 k = Int32.ofNat (Tg k) ∧ Tg k < 2147483648 → own_pr (own_W g2 g3 k) = g2 k := fun k hk => own_pr_W _ _ (by rw [hk.1, own_toInt hk.2]; omega)
    rw [b i hi, b j hj] at e2
    exact ⟨e2, e1⟩
  · rintro ⟨h1, h2⟩; unfold own_W; rw [h1, h2]
def own_b (p : Prop) [Decidable p] : Int32 := if p then 1 else 0
theorem own_b_nat {p q : Prop} [Decidable p] [Decidable q] (a : Nat) (h : p ↔ q) : Int32.ofNat (a + if p then 1 else 0) = Int32.ofNat a + own_b q := by
  unfold own_b
  by_cases r : p
  · rw [if_pos r, if_pos (h.mp r)]; exact (own_succ a).symm
  · rw [if_neg r, if_neg (fun z => r (h.mpr z))]; exact (Int32.add_zero _).symm
def own_ex1 (v s0 : Int32) : Int32 := 0 + own_b (s0 = v)
def own_ex2 (v s0 r0 t0 s1 r1 t1 : Int32) : Int32 := own_ex1 v s0 + own_b (s1 = v ∧ ¬ (s0 = s1 ∧ r0 = r1 ∧ t0 = t1))
def own_ex3 (v s0 r0 t0 s1 r1 t1 s2 r2 t2 : Int32) : Int32 := own_ex2 v s0 r0 t0 s1 r1 t1 + own_b (s2 = v ∧ ¬ (s0 = s2 ∧ r0 = r2 ∧ t0 = t2) ∧ ¬ (s1 = s2 ∧ r1 = r2 ∧ t1 = t2))
section OwnEx
variable {K Tg : Nat → Nat} {g2 g3 : Nat → Int32} {v : Nat}
theorem own_x1 (hv : v < 2147483648) (hK : ∀ i, i < 1 → K i < 2147483648) : Int32.ofNat (own_nd (fun _ => true) (own_sel K (own_W g2 g3) v 1)) = own_ex1 (Int32.ofNat v) (Int32.ofNat (K 0)) := by
  rw [own_nd_sel, own_ex1]
  refine (own_b_nat (q := Int32.ofNat (K 0) = Int32.ofNat v) _ ?_).trans rfl
  rw [own_eq (hK 0 (by omega)) hv]; simp [own_sel]
theorem own_x2 (hv : v < 2147483648) (hK : ∀ i, i < 2 → K i < 2147483648) (hT : ∀ i, i < 2 → g3 i = Int32.ofNat (Tg i) ∧ Tg i < 2147483648) : Int32.ofNat (own_nd (fun _ => true) (own_sel K (own_W g2 g3) v 2)) = own_ex2 (Int32.ofNat v) (Int32.ofNat (K 0)) (g2 0) (g3 0) (Int32.ofNat (K 1)) (g2 1) (g3 1) := by
  rw [own_nd_sel, own_ex2, ← own_x1 hv (fun i hi => hK i (by omega)) (g2 := g2) (g3 := g3)]
  refine own_b_nat _ ?_
  rw [own_mem_sel, own_W_eq (hT 0 (by omega)) (hT 1 (by omega)), own_eq (hK 1 (by omega)) hv, own_eq (hK 0 (by omega)) (hK 1 (by omega))]
  simp only [own_sel, List.not_mem_nil, false_or, true_and]
  constructor
  · rintro ⟨rfl, h⟩; exact ⟨rfl, h⟩
  · rintro ⟨rfl, h⟩; exact ⟨rfl, h⟩
theorem own_x3 (hv : v < 2147483648) (hK : ∀ i, i < 3 → K i < 2147483648) (hT : ∀ i, i < 3 → g3 i = Int32.ofNat (Tg i) ∧ Tg i < 2147483648) : Int32.ofNat (own_nd (fun _ => true) (own_sel K (own_W g2 g3) v 3)) = own_ex3 (Int32.ofNat v) (Int32.ofNat (K 0)) (g2 0) (g3 0) (Int32.ofNat (K 1)) (g2 1) (g3 1) (Int32.ofNat (K 2)) (g2 2) (g3 2) := by
  rw [own_nd_sel, own_ex3, ← own_x2 hv (fun i hi => hK i (by omega)) (fun i hi => hT i (by omega))]
  refine own_b_nat _ ?_
  rw [own_mem_sel, own_mem_sel, own_W_eq (hT 0 (by omega)) (hT 2 (by omega)), own_W_eq (hT 1 (by omega)) (hT 2 (by omega)), own_eq (hK 2 (by omega)) hv, own_eq (hK 0 (by omega)) (hK 2 (by omega)), own_eq (hK 1 (by omega)) (hK 2 (by omega))]
  simp only [own_sel, List.not_mem_nil, false_or, true_and, not_or]
  constructor
  · rintro ⟨rfl, h⟩; exact ⟨rfl, h⟩
  · rintro ⟨rfl, h⟩; exact ⟨rfl, h⟩
end OwnEx
def own_lk (a b c d : Nat) : Nat → Nat
  | 0 => a
  | 1 => b
  | 2 => c
  | _ => d
theorem own_ofn {x : Int32} (h : 0 ≤ x.toInt) : x = Int32.ofNat x.toNatClampNeg := by
  apply Int32.toInt_inj.mp
  have q : x.toInt < 2147483648 := Int32.toInt_lt x
  have r : x.toNatClampNeg = x.toInt.toNat := rfl
  rw [own_toInt (by rw [r]; omega), r]; omega
theorem own_and3 (x : Int32) : ∃ k : Nat, k ≤ 3 ∧ x &&& 3 = Int32.ofNat k := by
  have q := c_and x 3 (by decide)
  refine ⟨(x &&& 3).toNatClampNeg, ?_, own_ofn q.1⟩
  have r : (x &&& 3).toNatClampNeg = (x &&& 3).toInt.toNat := rfl
  have h3 : (x &&& 3).toInt ≤ 3 := q.2
  rw [r]; omega
theorem own_n (x : Int32) : ∃ k : Nat, 1 ≤ k ∧ k ≤ 4 ∧ (x &&& 3) + 1 = Int32.ofNat k := by
  obtain ⟨k, h1, h2⟩ := own_and3 x
  exact ⟨k + 1, by omega, by omega, by rw [h2, own_succ]⟩
theorem own_md : ∀ (a : Fin 4) (b : Fin 5), b.val = 0 ∨ Int32.ofNat a.val % Int32.ofNat b.val = Int32.ofNat (a.val % b.val) := by decide +kernel
theorem own_mod (x : Int32) {n : Nat} (h1 : 1 ≤ n) (h2 : n ≤ 4) : ∃ k : Nat, k < n ∧ (x &&& 3) % Int32.ofNat n = Int32.ofNat k := by
  obtain ⟨k, h3, h4⟩ := own_and3 x
  refine ⟨k % n, Nat.mod_lt _ (by omega), ?_⟩
  rw [h4]
  rcases own_md ⟨k, by omega⟩ ⟨n, by omega⟩ with q | q
  · simp only at q; omega
  · exact q
theorem own_ne0 {n : Nat} (h1 : 1 ≤ n) (h2 : n ≤ 4) : Int32.ofNat n ≠ 0 := fun q => by
  have := (own_eq (b := 0) (by omega) (by omega)).mp q; omega
theorem own_far (y : Int32) {n : Nat} (h : n ≤ 4) : ∃ f : Nat, n ≤ f ∧ f < 2147483648 ∧ (if Int32.ofNat n < (y &&& 2147483647) then (y &&& 2147483647) else Int32.ofNat n) = Int32.ofNat f := by
  have q := (c_and y 2147483647 (by decide)).1
  have r := own_ofn q
  have lt : (y &&& 2147483647).toInt < 2147483648 := Int32.toInt_lt _
  have e : (y &&& 2147483647).toNatClampNeg = (y &&& 2147483647).toInt.toNat := rfl
  by_cases z : Int32.ofNat n < (y &&& 2147483647)
  · refine ⟨(y &&& 2147483647).toNatClampNeg, ?_, by rw [e]; omega, by rw [if_pos z]; exact r⟩
    rw [r] at z
    exact Nat.le_of_lt ((own_lt (by omega) (by rw [e]; omega)).mp z)
  · exact ⟨n, Nat.le_refl _, by omega, if_neg z⟩
section OwnClone
variable {p : Program} {l : Launch} {e : Env} {R : Room} {s : State} {m : MethodId} {args : Array Value} {below : List Frame} {meth : Method} {c : Code} {T : State} {locs : List Loc} {cells slots : Nat} {Z : State} {h : Heap} {a : Addr}
theorem own_dupx2 (X : Stand p l e R s m args below meth c T locs cells slots) (hx : p.tables.exec = Jvm.exec) {pc : Nat} {Ls : Array Slot} {v1 v2 v3 : Value} {rest : List Value} (hd : decode c.code pc = .ok (.dup_x2, 1)) (h1 : v1.category = 1) (h2 : v2.category = 1) (h3 : v3.category = 1) :
    ∀ t, Steps p.tables e below (T.setTop (mkF m (pc + 1) Ls (v1 :: v2 :: v3 :: v1 :: rest))) t → Steps p.tables e below (T.setTop (mkF m pc Ls (v1 :: v2 :: v3 :: rest))) t := by
  intro t k
  show Steps p.tables e below (T.setTop { method := m, pc := pc, locals := Ls, stack := v1 :: v2 :: v3 :: rest, locked := none }) _
  jvm_step X.here [X.here.top, hx, hd, h1, h2, h3]
  exact k
theorem own_dup2 (X : Stand p l e R s m args below meth c T locs cells slots) (hx : p.tables.exec = Jvm.exec) {pc : Nat} {Ls : Array Slot} {v1 v2 : Value} {rest : List Value} (hd : decode c.code pc = .ok (.dup2, 1)) (h1 : v1.category = 1) (h2 : v2.category = 1) :
    ∀ t, Steps p.tables e below (T.setTop (mkF m (pc + 1) Ls (v1 :: v2 :: v1 :: v2 :: rest))) t → Steps p.tables e below (T.setTop (mkF m pc Ls (v1 :: v2 :: rest))) t := by
  intro t k
  show Steps p.tables e below (T.setTop { method := m, pc := pc, locals := Ls, stack := v1 :: v2 :: rest, locked := none }) _
  jvm_step X.here [X.here.top, hx, hd, h1, h2]
  exact k
theorem own_cloneJ (X : Stand p l e R s m args below meth c T locs cells slots) (hx : p.tables.exec = Jvm.exec) (hZ : Z.Warmed39 s.vm) {a0 : Array Value} {own : String} {index : Nat} (hown : s.vm.findClass own = some m.cls)
    (w1 : (Jvm.Cond.methodLink own index ⟨"[J", "clone", "()Ljava/lang/Object;"⟩).before a0 Z = true) (w2 : (Jvm.Cond.sameMethod "[J" "java/lang/Object" "clone" "()Ljava/lang/Object;").before a0 Z = true) (w3 : (Jvm.Cond.native ⟨"java/lang/Object", "clone", "()Ljava/lang/Object;"⟩).before a0 Z = true)
    (w4 : (Jvm.Cond.instanceMethod ⟨"java/lang/Object", "clone", "()Ljava/lang/Object;"⟩).before a0 Z = true) (w5 : (Jvm.Cond.selects "[J" ⟨"[J", "clone", "()Ljava/lang/Object;"⟩ ⟨"java/lang/Object", "clone", "()Ljava/lang/Object;"⟩).before a0 Z = true) (w6 : (Jvm.Cond.castable "[J" "java/lang/Cloneable").before a0 Z = true)
    (eT : T.heap = h) {len : Int32} {gj : Nat → Int64} (F : own_JA Z h a len gj) (E : Exa Z h a "[J") {g : JFrame} (hg : g.method = m) (hsize : g.locals.size = c.maxLocals) {rest : List Value} (hst : g.stack = .ref a :: rest) (hd : decode c.code g.pc = .ok (.invokevirtual index, 3))
    (hf : 1 ≤ R.frames) {W cap : Nat} (hW : 2 * g.monitorRoom + (rest.map fun v => v.category).sum ≤ W) (hl : W + 14 ≤ R.locals) (hcap : len.toNatClampNeg ≤ cap) (hc : cells + 1 ≤ R.cells) (hsl : slots + cap ≤ R.slots) :
    ∃ T' h', Stand p l e R s m args below meth c T' locs (cells + 1) (slots + cap) ∧ T'.heap = h' ∧ Ext h h' ∧ own_JA Z h' h.size len gj ∧ Exa Z h' h.size "[J" ∧
      ∀ target, Steps p.tables e below (T'.setTop { g with pc := g.pc + 3, stack := .ref h.size :: rest }) target → Steps p.tables e below (T.setTop g) target := by
  obtain ⟨cl, A, S, N, H⟩ := F
  have FC : FitC Z cl := fitC_of A fun i hi v hv => by rw [H i (by rw [← S]; exact hi)] at hv; cases hv; rfl
  obtain ⟨T', h', X', e', ex, A', E', st⟩ := cloneA X hx hZ hown w1 w2 w3 w4 w5 w6 eT A E FC hg hsize hst hd hf hW hl (by rw [S]; exact hcap) hc hsl
  exact ⟨T', h', X', e', ex, ⟨cloneOf cl, A', S, N, H⟩, E', st⟩
end OwnClone

theorem d11_0 : decode jdk_2529_method_15_code 0 = .ok (.iload_n 1, 1) := by decide +kernel
theorem d11_1 : decode jdk_2529_method_15_code 1 = .ok (.istore 4, 2) := by decide +kernel
theorem d11_3 : decode jdk_2529_method_15_code 3 = .ok (.iinc 4 1, 3) := by decide +kernel
theorem d11_6 : decode jdk_2529_method_15_code 6 = .ok (.iload 4, 2) := by decide +kernel
theorem d11_8 : decode jdk_2529_method_15_code 8 = .ok (.iload_n 2, 1) := by decide +kernel
theorem d11_9 : decode jdk_2529_method_15_code 9 = .ok (.if_icmp .ge 60, 3) := by decide +kernel
theorem d11_12 : decode jdk_2529_method_15_code 12 = .ok (.aload_n 0, 1) := by decide +kernel
theorem d11_13 : decode jdk_2529_method_15_code 13 = .ok (.iload 4, 2) := by decide +kernel
theorem d11_15 : decode jdk_2529_method_15_code 15 = .ok (.dup, 1) := by decide +kernel
theorem d11_16 : decode jdk_2529_method_15_code 16 = .ok (.istore_n 3, 1) := by decide +kernel
theorem d11_17 : decode jdk_2529_method_15_code 17 = .ok (.laload, 1) := by decide +kernel
theorem d11_18 : decode jdk_2529_method_15_code 18 = .ok (.lstore 5, 2) := by decide +kernel
theorem d11_20 : decode jdk_2529_method_15_code 20 = .ok (.lload 5, 2) := by decide +kernel
theorem d11_22 : decode jdk_2529_method_15_code 22 = .ok (.aload_n 0, 1) := by decide +kernel
theorem d11_23 : decode jdk_2529_method_15_code 23 = .ok (.iload_n 3, 1) := by decide +kernel
theorem d11_24 : decode jdk_2529_method_15_code 24 = .ok (.iconst 1, 1) := by decide +kernel
theorem d11_25 : decode jdk_2529_method_15_code 25 = .ok (.isub, 1) := by decide +kernel
theorem d11_26 : decode jdk_2529_method_15_code 26 = .ok (.laload, 1) := by decide +kernel
theorem d11_27 : decode jdk_2529_method_15_code 27 = .ok (.lcmp, 1) := by decide +kernel
theorem d11_28 : decode jdk_2529_method_15_code 28 = .ok (.ifCond .ge 38, 3) := by decide +kernel
theorem d11_31 : decode jdk_2529_method_15_code 31 = .ok (.iinc 3 (-1), 3) := by decide +kernel
theorem d11_34 : decode jdk_2529_method_15_code 34 = .ok (.iload_n 3, 1) := by decide +kernel
theorem d11_35 : decode jdk_2529_method_15_code 35 = .ok (.iload_n 1, 1) := by decide +kernel
theorem d11_36 : decode jdk_2529_method_15_code 36 = .ok (.if_icmp .lt 23, 3) := by decide +kernel
theorem d11_39 : decode jdk_2529_method_15_code 39 = .ok (.lload 5, 2) := by decide +kernel
theorem d11_41 : decode jdk_2529_method_15_code 41 = .ok (.aload_n 0, 1) := by decide +kernel
theorem d11_42 : decode jdk_2529_method_15_code 42 = .ok (.iload_n 3, 1) := by decide +kernel
theorem d11_43 : decode jdk_2529_method_15_code 43 = .ok (.laload, 1) := by decide +kernel
theorem d11_44 : decode jdk_2529_method_15_code 44 = .ok (.lcmp, 1) := by decide +kernel
theorem d11_45 : decode jdk_2529_method_15_code 45 = .ok (.ifCond .ge 14, 3) := by decide +kernel
theorem d11_48 : decode jdk_2529_method_15_code 48 = .ok (.aload_n 0, 1) := by decide +kernel
theorem d11_49 : decode jdk_2529_method_15_code 49 = .ok (.iload_n 3, 1) := by decide +kernel
theorem d11_50 : decode jdk_2529_method_15_code 50 = .ok (.iconst 1, 1) := by decide +kernel
theorem d11_51 : decode jdk_2529_method_15_code 51 = .ok (.iadd, 1) := by decide +kernel
theorem d11_52 : decode jdk_2529_method_15_code 52 = .ok (.aload_n 0, 1) := by decide +kernel
theorem d11_53 : decode jdk_2529_method_15_code 53 = .ok (.iload_n 3, 1) := by decide +kernel
theorem d11_54 : decode jdk_2529_method_15_code 54 = .ok (.laload, 1) := by decide +kernel
theorem d11_55 : decode jdk_2529_method_15_code 55 = .ok (.lastore, 1) := by decide +kernel
theorem d11_56 : decode jdk_2529_method_15_code 56 = .ok (.goto (-25), 3) := by decide +kernel
theorem d11_59 : decode jdk_2529_method_15_code 59 = .ok (.aload_n 0, 1) := by decide +kernel
theorem d11_60 : decode jdk_2529_method_15_code 60 = .ok (.iload_n 3, 1) := by decide +kernel
theorem d11_61 : decode jdk_2529_method_15_code 61 = .ok (.iconst 1, 1) := by decide +kernel
theorem d11_62 : decode jdk_2529_method_15_code 62 = .ok (.iadd, 1) := by decide +kernel
theorem d11_63 : decode jdk_2529_method_15_code 63 = .ok (.lload 5, 2) := by decide +kernel
theorem d11_65 : decode jdk_2529_method_15_code 65 = .ok (.lastore, 1) := by decide +kernel
theorem d11_66 : decode jdk_2529_method_15_code 66 = .ok (.goto (-63), 3) := by decide +kernel
theorem d11_69 : decode jdk_2529_method_15_code 69 = .ok (.return_, 1) := by decide +kernel
theorem pn_java_util_DualPivotQuicksort : plainName "java/util/DualPivotQuicksort" = true := by first | (simp [plainName, overriddenIn]; done) | decide +kernel
theorem ef_11_000 (m : MethodId) (x0 : Addr) (x1 : Int32) (x2 : Int32) : entryFrame m #[(.ref x0), (.int x1), (.int x2)] 7 = mkF m 0 #[.val (.ref x0), .val (.int x1), .val (.int x2), .unset, .unset, .unset, .unset] [] := by first | (simp [entryFrame, mkF, argsToLocals, Value.category]; done) | rfl
def Q11 (Z : State) (d0 : Addr) (u0 : Int32) (u1 : Int32) (lo : Nat) (hi : Nat) (len : Nat) (g0 : Nat → Int64) (h0 : Heap) (n0 : Nat) (v : Option Value) (h : Heap) (L : List Loc) : Prop := v = none ∧ Fr n0 L ∧ Keep h0 h [d0] ∧ ∃ g, own_JA Z h d0 (Int32.ofNat len) g ∧ own_upto lo hi hi g0 g
set_option maxRecDepth 65536 in
set_option maxHeartbeats 40000000 in
theorem rm11 (l : Launch) (Z : State) (a0 : Array Value) (hw : ∀ d ∈ tables_1, d.before a0 Z = true) (ws : List Jvm.Cond) (d0 : Addr) (u0 : Int32) (u1 : Int32) (lo : Nat) (hi : Nat) (len : Nat) (g0 : Nat → Int64) (h0 : Heap) (n0 : Nat) (Z0 : n0 ≤ h0.size) (hu0 : u0 = Int32.ofNat lo) (hu1 : u1 = Int32.ofNat hi) (g_d0 : n0 ≤ d0) (B_d0 : own_JA Z h0 d0 (Int32.ofNat len) g0) (hlo : lo ≤ hi) (hhi : hi ≤ len) (hlen : len ≤ 9) :
    MetFree l (⟨"java/util/DualPivotQuicksort", "insertionSort", "([JII)V"⟩ : MethodName) (head1 (Jvm.Cond.code (⟨"java/util/DualPivotQuicksort", "insertionSort", "([JII)V"⟩ : MethodName) jdk_2529_method_15_code 7 none :: ws) ({ frames := 0, cells := 0, slots := 0, locals := 0 } : Room)) (fun a U => a = #[(.ref d0), (.int u0), (.int u1)] ∧ Z.Warmed39 U.vm ∧ U.heap = h0) (fun _ _ _ _ _ => True) (fun _ U o U' => ∃ v L, o = .returned v ∧ Q11 Z d0 u0 u1 lo hi len g0 h0 n0 v U'.heap L ∧ FrameEnd U o U' L ({ frames := 0, cells := 0, slots := 0, locals := 0 } : Room).cells ({ frames := 0, cells := 0, slots := 0, locals := 0 } : Room).slots) := by
  refine MetFree.of_bodySF (plainFor_of_name pn_java_util_DualPivotQuicksort) hisR ?_
  intro p e s m args below meth c s₁ Bd hml0 hP hK
  obtain ⟨rfl, hZ, hh⟩ := hP
  have hx := Bd.exec
  have hby := Bd.bytes
  have hlk : meth.locks = false := Bd.notSynchronized
  have hml : c.maxLocals = 7 := hml0
  have hown : s.vm.findClass "java/util/DualPivotQuicksort" = some m.cls := findClass_of_methodNamed Bd.named
  have hnm := (name_of_methodNamed Bd.named Bd.method).1
  have X0 : Stand p l e ({ frames := 0, cells := 0, slots := 0, locals := 0 } : Room) s m #[(.ref d0), (.int u0), (.int u1)] below meth c s₁ [] 0 0 := Stand.of_body Bd
  have e0 : s₁.heap = h0 := by rw [← hh, Bd.state]; rfl
  have N0 := Fr.nil n0
  have K0 : Keep h0 h0 [d0] := Keep.refl h0 _
  show Wp p e below (Out s (Q11 Z d0 u0 u1 lo hi len g0 h0 n0) ({ frames := 0, cells := 0, slots := 0, locals := 0 } : Room).cells ({ frames := 0, cells := 0, slots := 0, locals := 0 } : Room).slots) (s₁.setTop (entryFrame m #[(.ref d0), (.int u0), (.int u1)] 7))
  rw [ef_11_000]
  subst hu0 hu1
  show Wp p e below _ (s₁.setTop (mkF m 0 #[.val (.ref d0), .val (.int (Int32.ofNat lo)), .val (.int (Int32.ofNat hi)), .unset, .unset, .unset, .unset] []))
  refine Wp.step (fun t k => XS.iloadN X0.here hx rfl (hb hby d11_0) rfl k) ?_
  show Wp p e below _ (s₁.setTop (mkF m 1 #[.val (.ref d0), .val (.int (Int32.ofNat lo)), .val (.int (Int32.ofNat hi)), .unset, .unset, .unset, .unset] [(.int (Int32.ofNat lo))]))
  refine Wp.step (fun t k => XS.istore X0.here hx rfl (hb hby d11_1) rfl (l' := #[.val (.ref d0), .val (.int (Int32.ofNat lo)), .val (.int (Int32.ofNat hi)), .unset, .val (.int (Int32.ofNat lo)), .unset, .unset]) rfl k) ?_
  show Wp p e below _ (s₁.setTop (mkF m 3 #[.val (.ref d0), .val (.int (Int32.ofNat lo)), .val (.int (Int32.ofNat hi)), .unset, .val (.int (Int32.ofNat lo)), .unset, .unset] []))
  have loop1 : ∀ (f : Nat) (kk : Nat) (g : Nat → Int64) (sl3 : Slot) (sl5 : Slot) (sl6 : Slot) (hh_1 : Heap) (locs_1 : List Loc) (T_1 : State) (X_1 : Stand p l e ({ frames := 0, cells := 0, slots := 0, locals := 0 } : Room) s m #[(.ref d0), (.int (Int32.ofNat lo)), (.int (Int32.ofNat hi))] below meth c T_1 locs_1 0 0) (eT_1 : T_1.heap = hh_1) (NN_1 : Fr n0 locs_1) (KK_1 : Keep h0 hh_1 [d0]) (q0_1 : own_JA Z hh_1 d0 (Int32.ofNat len) g) (hk : lo ≤ kk) (hkh : kk ≤ hi) (U : own_upto lo (kk + 1) hi g0 g) (O3 : One sl3) (O5 : own_two sl5 sl6) (hm : hi - kk < f), Wp p e below (Out s (Q11 Z d0 (Int32.ofNat lo) (Int32.ofNat hi) lo hi len g0 h0 n0) ({ frames := 0, cells := 0, slots := 0, locals := 0 } : Room).cells ({ frames := 0, cells := 0, slots := 0, locals := 0 } : Room).slots) (T_1.setTop (mkF m 3 #[.val (.ref d0), .val (.int (Int32.ofNat lo)), .val (.int (Int32.ofNat hi)), sl3, .val (.int (Int32.ofNat kk)), sl5, sl6] [])) := by
    intro f
    induction f with
    | zero => intros; rename_i hm; exact absurd hm (Nat.not_lt_zero _)
    | succ f ih_1 =>
      intro kk g sl3 sl5 sl6 hh_1 locs_1 T_1 X_1 eT_1 NN_1 KK_1 q0_1 hk hkh U O3 O5 hm
      show Wp p e below _ (T_1.setTop (mkF m 3 #[.val (.ref d0), .val (.int (Int32.ofNat lo)), .val (.int (Int32.ofNat hi)), sl3, .val (.int (Int32.ofNat kk)), sl5, sl6] []))
      refine Wp.step (fun t k => XS.iinc X_1.here hx rfl (hb hby d11_3) rfl (l' := #[.val (.ref d0), .val (.int (Int32.ofNat lo)), .val (.int (Int32.ofNat hi)), sl3, .val (.int ((Int32.ofNat kk) + (1 : Int32))), sl5, sl6]) rfl k) ?_
      show Wp p e below _ (T_1.setTop (mkF m 6 #[.val (.ref d0), .val (.int (Int32.ofNat lo)), .val (.int (Int32.ofNat hi)), sl3, .val (.int ((Int32.ofNat kk) + (1 : Int32))), sl5, sl6] []))
      rw [show ((Int32.ofNat kk) + (1 : Int32)) = (Int32.ofNat (kk + 1)) from own_succ _]
      refine Wp.step (fun t k => XS.iload X_1.here hx rfl (hb hby d11_6) rfl k) ?_
      show Wp p e below _ (T_1.setTop (mkF m 8 #[.val (.ref d0), .val (.int (Int32.ofNat lo)), .val (.int (Int32.ofNat hi)), sl3, .val (.int (Int32.ofNat (kk + 1))), sl5, sl6] [(.int (Int32.ofNat (kk + 1)))]))
      refine Wp.step (fun t k => XS.iloadN X_1.here hx rfl (hb hby d11_8) rfl k) ?_
      show Wp p e below _ (T_1.setTop (mkF m 9 #[.val (.ref d0), .val (.int (Int32.ofNat lo)), .val (.int (Int32.ofNat hi)), sl3, .val (.int (Int32.ofNat (kk + 1))), sl5, sl6] [(.int (Int32.ofNat hi)), (.int (Int32.ofNat (kk + 1)))]))
      by_cases hc2 : (Int32.ofNat (kk + 1)) < (Int32.ofNat hi)
      · have hc2n : (kk + 1) < hi := (own_lt (by omega) (by omega)).mp hc2
        refine Wp.step (fun t k => XS.icmpNo X_1.here hx rfl (hb hby d11_9) rfl (tlt hc2).2.1 k) ?_
        show Wp p e below _ (T_1.setTop (mkF m 12 #[.val (.ref d0), .val (.int (Int32.ofNat lo)), .val (.int (Int32.ofNat hi)), sl3, .val (.int (Int32.ofNat (kk + 1))), sl5, sl6] []))
        refine Wp.step (fun t k => XS.aloadN X_1.here hx rfl (hb hby d11_12) rfl rfl k) ?_
        show Wp p e below _ (T_1.setTop (mkF m 13 #[.val (.ref d0), .val (.int (Int32.ofNat lo)), .val (.int (Int32.ofNat hi)), sl3, .val (.int (Int32.ofNat (kk + 1))), sl5, sl6] [(.ref d0)]))
        refine Wp.step (fun t k => XS.iload X_1.here hx rfl (hb hby d11_13) rfl k) ?_
        show Wp p e below _ (T_1.setTop (mkF m 15 #[.val (.ref d0), .val (.int (Int32.ofNat lo)), .val (.int (Int32.ofNat hi)), sl3, .val (.int (Int32.ofNat (kk + 1))), sl5, sl6] [(.int (Int32.ofNat (kk + 1))), (.ref d0)]))
        refine Wp.step (fun t k => XS.dup X_1.here hx rfl (hb hby d11_15) rfl rfl k) ?_
        show Wp p e below _ (T_1.setTop (mkF m 16 #[.val (.ref d0), .val (.int (Int32.ofNat lo)), .val (.int (Int32.ofNat hi)), sl3, .val (.int (Int32.ofNat (kk + 1))), sl5, sl6] [(.int (Int32.ofNat (kk + 1))), (.int (Int32.ofNat (kk + 1))), (.ref d0)]))
        refine Wp.step (fun t k => XS.istoreN X_1.here hx rfl (hb hby d11_16) rfl (l' := #[.val (.ref d0), .val (.int (Int32.ofNat lo)), .val (.int (Int32.ofNat hi)), .val (.int (Int32.ofNat (kk + 1))), .val (.int (Int32.ofNat (kk + 1))), sl5, sl6]) (XS.store1 (o := sl3) rfl O3 rfl) k) ?_
        show Wp p e below _ (T_1.setTop (mkF m 17 #[.val (.ref d0), .val (.int (Int32.ofNat lo)), .val (.int (Int32.ofNat hi)), .val (.int (Int32.ofNat (kk + 1))), .val (.int (Int32.ofNat (kk + 1))), sl5, sl6] [(.int (Int32.ofNat (kk + 1))), (.ref d0)]))
        obtain ⟨cl3, Ar3, Sz3, Nn3, El3⟩ := id q0_1
        have hin3 : ¬ ((Int32.ofNat (kk + 1)) < 0 ∨ cl3.slots.size ≤ ((Int32.ofNat (kk + 1))).toNatClampNeg) := inb_of Sz3 (own_inb (by omega) (by omega))
        have hat3 : cl3.slots[((Int32.ofNat (kk + 1))).toNatClampNeg]? = some (.long (g ((Int32.ofNat (kk + 1))).toNatClampNeg)) := (El3 _ (by have q := Nat.lt_of_not_le fun q => hin3 (Or.inr q); rw [Sz3] at q; exact q))
        rw [show (g ((Int32.ofNat (kk + 1))).toNatClampNeg) = (g (kk + 1)) from congrArg g (own_nat (by omega))] at hat3
        refine Wp.step (X_1.laload hx (j := (Int32.ofNat (kk + 1))) (v := (.long (g (kk + 1)))) (by rw [eT_1]; exact Ar3.1) (State.isArrayOf_alike hZ.alike Ar3.2.1) Ar3.2.2 hin3 hat3 (g := (mkF m 17 #[.val (.ref d0), .val (.int (Int32.ofNat lo)), .val (.int (Int32.ofNat hi)), .val (.int (Int32.ofNat (kk + 1))), .val (.int (Int32.ofNat (kk + 1))), sl5, sl6] [(.int (Int32.ofNat (kk + 1))), (.ref d0)])) rfl rfl (hb hby d11_17)) ?_
        show Wp p e below _ (T_1.setTop (mkF m 18 #[.val (.ref d0), .val (.int (Int32.ofNat lo)), .val (.int (Int32.ofNat hi)), .val (.int (Int32.ofNat (kk + 1))), .val (.int (Int32.ofNat (kk + 1))), sl5, sl6] [(.long (g (kk + 1)))]))
        refine Wp.step (fun t k => XS.lstore X_1.here hx rfl (hb hby d11_18) rfl (l' := #[.val (.ref d0), .val (.int (Int32.ofNat lo)), .val (.int (Int32.ofNat hi)), .val (.int (Int32.ofNat (kk + 1))), .val (.int (Int32.ofNat (kk + 1))), .val (.long (g (kk + 1))), .second]) (by rcases O5 with ⟨rfl, rfl⟩ | ⟨z, rfl, rfl⟩ <;> rfl) k) ?_
        show Wp p e below _ (T_1.setTop (mkF m 20 #[.val (.ref d0), .val (.int (Int32.ofNat lo)), .val (.int (Int32.ofNat hi)), .val (.int (Int32.ofNat (kk + 1))), .val (.int (Int32.ofNat (kk + 1))), .val (.long (g (kk + 1))), .second] []))
        refine Wp.step (fun t k => XS.lload X_1.here hx rfl (hb hby d11_20) rfl k) ?_
        show Wp p e below _ (T_1.setTop (mkF m 22 #[.val (.ref d0), .val (.int (Int32.ofNat lo)), .val (.int (Int32.ofNat hi)), .val (.int (Int32.ofNat (kk + 1))), .val (.int (Int32.ofNat (kk + 1))), .val (.long (g (kk + 1))), .second] [(.long (g (kk + 1)))]))
        refine Wp.step (fun t k => XS.aloadN X_1.here hx rfl (hb hby d11_22) rfl rfl k) ?_
        show Wp p e below _ (T_1.setTop (mkF m 23 #[.val (.ref d0), .val (.int (Int32.ofNat lo)), .val (.int (Int32.ofNat hi)), .val (.int (Int32.ofNat (kk + 1))), .val (.int (Int32.ofNat (kk + 1))), .val (.long (g (kk + 1))), .second] [(.ref d0), (.long (g (kk + 1)))]))
        refine Wp.step (fun t k => XS.iloadN X_1.here hx rfl (hb hby d11_23) rfl k) ?_
        show Wp p e below _ (T_1.setTop (mkF m 24 #[.val (.ref d0), .val (.int (Int32.ofNat lo)), .val (.int (Int32.ofNat hi)), .val (.int (Int32.ofNat (kk + 1))), .val (.int (Int32.ofNat (kk + 1))), .val (.long (g (kk + 1))), .second] [(.int (Int32.ofNat (kk + 1))), (.ref d0), (.long (g (kk + 1)))]))
        refine Wp.step (fun t k => XS.iconst X_1.here hx rfl (hb hby d11_24) k) ?_
        show Wp p e below _ (T_1.setTop (mkF m 25 #[.val (.ref d0), .val (.int (Int32.ofNat lo)), .val (.int (Int32.ofNat hi)), .val (.int (Int32.ofNat (kk + 1))), .val (.int (Int32.ofNat (kk + 1))), .val (.long (g (kk + 1))), .second] [(.int (1 : Int32)), (.int (Int32.ofNat (kk + 1))), (.ref d0), (.long (g (kk + 1)))]))
        refine Wp.step (fun t k => XS.isub X_1.here hx rfl (hb hby d11_25) rfl k) ?_
        show Wp p e below _ (T_1.setTop (mkF m 26 #[.val (.ref d0), .val (.int (Int32.ofNat lo)), .val (.int (Int32.ofNat hi)), .val (.int (Int32.ofNat (kk + 1))), .val (.int (Int32.ofNat (kk + 1))), .val (.long (g (kk + 1))), .second] [(.int ((Int32.ofNat (kk + 1)) - (1 : Int32))), (.ref d0), (.long (g (kk + 1)))]))
        rw [show ((Int32.ofNat (kk + 1)) - (1 : Int32)) = (Int32.ofNat kk) from own_pred']
        obtain ⟨cl4, Ar4, Sz4, Nn4, El4⟩ := id q0_1
        have hin4 : ¬ ((Int32.ofNat kk) < 0 ∨ cl4.slots.size ≤ ((Int32.ofNat kk)).toNatClampNeg) := inb_of Sz4 (own_inb (by omega) (by omega))
        have hat4 : cl4.slots[((Int32.ofNat kk)).toNatClampNeg]? = some (.long (g ((Int32.ofNat kk)).toNatClampNeg)) := (El4 _ (by have q := Nat.lt_of_not_le fun q => hin4 (Or.inr q); rw [Sz4] at q; exact q))
        rw [show (g ((Int32.ofNat kk)).toNatClampNeg) = (g kk) from congrArg g (own_nat (by omega))] at hat4
        refine Wp.step (X_1.laload hx (j := (Int32.ofNat kk)) (v := (.long (g kk))) (by rw [eT_1]; exact Ar4.1) (State.isArrayOf_alike hZ.alike Ar4.2.1) Ar4.2.2 hin4 hat4 (g := (mkF m 26 #[.val (.ref d0), .val (.int (Int32.ofNat lo)), .val (.int (Int32.ofNat hi)), .val (.int (Int32.ofNat (kk + 1))), .val (.int (Int32.ofNat (kk + 1))), .val (.long (g (kk + 1))), .second] [(.int (Int32.ofNat kk)), (.ref d0), (.long (g (kk + 1)))])) rfl rfl (hb hby d11_26)) ?_
        show Wp p e below _ (T_1.setTop (mkF m 27 #[.val (.ref d0), .val (.int (Int32.ofNat lo)), .val (.int (Int32.ofNat hi)), .val (.int (Int32.ofNat (kk + 1))), .val (.int (Int32.ofNat (kk + 1))), .val (.long (g (kk + 1))), .second] [(.long (g kk)), (.long (g (kk + 1)))]))
        refine Wp.step (fun t k => XS.lcmp X_1.here hx rfl (hb hby d11_27) rfl k) ?_
        show Wp p e below _ (T_1.setTop (mkF m 28 #[.val (.ref d0), .val (.int (Int32.ofNat lo)), .val (.int (Int32.ofNat hi)), .val (.int (Int32.ofNat (kk + 1))), .val (.int (Int32.ofNat (kk + 1))), .val (.long (g (kk + 1))), .second] [(.int (lcmpW (g (kk + 1)) (g kk)))]))
        by_cases hc5 : (lcmpW (g (kk + 1)) (g kk)) < (0 : Int32)
        · have hc5n := (lw_lt _ _).mp hc5
          refine Wp.step (fun t k => XS.ifNo X_1.here hx rfl (hb hby d11_28) rfl ((if0 _ _).trans (tlt hc5).2.1) k) ?_
          show Wp p e below _ (T_1.setTop (mkF m 31 #[.val (.ref d0), .val (.int (Int32.ofNat lo)), .val (.int (Int32.ofNat hi)), .val (.int (Int32.ofNat (kk + 1))), .val (.int (Int32.ofNat (kk + 1))), .val (.long (g (kk + 1))), .second] []))
          have loop6 : ∀ (f : Nat) (i : Nat) (g' : Nat → Int64) (hh_6 : Heap) (locs_6 : List Loc) (T_6 : State) (X_6 : Stand p l e ({ frames := 0, cells := 0, slots := 0, locals := 0 } : Room) s m #[(.ref d0), (.int (Int32.ofNat lo)), (.int (Int32.ofNat hi))] below meth c T_6 locs_6 0 0) (eT_6 : T_6.heap = hh_6) (NN_6 : Fr n0 locs_6) (KK_6 : Keep h0 hh_6 [d0]) (q0_6 : own_JA Z hh_6 d0 (Int32.ofNat len) g') (H : own_hole lo (kk + 1) hi g0 g' i (g (kk + 1))) (hm : i < f), Wp p e below (Out s (Q11 Z d0 (Int32.ofNat lo) (Int32.ofNat hi) lo hi len g0 h0 n0) ({ frames := 0, cells := 0, slots := 0, locals := 0 } : Room).cells ({ frames := 0, cells := 0, slots := 0, locals := 0 } : Room).slots) (T_6.setTop (mkF m 31 #[.val (.ref d0), .val (.int (Int32.ofNat lo)), .val (.int (Int32.ofNat hi)), .val (.int (Int32.ofNat i)), .val (.int (Int32.ofNat (kk + 1))), .val (.long (g (kk + 1))), .second] [])) := by
            intro f
            induction f with
            | zero => intros; rename_i hm; exact absurd hm (Nat.not_lt_zero _)
            | succ f ih_6 =>
              intro i g' hh_6 locs_6 T_6 X_6 eT_6 NN_6 KK_6 q0_6 H hm
              have H1 := H.1
              have H2 := H.2.1
              have H3 := H.2.2.1
              show Wp p e below _ (T_6.setTop (mkF m 31 #[.val (.ref d0), .val (.int (Int32.ofNat lo)), .val (.int (Int32.ofNat hi)), .val (.int (Int32.ofNat i)), .val (.int (Int32.ofNat (kk + 1))), .val (.long (g (kk + 1))), .second] []))
              refine Wp.step (fun t k => XS.iinc X_6.here hx rfl (hb hby d11_31) rfl (l' := #[.val (.ref d0), .val (.int (Int32.ofNat lo)), .val (.int (Int32.ofNat hi)), .val (.int ((Int32.ofNat i) + (-1 : Int32))), .val (.int (Int32.ofNat (kk + 1))), .val (.long (g (kk + 1))), .second]) rfl k) ?_
              show Wp p e below _ (T_6.setTop (mkF m 34 #[.val (.ref d0), .val (.int (Int32.ofNat lo)), .val (.int (Int32.ofNat hi)), .val (.int ((Int32.ofNat i) + (-1 : Int32))), .val (.int (Int32.ofNat (kk + 1))), .val (.long (g (kk + 1))), .second] []))
              refine Wp.step (fun t k => XS.iloadN X_6.here hx rfl (hb hby d11_34) rfl k) ?_
              show Wp p e below _ (T_6.setTop (mkF m 35 #[.val (.ref d0), .val (.int (Int32.ofNat lo)), .val (.int (Int32.ofNat hi)), .val (.int ((Int32.ofNat i) + (-1 : Int32))), .val (.int (Int32.ofNat (kk + 1))), .val (.long (g (kk + 1))), .second] [(.int ((Int32.ofNat i) + (-1 : Int32)))]))
              refine Wp.step (fun t k => XS.iloadN X_6.here hx rfl (hb hby d11_35) rfl k) ?_
              show Wp p e below _ (T_6.setTop (mkF m 36 #[.val (.ref d0), .val (.int (Int32.ofNat lo)), .val (.int (Int32.ofNat hi)), .val (.int ((Int32.ofNat i) + (-1 : Int32))), .val (.int (Int32.ofNat (kk + 1))), .val (.long (g (kk + 1))), .second] [(.int (Int32.ofNat lo)), (.int ((Int32.ofNat i) + (-1 : Int32)))]))
              by_cases hc7 : ((Int32.ofNat i) + (-1 : Int32)) < (Int32.ofNat lo)
              · have hc7n : i < lo + 1 := (own_dec_lt (by omega) (by omega)).mp hc7
                refine Wp.step (fun t k => XS.icmpYes X_6.here hx rfl (pc0 := 36) (pc' := 59) rfl (hb hby d11_36) rfl (tlt hc7).1 (by decide) (by decide) k) ?_
                show Wp p e below _ (T_6.setTop (mkF m 59 #[.val (.ref d0), .val (.int (Int32.ofNat lo)), .val (.int (Int32.ofNat hi)), .val (.int ((Int32.ofNat i) + (-1 : Int32))), .val (.int (Int32.ofNat (kk + 1))), .val (.long (g (kk + 1))), .second] []))
                refine Wp.step (fun t k => XS.aloadN X_6.here hx rfl (hb hby d11_59) rfl rfl k) ?_
                show Wp p e below _ (T_6.setTop (mkF m 60 #[.val (.ref d0), .val (.int (Int32.ofNat lo)), .val (.int (Int32.ofNat hi)), .val (.int ((Int32.ofNat i) + (-1 : Int32))), .val (.int (Int32.ofNat (kk + 1))), .val (.long (g (kk + 1))), .second] [(.ref d0)]))
                refine Wp.step (fun t k => XS.iloadN X_6.here hx rfl (hb hby d11_60) rfl k) ?_
                show Wp p e below _ (T_6.setTop (mkF m 61 #[.val (.ref d0), .val (.int (Int32.ofNat lo)), .val (.int (Int32.ofNat hi)), .val (.int ((Int32.ofNat i) + (-1 : Int32))), .val (.int (Int32.ofNat (kk + 1))), .val (.long (g (kk + 1))), .second] [(.int ((Int32.ofNat i) + (-1 : Int32))), (.ref d0)]))
                refine Wp.step (fun t k => XS.iconst X_6.here hx rfl (hb hby d11_61) k) ?_
                show Wp p e below _ (T_6.setTop (mkF m 62 #[.val (.ref d0), .val (.int (Int32.ofNat lo)), .val (.int (Int32.ofNat hi)), .val (.int ((Int32.ofNat i) + (-1 : Int32))), .val (.int (Int32.ofNat (kk + 1))), .val (.long (g (kk + 1))), .second] [(.int (1 : Int32)), (.int ((Int32.ofNat i) + (-1 : Int32))), (.ref d0)]))
                refine Wp.step (fun t k => XS.iadd X_6.here hx rfl (hb hby d11_62) rfl k) ?_
                show Wp p e below _ (T_6.setTop (mkF m 63 #[.val (.ref d0), .val (.int (Int32.ofNat lo)), .val (.int (Int32.ofNat hi)), .val (.int ((Int32.ofNat i) + (-1 : Int32))), .val (.int (Int32.ofNat (kk + 1))), .val (.long (g (kk + 1))), .second] [(.int (((Int32.ofNat i) + (-1 : Int32)) + (1 : Int32))), (.ref d0)]))
                rw [show (((Int32.ofNat i) + (-1 : Int32)) + (1 : Int32)) = (Int32.ofNat i) from own_incdec _]
                refine Wp.step (fun t k => XS.lload X_6.here hx rfl (hb hby d11_63) rfl k) ?_
                show Wp p e below _ (T_6.setTop (mkF m 65 #[.val (.ref d0), .val (.int (Int32.ofNat lo)), .val (.int (Int32.ofNat hi)), .val (.int ((Int32.ofNat i) + (-1 : Int32))), .val (.int (Int32.ofNat (kk + 1))), .val (.long (g (kk + 1))), .second] [(.long (g (kk + 1))), (.int (Int32.ofNat i)), (.ref d0)]))
                obtain ⟨cl8, Ar8, Sz8, Nn8, El8⟩ := id q0_6
                have hin8 : ¬ ((Int32.ofNat i) < 0 ∨ cl8.slots.size ≤ ((Int32.ofNat i)).toNatClampNeg) := inb_of Sz8 (own_inb (by omega) (by omega))
                obtain ⟨T8, h8, X8, e8, W8, st8⟩ := stJ X_6 hx hZ eT_6 Ar8 (j := (Int32.ofNat i)) hin8 (g := (mkF m 65 #[.val (.ref d0), .val (.int (Int32.ofNat lo)), .val (.int (Int32.ofNat hi)), .val (.int ((Int32.ofNat i) + (-1 : Int32))), .val (.int (Int32.ofNat (kk + 1))), .val (.long (g (kk + 1))), .second] [(.long (g (kk + 1))), (.int (Int32.ofNat i)), (.ref d0)])) rfl rfl (hb hby d11_65)
                have K9 := KK_6.wr W8 (Or.inl (List.mem_of_getElem? (i := 0) rfl))
                have N8 := Fr.snoc X8 NN_6 g_d0
                have B8 := own_JA.set Ar8 Sz8 Nn8 El8 W8
                rw [own_nat (a := i) (by omega)] at B8
                refine Wp.step st8 ?_
                show Wp p e below _ (T8.setTop (mkF m 66 #[.val (.ref d0), .val (.int (Int32.ofNat lo)), .val (.int (Int32.ofNat hi)), .val (.int ((Int32.ofNat i) + (-1 : Int32))), .val (.int (Int32.ofNat (kk + 1))), .val (.long (g (kk + 1))), .second] []))
                refine Wp.step (fun t k => XS.goto X8.here hx rfl (pc0 := 66) (pc' := 3) rfl (hb hby d11_66) (by decide) (by decide) k) ?_
                show Wp p e below _ (T8.setTop (mkF m 3 #[.val (.ref d0), .val (.int (Int32.ofNat lo)), .val (.int (Int32.ofNat hi)), .val (.int ((Int32.ofNat i) + (-1 : Int32))), .val (.int (Int32.ofNat (kk + 1))), .val (.long (g (kk + 1))), .second] []))
                exact ih_1 (kk + 1) (own_updJ g' i (g (kk + 1))) (.val (.int ((Int32.ofNat i) + (-1 : Int32)))) (.val (.long (g (kk + 1)))) .second _ _ T8 X8 e8 N8 K9 B8 (by omega) (by omega) (H.done (Or.inl hc7n)) (One.val rfl) (own_two.v _) (by omega)
              · have hc7n : ¬ (i < lo + 1) := fun q => hc7 ((own_dec_lt (by omega) (by omega)).mpr q)
                refine Wp.step (fun t k => XS.icmpNo X_6.here hx rfl (hb hby d11_36) rfl (flt hc7).1 k) ?_
                show Wp p e below _ (T_6.setTop (mkF m 39 #[.val (.ref d0), .val (.int (Int32.ofNat lo)), .val (.int (Int32.ofNat hi)), .val (.int ((Int32.ofNat i) + (-1 : Int32))), .val (.int (Int32.ofNat (kk + 1))), .val (.long (g (kk + 1))), .second] []))
                rw [show ((Int32.ofNat i) + (-1 : Int32)) = (Int32.ofNat (i - 1)) from own_dec (by omega)]
                refine Wp.step (fun t k => XS.lload X_6.here hx rfl (hb hby d11_39) rfl k) ?_
                show Wp p e below _ (T_6.setTop (mkF m 41 #[.val (.ref d0), .val (.int (Int32.ofNat lo)), .val (.int (Int32.ofNat hi)), .val (.int (Int32.ofNat (i - 1))), .val (.int (Int32.ofNat (kk + 1))), .val (.long (g (kk + 1))), .second] [(.long (g (kk + 1)))]))
                refine Wp.step (fun t k => XS.aloadN X_6.here hx rfl (hb hby d11_41) rfl rfl k) ?_
                show Wp p e below _ (T_6.setTop (mkF m 42 #[.val (.ref d0), .val (.int (Int32.ofNat lo)), .val (.int (Int32.ofNat hi)), .val (.int (Int32.ofNat (i - 1))), .val (.int (Int32.ofNat (kk + 1))), .val (.long (g (kk + 1))), .second] [(.ref d0), (.long (g (kk + 1)))]))
                refine Wp.step (fun t k => XS.iloadN X_6.here hx rfl (hb hby d11_42) rfl k) ?_
                show Wp p e below _ (T_6.setTop (mkF m 43 #[.val (.ref d0), .val (.int (Int32.ofNat lo)), .val (.int (Int32.ofNat hi)), .val (.int (Int32.ofNat (i - 1))), .val (.int (Int32.ofNat (kk + 1))), .val (.long (g (kk + 1))), .second] [(.int (Int32.ofNat (i - 1))), (.ref d0), (.long (g (kk + 1)))]))
                obtain ⟨cl10, Ar10, Sz10, Nn10, El10⟩ := id q0_6
                have hin10 : ¬ ((Int32.ofNat (i - 1)) < 0 ∨ cl10.slots.size ≤ ((Int32.ofNat (i - 1))).toNatClampNeg) := inb_of Sz10 (own_inb (by omega) (by omega))
                have hat10 : cl10.slots[((Int32.ofNat (i - 1))).toNatClampNeg]? = some (.long (g' ((Int32.ofNat (i - 1))).toNatClampNeg)) := (El10 _ (by have q := Nat.lt_of_not_le fun q => hin10 (Or.inr q); rw [Sz10] at q; exact q))
                rw [show (g' ((Int32.ofNat (i - 1))).toNatClampNeg) = (g' (i - 1)) from congrArg g' (own_nat (by omega))] at hat10
                refine Wp.step (X_6.laload hx (j := (Int32.ofNat (i - 1))) (v := (.long (g' (i - 1)))) (by rw [eT_6]; exact Ar10.1) (State.isArrayOf_alike hZ.alike Ar10.2.1) Ar10.2.2 hin10 hat10 (g := (mkF m 43 #[.val (.ref d0), .val (.int (Int32.ofNat lo)), .val (.int (Int32.ofNat hi)), .val (.int (Int32.ofNat (i - 1))), .val (.int (Int32.ofNat (kk + 1))), .val (.long (g (kk + 1))), .second] [(.int (Int32.ofNat (i - 1))), (.ref d0), (.long (g (kk + 1)))])) rfl rfl (hb hby d11_43)) ?_
                show Wp p e below _ (T_6.setTop (mkF m 44 #[.val (.ref d0), .val (.int (Int32.ofNat lo)), .val (.int (Int32.ofNat hi)), .val (.int (Int32.ofNat (i - 1))), .val (.int (Int32.ofNat (kk + 1))), .val (.long (g (kk + 1))), .second] [(.long (g' (i - 1))), (.long (g (kk + 1)))]))
                refine Wp.step (fun t k => XS.lcmp X_6.here hx rfl (hb hby d11_44) rfl k) ?_
                show Wp p e below _ (T_6.setTop (mkF m 45 #[.val (.ref d0), .val (.int (Int32.ofNat lo)), .val (.int (Int32.ofNat hi)), .val (.int (Int32.ofNat (i - 1))), .val (.int (Int32.ofNat (kk + 1))), .val (.long (g (kk + 1))), .second] [(.int (lcmpW (g (kk + 1)) (g' (i - 1))))]))
                by_cases hc11 : (lcmpW (g (kk + 1)) (g' (i - 1))) < (0 : Int32)
                · have hc11n := (lw_lt _ _).mp hc11
                  refine Wp.step (fun t k => XS.ifNo X_6.here hx rfl (hb hby d11_45) rfl ((if0 _ _).trans (tlt hc11).2.1) k) ?_
                  show Wp p e below _ (T_6.setTop (mkF m 48 #[.val (.ref d0), .val (.int (Int32.ofNat lo)), .val (.int (Int32.ofNat hi)), .val (.int (Int32.ofNat (i - 1))), .val (.int (Int32.ofNat (kk + 1))), .val (.long (g (kk + 1))), .second] []))
                  refine Wp.step (fun t k => XS.aloadN X_6.here hx rfl (hb hby d11_48) rfl rfl k) ?_
                  show Wp p e below _ (T_6.setTop (mkF m 49 #[.val (.ref d0), .val (.int (Int32.ofNat lo)), .val (.int (Int32.ofNat hi)), .val (.int (Int32.ofNat (i - 1))), .val (.int (Int32.ofNat (kk + 1))), .val (.long (g (kk + 1))), .second] [(.ref d0)]))
                  refine Wp.step (fun t k => XS.iloadN X_6.here hx rfl (hb hby d11_49) rfl k) ?_
                  show Wp p e below _ (T_6.setTop (mkF m 50 #[.val (.ref d0), .val (.int (Int32.ofNat lo)), .val (.int (Int32.ofNat hi)), .val (.int (Int32.ofNat (i - 1))), .val (.int (Int32.ofNat (kk + 1))), .val (.long (g (kk + 1))), .second] [(.int (Int32.ofNat (i - 1))), (.ref d0)]))
                  refine Wp.step (fun t k => XS.iconst X_6.here hx rfl (hb hby d11_50) k) ?_
                  show Wp p e below _ (T_6.setTop (mkF m 51 #[.val (.ref d0), .val (.int (Int32.ofNat lo)), .val (.int (Int32.ofNat hi)), .val (.int (Int32.ofNat (i - 1))), .val (.int (Int32.ofNat (kk + 1))), .val (.long (g (kk + 1))), .second] [(.int (1 : Int32)), (.int (Int32.ofNat (i - 1))), (.ref d0)]))
                  refine Wp.step (fun t k => XS.iadd X_6.here hx rfl (hb hby d11_51) rfl k) ?_
                  show Wp p e below _ (T_6.setTop (mkF m 52 #[.val (.ref d0), .val (.int (Int32.ofNat lo)), .val (.int (Int32.ofNat hi)), .val (.int (Int32.ofNat (i - 1))), .val (.int (Int32.ofNat (kk + 1))), .val (.long (g (kk + 1))), .second] [(.int ((Int32.ofNat (i - 1)) + (1 : Int32))), (.ref d0)]))
                  rw [show ((Int32.ofNat (i - 1)) + (1 : Int32)) = (Int32.ofNat i) from (own_succ _).trans (congrArg Int32.ofNat (by omega))]
                  refine Wp.step (fun t k => XS.aloadN X_6.here hx rfl (hb hby d11_52) rfl rfl k) ?_
                  show Wp p e below _ (T_6.setTop (mkF m 53 #[.val (.ref d0), .val (.int (Int32.ofNat lo)), .val (.int (Int32.ofNat hi)), .val (.int (Int32.ofNat (i - 1))), .val (.int (Int32.ofNat (kk + 1))), .val (.long (g (kk + 1))), .second] [(.ref d0), (.int (Int32.ofNat i)), (.ref d0)]))
                  refine Wp.step (fun t k => XS.iloadN X_6.here hx rfl (hb hby d11_53) rfl k) ?_
                  show Wp p e below _ (T_6.setTop (mkF m 54 #[.val (.ref d0), .val (.int (Int32.ofNat lo)), .val (.int (Int32.ofNat hi)), .val (.int (Int32.ofNat (i - 1))), .val (.int (Int32.ofNat (kk + 1))), .val (.long (g (kk + 1))), .second] [(.int (Int32.ofNat (i - 1))), (.ref d0), (.int (Int32.ofNat i)), (.ref d0)]))
                  obtain ⟨cl12, Ar12, Sz12, Nn12, El12⟩ := id q0_6
                  have hin12 : ¬ ((Int32.ofNat (i - 1)) < 0 ∨ cl12.slots.size ≤ ((Int32.ofNat (i - 1))).toNatClampNeg) := inb_of Sz12 (own_inb (by omega) (by omega))
                  have hat12 : cl12.slots[((Int32.ofNat (i - 1))).toNatClampNeg]? = some (.long (g' ((Int32.ofNat (i - 1))).toNatClampNeg)) := (El12 _ (by have q := Nat.lt_of_not_le fun q => hin12 (Or.inr q); rw [Sz12] at q; exact q))
                  rw [show (g' ((Int32.ofNat (i - 1))).toNatClampNeg) = (g' (i - 1)) from congrArg g' (own_nat (by omega))] at hat12
                  refine Wp.step (X_6.laload hx (j := (Int32.ofNat (i - 1))) (v := (.long (g' (i - 1)))) (by rw [eT_6]; exact Ar12.1) (State.isArrayOf_alike hZ.alike Ar12.2.1) Ar12.2.2 hin12 hat12 (g := (mkF m 54 #[.val (.ref d0), .val (.int (Int32.ofNat lo)), .val (.int (Int32.ofNat hi)), .val (.int (Int32.ofNat (i - 1))), .val (.int (Int32.ofNat (kk + 1))), .val (.long (g (kk + 1))), .second] [(.int (Int32.ofNat (i - 1))), (.ref d0), (.int (Int32.ofNat i)), (.ref d0)])) rfl rfl (hb hby d11_54)) ?_
                  show Wp p e below _ (T_6.setTop (mkF m 55 #[.val (.ref d0), .val (.int (Int32.ofNat lo)), .val (.int (Int32.ofNat hi)), .val (.int (Int32.ofNat (i - 1))), .val (.int (Int32.ofNat (kk + 1))), .val (.long (g (kk + 1))), .second] [(.long (g' (i - 1))), (.int (Int32.ofNat i)), (.ref d0)]))
                  obtain ⟨cl13, Ar13, Sz13, Nn13, El13⟩ := id q0_6
                  have hin13 : ¬ ((Int32.ofNat i) < 0 ∨ cl13.slots.size ≤ ((Int32.ofNat i)).toNatClampNeg) := inb_of Sz13 (own_inb (by omega) (by omega))
                  obtain ⟨T13, h13, X13, e13, W13, st13⟩ := stJ X_6 hx hZ eT_6 Ar13 (j := (Int32.ofNat i)) hin13 (g := (mkF m 55 #[.val (.ref d0), .val (.int (Int32.ofNat lo)), .val (.int (Int32.ofNat hi)), .val (.int (Int32.ofNat (i - 1))), .val (.int (Int32.ofNat (kk + 1))), .val (.long (g (kk + 1))), .second] [(.long (g' (i - 1))), (.int (Int32.ofNat i)), (.ref d0)])) rfl rfl (hb hby d11_55)
                  have K14 := KK_6.wr W13 (Or.inl (List.mem_of_getElem? (i := 0) rfl))
                  have N13 := Fr.snoc X13 NN_6 g_d0
                  have B13 := own_JA.set Ar13 Sz13 Nn13 El13 W13
                  rw [own_nat (a := i) (by omega)] at B13
                  refine Wp.step st13 ?_
                  show Wp p e below _ (T13.setTop (mkF m 56 #[.val (.ref d0), .val (.int (Int32.ofNat lo)), .val (.int (Int32.ofNat hi)), .val (.int (Int32.ofNat (i - 1))), .val (.int (Int32.ofNat (kk + 1))), .val (.long (g (kk + 1))), .second] []))
                  refine Wp.step (fun t k => XS.goto X13.here hx rfl (pc0 := 56) (pc' := 31) rfl (hb hby d11_56) (by decide) (by decide) k) ?_
                  show Wp p e below _ (T13.setTop (mkF m 31 #[.val (.ref d0), .val (.int (Int32.ofNat lo)), .val (.int (Int32.ofNat hi)), .val (.int (Int32.ofNat (i - 1))), .val (.int (Int32.ofNat (kk + 1))), .val (.long (g (kk + 1))), .second] []))
                  exact ih_6 (i - 1) (own_updJ g' i (g' (i - 1))) _ _ T13 X13 e13 N13 K14 B13 (H.shift (by omega) hc11n) (by omega)
                · have hc11n := fun q => hc11 ((lw_lt _ _).mpr q)
                  refine Wp.step (fun t k => XS.ifYes X_6.here hx rfl (pc0 := 45) (pc' := 59) rfl (hb hby d11_45) rfl ((if0 _ _).trans (flt hc11).2.1) (by decide) (by decide) k) ?_
                  show Wp p e below _ (T_6.setTop (mkF m 59 #[.val (.ref d0), .val (.int (Int32.ofNat lo)), .val (.int (Int32.ofNat hi)), .val (.int (Int32.ofNat (i - 1))), .val (.int (Int32.ofNat (kk + 1))), .val (.long (g (kk + 1))), .second] []))
                  refine Wp.step (fun t k => XS.aloadN X_6.here hx rfl (hb hby d11_59) rfl rfl k) ?_
                  show Wp p e below _ (T_6.setTop (mkF m 60 #[.val (.ref d0), .val (.int (Int32.ofNat lo)), .val (.int (Int32.ofNat hi)), .val (.int (Int32.ofNat (i - 1))), .val (.int (Int32.ofNat (kk + 1))), .val (.long (g (kk + 1))), .second] [(.ref d0)]))
                  refine Wp.step (fun t k => XS.iloadN X_6.here hx rfl (hb hby d11_60) rfl k) ?_
                  show Wp p e below _ (T_6.setTop (mkF m 61 #[.val (.ref d0), .val (.int (Int32.ofNat lo)), .val (.int (Int32.ofNat hi)), .val (.int (Int32.ofNat (i - 1))), .val (.int (Int32.ofNat (kk + 1))), .val (.long (g (kk + 1))), .second] [(.int (Int32.ofNat (i - 1))), (.ref d0)]))
                  refine Wp.step (fun t k => XS.iconst X_6.here hx rfl (hb hby d11_61) k) ?_
                  show Wp p e below _ (T_6.setTop (mkF m 62 #[.val (.ref d0), .val (.int (Int32.ofNat lo)), .val (.int (Int32.ofNat hi)), .val (.int (Int32.ofNat (i - 1))), .val (.int (Int32.ofNat (kk + 1))), .val (.long (g (kk + 1))), .second] [(.int (1 : Int32)), (.int (Int32.ofNat (i - 1))), (.ref d0)]))
                  refine Wp.step (fun t k => XS.iadd X_6.here hx rfl (hb hby d11_62) rfl k) ?_
                  show Wp p e below _ (T_6.setTop (mkF m 63 #[.val (.ref d0), .val (.int (Int32.ofNat lo)), .val (.int (Int32.ofNat hi)), .val (.int (Int32.ofNat (i - 1))), .val (.int (Int32.ofNat (kk + 1))), .val (.long (g (kk + 1))), .second] [(.int ((Int32.ofNat (i - 1)) + (1 : Int32))), (.ref d0)]))
                  rw [show ((Int32.ofNat (i - 1)) + (1 : Int32)) = (Int32.ofNat i) from (own_succ _).trans (congrArg Int32.ofNat (by omega))]
                  refine Wp.step (fun t k => XS.lload X_6.here hx rfl (hb hby d11_63) rfl k) ?_
                  show Wp p e below _ (T_6.setTop (mkF m 65 #[.val (.ref d0), .val (.int (Int32.ofNat lo)), .val (.int (Int32.ofNat hi)), .val (.int (Int32.ofNat (i - 1))), .val (.int (Int32.ofNat (kk + 1))), .val (.long (g (kk + 1))), .second] [(.long (g (kk + 1))), (.int (Int32.ofNat i)), (.ref d0)]))
                  obtain ⟨cl15, Ar15, Sz15, Nn15, El15⟩ := id q0_6
                  have hin15 : ¬ ((Int32.ofNat i) < 0 ∨ cl15.slots.size ≤ ((Int32.ofNat i)).toNatClampNeg) := inb_of Sz15 (own_inb (by omega) (by omega))
                  obtain ⟨T15, h15, X15, e15, W15, st15⟩ := stJ X_6 hx hZ eT_6 Ar15 (j := (Int32.ofNat i)) hin15 (g := (mkF m 65 #[.val (.ref d0), .val (.int (Int32.ofNat lo)), .val (.int (Int32.ofNat hi)), .val (.int (Int32.ofNat (i - 1))), .val (.int (Int32.ofNat (kk + 1))), .val (.long (g (kk + 1))), .second] [(.long (g (kk + 1))), (.int (Int32.ofNat i)), (.ref d0)])) rfl rfl (hb hby d11_65)
                  have K16 := KK_6.wr W15 (Or.inl (List.mem_of_getElem? (i := 0) rfl))
                  have N15 := Fr.snoc X15 NN_6 g_d0
                  have B15 := own_JA.set Ar15 Sz15 Nn15 El15 W15
                  rw [own_nat (a := i) (by omega)] at B15
                  refine Wp.step st15 ?_
                  show Wp p e below _ (T15.setTop (mkF m 66 #[.val (.ref d0), .val (.int (Int32.ofNat lo)), .val (.int (Int32.ofNat hi)), .val (.int (Int32.ofNat (i - 1))), .val (.int (Int32.ofNat (kk + 1))), .val (.long (g (kk + 1))), .second] []))
                  refine Wp.step (fun t k => XS.goto X15.here hx rfl (pc0 := 66) (pc' := 3) rfl (hb hby d11_66) (by decide) (by decide) k) ?_
                  show Wp p e below _ (T15.setTop (mkF m 3 #[.val (.ref d0), .val (.int (Int32.ofNat lo)), .val (.int (Int32.ofNat hi)), .val (.int (Int32.ofNat (i - 1))), .val (.int (Int32.ofNat (kk + 1))), .val (.long (g (kk + 1))), .second] []))
                  exact ih_1 (kk + 1) (own_updJ g' i (g (kk + 1))) (.val (.int (Int32.ofNat (i - 1)))) (.val (.long (g (kk + 1)))) .second _ _ T15 X15 e15 N15 K16 B15 (by omega) (by omega) (H.done (Or.inr hc11n)) (One.val rfl) (own_two.v _) (by omega)
          exact loop6 (kk + 2) (kk + 1) g _ _ T_1 X_1 eT_1 NN_1 KK_1 q0_1 (own_hole.start U (by omega) (by omega)) (by omega)
        · have hc5n := fun q => hc5 ((lw_lt _ _).mpr q)
          refine Wp.step (fun t k => XS.ifYes X_1.here hx rfl (pc0 := 28) (pc' := 66) rfl (hb hby d11_28) rfl ((if0 _ _).trans (flt hc5).2.1) (by decide) (by decide) k) ?_
          show Wp p e below _ (T_1.setTop (mkF m 66 #[.val (.ref d0), .val (.int (Int32.ofNat lo)), .val (.int (Int32.ofNat hi)), .val (.int (Int32.ofNat (kk + 1))), .val (.int (Int32.ofNat (kk + 1))), .val (.long (g (kk + 1))), .second] []))
          refine Wp.step (fun t k => XS.goto X_1.here hx rfl (pc0 := 66) (pc' := 3) rfl (hb hby d11_66) (by decide) (by decide) k) ?_
          show Wp p e below _ (T_1.setTop (mkF m 3 #[.val (.ref d0), .val (.int (Int32.ofNat lo)), .val (.int (Int32.ofNat hi)), .val (.int (Int32.ofNat (kk + 1))), .val (.int (Int32.ofNat (kk + 1))), .val (.long (g (kk + 1))), .second] []))
          exact ih_1 (kk + 1) g (.val (.int (Int32.ofNat (kk + 1)))) (.val (.long (g (kk + 1)))) .second _ _ T_1 X_1 eT_1 NN_1 KK_1 q0_1 (by omega) (by omega) (U.keep (by omega) hc5n) (One.val rfl) (own_two.v _) (by omega)
      · have hc2n : ¬ ((kk + 1) < hi) := fun q => hc2 ((own_lt (by omega) (by omega)).mpr q)
        refine Wp.step (fun t k => XS.icmpYes X_1.here hx rfl (pc0 := 9) (pc' := 69) rfl (hb hby d11_9) rfl (flt hc2).2.1 (by decide) (by decide) k) ?_
        show Wp p e below _ (T_1.setTop (mkF m 69 #[.val (.ref d0), .val (.int (Int32.ofNat lo)), .val (.int (Int32.ofNat hi)), sl3, .val (.int (Int32.ofNat (kk + 1))), sl5, sl6] []))
        refine Wp.retV X_1 hx Bd.returns (hb hby d11_69) hlk ?_ (by decide) (by decide)
        show Q11 Z d0 (Int32.ofNat lo) (Int32.ofNat hi) lo hi len g0 h0 n0 none T_1.heap _
        rw [eT_1]
        exact ⟨rfl, NN_1, KK_1, g, q0_1, U.mono (by omega)⟩
  exact loop1 (hi - lo + 1) lo g0 .unset .unset .unset _ _ s₁ X0 e0 N0 K0 B_d0 (Nat.le_refl _) hlo (own_upto.start _ _ _) One.u own_two.u (by omega)
theorem pd_285bJII29V : parseMethodDescriptor "([JII)V" = some ⟨[(.array .long), .int, .int], none⟩ := by decide +kernel
theorem d10_0 : decode jdk_2529_method_13_code 0 = .ok (.iload 4, 2) := by decide +kernel
theorem d10_2 : decode jdk_2529_method_13_code 2 = .ok (.iconst 1, 1) := by decide +kernel
theorem d10_3 : decode jdk_2529_method_13_code 3 = .ok (.isub, 1) := by decide +kernel
theorem d10_4 : decode jdk_2529_method_13_code 4 = .ok (.istore 5, 2) := by decide +kernel
theorem d10_6 : decode jdk_2529_method_13_code 6 = .ok (.iload 4, 2) := by decide +kernel
theorem d10_8 : decode jdk_2529_method_13_code 8 = .ok (.iload_n 3, 1) := by decide +kernel
theorem d10_9 : decode jdk_2529_method_13_code 9 = .ok (.isub, 1) := by decide +kernel
theorem d10_10 : decode jdk_2529_method_13_code 10 = .ok (.istore 6, 2) := by decide +kernel
theorem d10_12 : decode jdk_2529_method_13_code 12 = .ok (.iload 6, 2) := by decide +kernel
theorem d10_14 : decode jdk_2529_method_13_code 14 = .ok (.bipush 65, 2) := by decide +kernel
theorem d10_16 : decode jdk_2529_method_13_code 16 = .ok (.iload_n 2, 1) := by decide +kernel
theorem d10_17 : decode jdk_2529_method_13_code 17 = .ok (.iadd, 1) := by decide +kernel
theorem d10_18 : decode jdk_2529_method_13_code 18 = .ok (.if_icmp .ge 28, 3) := by decide +kernel
theorem d10_21 : decode jdk_2529_method_13_code 21 = .ok (.iload_n 2, 1) := by decide +kernel
theorem d10_22 : decode jdk_2529_method_13_code 22 = .ok (.iconst 1, 1) := by decide +kernel
theorem d10_23 : decode jdk_2529_method_13_code 23 = .ok (.iand, 1) := by decide +kernel
theorem d10_24 : decode jdk_2529_method_13_code 24 = .ok (.ifCond .le 22, 3) := by decide +kernel
theorem d10_46 : decode jdk_2529_method_13_code 46 = .ok (.iload 6, 2) := by decide +kernel
theorem d10_48 : decode jdk_2529_method_13_code 48 = .ok (.bipush 44, 2) := by decide +kernel
theorem d10_50 : decode jdk_2529_method_13_code 50 = .ok (.if_icmp .ge 11, 3) := by decide +kernel
theorem d10_53 : decode jdk_2529_method_13_code 53 = .ok (.aload_n 1, 1) := by decide +kernel
theorem d10_54 : decode jdk_2529_method_13_code 54 = .ok (.iload_n 3, 1) := by decide +kernel
theorem d10_55 : decode jdk_2529_method_13_code 55 = .ok (.iload 4, 2) := by decide +kernel
theorem d10_57 : decode jdk_2529_method_13_code 57 = .ok (.invokestatic 105, 3) := by decide +kernel
theorem d10_60 : decode jdk_2529_method_13_code 60 = .ok (.return_, 1) := by decide +kernel
theorem ef_10_10000 (m : MethodId) (x1 : Addr) (x2 : Int32) (x3 : Int32) (x4 : Int32) : entryFrame m #[.null, (.ref x1), (.int x2), (.int x3), (.int x4)] 25 = mkF m 0 #[.val .null, .val (.ref x1), .val (.int x2), .val (.int x3), .val (.int x4), .unset, .unset, .unset, .unset, .unset, .unset, .unset, .unset, .unset, .unset, .unset, .unset, .unset, .unset, .unset, .unset, .unset, .unset, .unset, .unset] [] := by first | (simp [entryFrame, mkF, argsToLocals, Value.category]; done) | rfl
def Q10 (Z : State) (d0 : Addr) (u2 : Int32) (u0 : Int32) (u1 : Int32) (lo : Nat) (hi : Nat) (len : Nat) (g0 : Nat → Int64) (h0 : Heap) (n0 : Nat) (v : Option Value) (h : Heap) (L : List Loc) : Prop := v = none ∧ Fr n0 L ∧ Keep h0 h [d0] ∧ ∃ g, own_JA Z h d0 (Int32.ofNat len) g ∧ own_upto lo hi hi g0 g
set_option maxRecDepth 65536 in
set_option maxHeartbeats 40000000 in
theorem rm10 (l : Launch) (Z : State) (a0 : Array Value) (hw : ∀ d ∈ tables_1, d.before a0 Z = true) (ws : List Jvm.Cond) (d0 : Addr) (u2 : Int32) (u0 : Int32) (u1 : Int32) (lo : Nat) (hi : Nat) (len : Nat) (g0 : Nat → Int64) (h0 : Heap) (n0 : Nat) (Z0 : n0 ≤ h0.size) (hu0 : u0 = Int32.ofNat lo) (hu1 : u1 = Int32.ofNat hi) (hu2 : u2 = 0) (g_d0 : n0 ≤ d0) (B_d0 : own_JA Z h0 d0 (Int32.ofNat len) g0) (hlo : lo ≤ hi) (hhi : hi ≤ len) (hlen : len ≤ 9) :
    MetFree l (⟨"java/util/DualPivotQuicksort", "sort", "(Ljava/util/DualPivotQuicksort$Sorter;[JIII)V"⟩ : MethodName) (head1 (Jvm.Cond.code (⟨"java/util/DualPivotQuicksort", "sort", "(Ljava/util/DualPivotQuicksort$Sorter;[JIII)V"⟩ : MethodName) jdk_2529_method_13_code 25 none :: ws) ({ frames := 1, cells := 0, slots := 0, locals := 18 } : Room)) (fun a U => a = #[.null, (.ref d0), (.int u2), (.int u0), (.int u1)] ∧ Z.Warmed39 U.vm ∧ U.heap = h0) (fun _ _ _ _ _ => True) (fun _ U o U' => ∃ v L, o = .returned v ∧ Q10 Z d0 u2 u0 u1 lo hi len g0 h0 n0 v U'.heap L ∧ FrameEnd U o U' L ({ frames := 1, cells := 0, slots := 0, locals := 18 } : Room).cells ({ frames := 1, cells := 0, slots := 0, locals := 18 } : Room).slots) := by
  refine MetFree.of_bodySF (plainFor_of_name pn_java_util_DualPivotQuicksort) hisR ?_
  intro p e s m args below meth c s₁ Bd hml0 hP hK
  obtain ⟨rfl, hZ, hh⟩ := hP
  have hx := Bd.exec
  have hby := Bd.bytes
  have hlk : meth.locks = false := Bd.notSynchronized
  have hml : c.maxLocals = 25 := hml0
  have hown : s.vm.findClass "java/util/DualPivotQuicksort" = some m.cls := findClass_of_methodNamed Bd.named
  have hnm := (name_of_methodNamed Bd.named Bd.method).1
  have X0 : Stand p l e ({ frames := 1, cells := 0, slots := 0, locals := 18 } : Room) s m #[.null, (.ref d0), (.int u2), (.int u0), (.int u1)] below meth c s₁ [] 0 0 := Stand.of_body Bd
  have e0 : s₁.heap = h0 := by rw [← hh, Bd.state]; rfl
  have N0 := Fr.nil n0
  have K0 : Keep h0 h0 [d0] := Keep.refl h0 _
  show Wp p e below (Out s (Q10 Z d0 u2 u0 u1 lo hi len g0 h0 n0) ({ frames := 1, cells := 0, slots := 0, locals := 18 } : Room).cells ({ frames := 1, cells := 0, slots := 0, locals := 18 } : Room).slots) (s₁.setTop (entryFrame m #[.null, (.ref d0), (.int u2), (.int u0), (.int u1)] 25))
  rw [ef_10_10000]
  subst hu0 hu1 hu2
  show Wp p e below _ (s₁.setTop (mkF m 0 #[.val .null, .val (.ref d0), .val (.int (0 : Int32)), .val (.int (Int32.ofNat lo)), .val (.int (Int32.ofNat hi)), .unset, .unset, .unset, .unset, .unset, .unset, .unset, .unset, .unset, .unset, .unset, .unset, .unset, .unset, .unset, .unset, .unset, .unset, .unset, .unset] []))
  refine Wp.step (fun t k => XS.iload X0.here hx rfl (hb hby d10_0) rfl k) ?_
  show Wp p e below _ (s₁.setTop (mkF m 2 #[.val .null, .val (.ref d0), .val (.int (0 : Int32)), .val (.int (Int32.ofNat lo)), .val (.int (Int32.ofNat hi)), .unset, .unset, .unset, .unset, .unset, .unset, .unset, .unset, .unset, .unset, .unset, .unset, .unset, .unset, .unset, .unset, .unset, .unset, .unset, .unset] [(.int (Int32.ofNat hi))]))
  refine Wp.step (fun t k => XS.iconst X0.here hx rfl (hb hby d10_2) k) ?_
  show Wp p e below _ (s₁.setTop (mkF m 3 #[.val .null, .val (.ref d0), .val (.int (0 : Int32)), .val (.int (Int32.ofNat lo)), .val (.int (Int32.ofNat hi)), .unset, .unset, .unset, .unset, .unset, .unset, .unset, .unset, .unset, .unset, .unset, .unset, .unset, .unset, .unset, .unset, .unset, .unset, .unset, .unset] [(.int (1 : Int32)), (.int (Int32.ofNat hi))]))
  refine Wp.step (fun t k => XS.isub X0.here hx rfl (hb hby d10_3) rfl k) ?_
  show Wp p e below _ (s₁.setTop (mkF m 4 #[.val .null, .val (.ref d0), .val (.int (0 : Int32)), .val (.int (Int32.ofNat lo)), .val (.int (Int32.ofNat hi)), .unset, .unset, .unset, .unset, .unset, .unset, .unset, .unset, .unset, .unset, .unset, .unset, .unset, .unset, .unset, .unset, .unset, .unset, .unset, .unset] [(.int ((Int32.ofNat hi) - (1 : Int32)))]))
  refine Wp.step (fun t k => XS.istore X0.here hx rfl (hb hby d10_4) rfl (l' := #[.val .null, .val (.ref d0), .val (.int (0 : Int32)), .val (.int (Int32.ofNat lo)), .val (.int (Int32.ofNat hi)), .val (.int ((Int32.ofNat hi) - (1 : Int32))), .unset, .unset, .unset, .unset, .unset, .unset, .unset, .unset, .unset, .unset, .unset, .unset, .unset, .unset, .unset, .unset, .unset, .unset, .unset]) rfl k) ?_
  show Wp p e below _ (s₁.setTop (mkF m 6 #[.val .null, .val (.ref d0), .val (.int (0 : Int32)), .val (.int (Int32.ofNat lo)), .val (.int (Int32.ofNat hi)), .val (.int ((Int32.ofNat hi) - (1 : Int32))), .unset, .unset, .unset, .unset, .unset, .unset, .unset, .unset, .unset, .unset, .unset, .unset, .unset, .unset, .unset, .unset, .unset, .unset, .unset] []))
  refine Wp.step (fun t k => XS.iload X0.here hx rfl (hb hby d10_6) rfl k) ?_
  show Wp p e below _ (s₁.setTop (mkF m 8 #[.val .null, .val (.ref d0), .val (.int (0 : Int32)), .val (.int (Int32.ofNat lo)), .val (.int (Int32.ofNat hi)), .val (.int ((Int32.ofNat hi) - (1 : Int32))), .unset, .unset, .unset, .unset, .unset, .unset, .unset, .unset, .unset, .unset, .unset, .unset, .unset, .unset, .unset, .unset, .unset, .unset, .unset] [(.int (Int32.ofNat hi))]))
  refine Wp.step (fun t k => XS.iloadN X0.here hx rfl (hb hby d10_8) rfl k) ?_
  show Wp p e below _ (s₁.setTop (mkF m 9 #[.val .null, .val (.ref d0), .val (.int (0 : Int32)), .val (.int (Int32.ofNat lo)), .val (.int (Int32.ofNat hi)), .val (.int ((Int32.ofNat hi) - (1 : Int32))), .unset, .unset, .unset, .unset, .unset, .unset, .unset, .unset, .unset, .unset, .unset, .unset, .unset, .unset, .unset, .unset, .unset, .unset, .unset] [(.int (Int32.ofNat lo)), (.int (Int32.ofNat hi))]))
  refine Wp.step (fun t k => XS.isub X0.here hx rfl (hb hby d10_9) rfl k) ?_
  show Wp p e below _ (s₁.setTop (mkF m 10 #[.val .null, .val (.ref d0), .val (.int (0 : Int32)), .val (.int (Int32.ofNat lo)), .val (.int (Int32.ofNat hi)), .val (.int ((Int32.ofNat hi) - (1 : Int32))), .unset, .unset, .unset, .unset, .unset, .unset, .unset, .unset, .unset, .unset, .unset, .unset, .unset, .unset, .unset, .unset, .unset, .unset, .unset] [(.int ((Int32.ofNat hi) - (Int32.ofNat lo)))]))
  rw [show ((Int32.ofNat hi) - (Int32.ofNat lo)) = (Int32.ofNat (hi - lo)) from own_sub (by omega)]
  refine Wp.step (fun t k => XS.istore X0.here hx rfl (hb hby d10_10) rfl (l' := #[.val .null, .val (.ref d0), .val (.int (0 : Int32)), .val (.int (Int32.ofNat lo)), .val (.int (Int32.ofNat hi)), .val (.int ((Int32.ofNat hi) - (1 : Int32))), .val (.int (Int32.ofNat (hi - lo))), .unset, .unset, .unset, .unset, .unset, .unset, .unset, .unset, .unset, .unset, .unset, .unset, .unset, .unset, .unset, .unset, .unset, .unset]) rfl k) ?_
  show Wp p e below _ (s₁.setTop (mkF m 12 #[.val .null, .val (.ref d0), .val (.int (0 : Int32)), .val (.int (Int32.ofNat lo)), .val (.int (Int32.ofNat hi)), .val (.int ((Int32.ofNat hi) - (1 : Int32))), .val (.int (Int32.ofNat (hi - lo))), .unset, .unset, .unset, .unset, .unset, .unset, .unset, .unset, .unset, .unset, .unset, .unset, .unset, .unset, .unset, .unset, .unset, .unset] []))
  refine Wp.step (fun t k => XS.iload X0.here hx rfl (hb hby d10_12) rfl k) ?_
  show Wp p e below _ (s₁.setTop (mkF m 14 #[.val .null, .val (.ref d0), .val (.int (0 : Int32)), .val (.int (Int32.ofNat lo)), .val (.int (Int32.ofNat hi)), .val (.int ((Int32.ofNat hi) - (1 : Int32))), .val (.int (Int32.ofNat (hi - lo))), .unset, .unset, .unset, .unset, .unset, .unset, .unset, .unset, .unset, .unset, .unset, .unset, .unset, .unset, .unset, .unset, .unset, .unset] [(.int (Int32.ofNat (hi - lo)))]))
  refine Wp.step (fun t k => XS.bipush X0.here hx rfl (hb hby d10_14) k) ?_
  show Wp p e below _ (s₁.setTop (mkF m 16 #[.val .null, .val (.ref d0), .val (.int (0 : Int32)), .val (.int (Int32.ofNat lo)), .val (.int (Int32.ofNat hi)), .val (.int ((Int32.ofNat hi) - (1 : Int32))), .val (.int (Int32.ofNat (hi - lo))), .unset, .unset, .unset, .unset, .unset, .unset, .unset, .unset, .unset, .unset, .unset, .unset, .unset, .unset, .unset, .unset, .unset, .unset] [(.int (65 : Int32)), (.int (Int32.ofNat (hi - lo)))]))
  refine Wp.step (fun t k => XS.iloadN X0.here hx rfl (hb hby d10_16) rfl k) ?_
  show Wp p e below _ (s₁.setTop (mkF m 17 #[.val .null, .val (.ref d0), .val (.int (0 : Int32)), .val (.int (Int32.ofNat lo)), .val (.int (Int32.ofNat hi)), .val (.int ((Int32.ofNat hi) - (1 : Int32))), .val (.int (Int32.ofNat (hi - lo))), .unset, .unset, .unset, .unset, .unset, .unset, .unset, .unset, .unset, .unset, .unset, .unset, .unset, .unset, .unset, .unset, .unset, .unset] [(.int (0 : Int32)), (.int (65 : Int32)), (.int (Int32.ofNat (hi - lo)))]))
  refine Wp.step (fun t k => XS.iadd X0.here hx rfl (hb hby d10_17) rfl k) ?_
  show Wp p e below _ (s₁.setTop (mkF m 18 #[.val .null, .val (.ref d0), .val (.int (0 : Int32)), .val (.int (Int32.ofNat lo)), .val (.int (Int32.ofNat hi)), .val (.int ((Int32.ofNat hi) - (1 : Int32))), .val (.int (Int32.ofNat (hi - lo))), .unset, .unset, .unset, .unset, .unset, .unset, .unset, .unset, .unset, .unset, .unset, .unset, .unset, .unset, .unset, .unset, .unset, .unset] [(.int (65 : Int32)), (.int (Int32.ofNat (hi - lo)))]))
  refine Wp.step (fun t k => XS.icmpNo X0.here hx rfl (hb hby d10_18) rfl (tlt (show (Int32.ofNat (hi - lo)) < (65 : Int32) from (own_lt (b := 65) (by omega) (by omega)).mpr (by omega))).2.1 k) ?_
  show Wp p e below _ (s₁.setTop (mkF m 21 #[.val .null, .val (.ref d0), .val (.int (0 : Int32)), .val (.int (Int32.ofNat lo)), .val (.int (Int32.ofNat hi)), .val (.int ((Int32.ofNat hi) - (1 : Int32))), .val (.int (Int32.ofNat (hi - lo))), .unset, .unset, .unset, .unset, .unset, .unset, .unset, .unset, .unset, .unset, .unset, .unset, .unset, .unset, .unset, .unset, .unset, .unset] []))
  refine Wp.step (fun t k => XS.iloadN X0.here hx rfl (hb hby d10_21) rfl k) ?_
  show Wp p e below _ (s₁.setTop (mkF m 22 #[.val .null, .val (.ref d0), .val (.int (0 : Int32)), .val (.int (Int32.ofNat lo)), .val (.int (Int32.ofNat hi)), .val (.int ((Int32.ofNat hi) - (1 : Int32))), .val (.int (Int32.ofNat (hi - lo))), .unset, .unset, .unset, .unset, .unset, .unset, .unset, .unset, .unset, .unset, .unset, .unset, .unset, .unset, .unset, .unset, .unset, .unset] [(.int (0 : Int32))]))
  refine Wp.step (fun t k => XS.iconst X0.here hx rfl (hb hby d10_22) k) ?_
  show Wp p e below _ (s₁.setTop (mkF m 23 #[.val .null, .val (.ref d0), .val (.int (0 : Int32)), .val (.int (Int32.ofNat lo)), .val (.int (Int32.ofNat hi)), .val (.int ((Int32.ofNat hi) - (1 : Int32))), .val (.int (Int32.ofNat (hi - lo))), .unset, .unset, .unset, .unset, .unset, .unset, .unset, .unset, .unset, .unset, .unset, .unset, .unset, .unset, .unset, .unset, .unset, .unset] [(.int (1 : Int32)), (.int (0 : Int32))]))
  refine Wp.step (fun t k => XS.iand X0.here hx rfl (hb hby d10_23) rfl k) ?_
  show Wp p e below _ (s₁.setTop (mkF m 24 #[.val .null, .val (.ref d0), .val (.int (0 : Int32)), .val (.int (Int32.ofNat lo)), .val (.int (Int32.ofNat hi)), .val (.int ((Int32.ofNat hi) - (1 : Int32))), .val (.int (Int32.ofNat (hi - lo))), .unset, .unset, .unset, .unset, .unset, .unset, .unset, .unset, .unset, .unset, .unset, .unset, .unset, .unset, .unset, .unset, .unset, .unset] [(.int ((0 : Int32) &&& (1 : Int32)))]))
  refine Wp.step (fun t k => XS.ifYes X0.here hx rfl (pc0 := 24) (pc' := 46) rfl (hb hby d10_24) rfl ((if0 _ _).trans (flt (show ¬ ((0 : Int32) < ((0 : Int32) &&& (1 : Int32))) from by decide)).2.2.2) (by decide) (by decide) k) ?_
  show Wp p e below _ (s₁.setTop (mkF m 46 #[.val .null, .val (.ref d0), .val (.int (0 : Int32)), .val (.int (Int32.ofNat lo)), .val (.int (Int32.ofNat hi)), .val (.int ((Int32.ofNat hi) - (1 : Int32))), .val (.int (Int32.ofNat (hi - lo))), .unset, .unset, .unset, .unset, .unset, .unset, .unset, .unset, .unset, .unset, .unset, .unset, .unset, .unset, .unset, .unset, .unset, .unset] []))
  refine Wp.step (fun t k => XS.iload X0.here hx rfl (hb hby d10_46) rfl k) ?_
  show Wp p e below _ (s₁.setTop (mkF m 48 #[.val .null, .val (.ref d0), .val (.int (0 : Int32)), .val (.int (Int32.ofNat lo)), .val (.int (Int32.ofNat hi)), .val (.int ((Int32.ofNat hi) - (1 : Int32))), .val (.int (Int32.ofNat (hi - lo))), .unset, .unset, .unset, .unset, .unset, .unset, .unset, .unset, .unset, .unset, .unset, .unset, .unset, .unset, .unset, .unset, .unset, .unset] [(.int (Int32.ofNat (hi - lo)))]))
  refine Wp.step (fun t k => XS.bipush X0.here hx rfl (hb hby d10_48) k) ?_
  show Wp p e below _ (s₁.setTop (mkF m 50 #[.val .null, .val (.ref d0), .val (.int (0 : Int32)), .val (.int (Int32.ofNat lo)), .val (.int (Int32.ofNat hi)), .val (.int ((Int32.ofNat hi) - (1 : Int32))), .val (.int (Int32.ofNat (hi - lo))), .unset, .unset, .unset, .unset, .unset, .unset, .unset, .unset, .unset, .unset, .unset, .unset, .unset, .unset, .unset, .unset, .unset, .unset] [(.int (44 : Int32)), (.int (Int32.ofNat (hi - lo)))]))
  refine Wp.step (fun t k => XS.icmpNo X0.here hx rfl (hb hby d10_50) rfl (tlt (show (Int32.ofNat (hi - lo)) < (44 : Int32) from (own_lt (b := 44) (by omega) (by omega)).mpr (by omega))).2.1 k) ?_
  show Wp p e below _ (s₁.setTop (mkF m 53 #[.val .null, .val (.ref d0), .val (.int (0 : Int32)), .val (.int (Int32.ofNat lo)), .val (.int (Int32.ofNat hi)), .val (.int ((Int32.ofNat hi) - (1 : Int32))), .val (.int (Int32.ofNat (hi - lo))), .unset, .unset, .unset, .unset, .unset, .unset, .unset, .unset, .unset, .unset, .unset, .unset, .unset, .unset, .unset, .unset, .unset, .unset] []))
  refine Wp.step (fun t k => XS.aloadN X0.here hx rfl (hb hby d10_53) rfl rfl k) ?_
  show Wp p e below _ (s₁.setTop (mkF m 54 #[.val .null, .val (.ref d0), .val (.int (0 : Int32)), .val (.int (Int32.ofNat lo)), .val (.int (Int32.ofNat hi)), .val (.int ((Int32.ofNat hi) - (1 : Int32))), .val (.int (Int32.ofNat (hi - lo))), .unset, .unset, .unset, .unset, .unset, .unset, .unset, .unset, .unset, .unset, .unset, .unset, .unset, .unset, .unset, .unset, .unset, .unset] [(.ref d0)]))
  refine Wp.step (fun t k => XS.iloadN X0.here hx rfl (hb hby d10_54) rfl k) ?_
  show Wp p e below _ (s₁.setTop (mkF m 55 #[.val .null, .val (.ref d0), .val (.int (0 : Int32)), .val (.int (Int32.ofNat lo)), .val (.int (Int32.ofNat hi)), .val (.int ((Int32.ofNat hi) - (1 : Int32))), .val (.int (Int32.ofNat (hi - lo))), .unset, .unset, .unset, .unset, .unset, .unset, .unset, .unset, .unset, .unset, .unset, .unset, .unset, .unset, .unset, .unset, .unset, .unset] [(.int (Int32.ofNat lo)), (.ref d0)]))
  refine Wp.step (fun t k => XS.iload X0.here hx rfl (hb hby d10_55) rfl k) ?_
  show Wp p e below _ (s₁.setTop (mkF m 57 #[.val .null, .val (.ref d0), .val (.int (0 : Int32)), .val (.int (Int32.ofNat lo)), .val (.int (Int32.ofNat hi)), .val (.int ((Int32.ofNat hi) - (1 : Int32))), .val (.int (Int32.ofNat (hi - lo))), .unset, .unset, .unset, .unset, .unset, .unset, .unset, .unset, .unset, .unset, .unset, .unset, .unset, .unset, .unset, .unset, .unset, .unset] [(.int (Int32.ofNat hi)), (.int (Int32.ofNat lo)), (.ref d0)]))
  obtain ⟨_, _, ⟨T4, L4, k4, n4⟩, -, X4, ⟨Lc4, hQ4, l4, y4, z4⟩, st4⟩ := Jvm.LawKit.callS X0 hx (y := (⟨"java/util/DualPivotQuicksort", "insertionSort", "([JII)V"⟩ : MethodName)) hown (mvT hZ (hw _ (List.mem_of_getElem? (i := 54) rfl))) (mvT hZ (hw _ (List.mem_of_getElem? (i := 55) rfl))) (mvT hZ (hw _ (List.mem_of_getElem? (i := 49) rfl))) (mvT hZ (hw _ (List.mem_of_getElem? (i := 56) rfl))) (by decide) (backOf (W := 0) (rm11 l Z a0 hw [] d0 (Int32.ofNat lo) (Int32.ofNat hi) lo hi len g0 h0 n0 (Nat.le_trans Z0 K0.1) rfl rfl g_d0 B_d0 (by omega) (by omega) (by omega)) hZ (hw _ (List.mem_of_getElem? (i := 56) rfl)) (hw _ (List.mem_of_getElem? (i := 49) rfl)) (by decide) (by decide)) (g := (mkF m 57 #[.val .null, .val (.ref d0), .val (.int (0 : Int32)), .val (.int (Int32.ofNat lo)), .val (.int (Int32.ofNat hi)), .val (.int ((Int32.ofNat hi) - (1 : Int32))), .val (.int (Int32.ofNat (hi - lo))), .unset, .unset, .unset, .unset, .unset, .unset, .unset, .unset, .unset, .unset, .unset, .unset, .unset, .unset, .unset, .unset, .unset, .unset] [(.int (Int32.ofNat hi)), (.int (Int32.ofNat lo)), (.ref d0)])) rfl (by rw [hml]; rfl) (argsL := [(.ref d0), (.int (Int32.ofNat lo)), (.int (Int32.ofNat hi))]) (rest := []) (lenOf pd_285bJII29V rfl) rfl (by show 2 * 0 + _ ≤ _; exact Nat.le_of_eq rfl) (hb hby d10_57) (fun _ _ => ⟨rfl, e0, (by decide : 0 + 0 ≤ _), (by decide : 0 + 0 ≤ _)⟩)
  dsimp only [Pt.U, Pt.locs, Pt.cells, Pt.slots] at X4 l4 y4 z4 st4 hQ4
  subst l4 y4 z4
  obtain ⟨h4, e4⟩ : ∃ z, T4.heap = z := ⟨_, rfl⟩
  rw [e4] at hQ4
  obtain ⟨rfl, N4q, Kc4, gg4, BB4, UU4⟩ := hQ4
  have N4 := Fr.app N0 N4q
  have K4 := K0.trans Kc4 (allS (Or.inl (List.mem_of_getElem? (i := 0) rfl)) all0)
  refine Wp.step st4 ?_
  show Wp p e below _ (T4.setTop (mkF m 60 #[.val .null, .val (.ref d0), .val (.int (0 : Int32)), .val (.int (Int32.ofNat lo)), .val (.int (Int32.ofNat hi)), .val (.int ((Int32.ofNat hi) - (1 : Int32))), .val (.int (Int32.ofNat (hi - lo))), .unset, .unset, .unset, .unset, .unset, .unset, .unset, .unset, .unset, .unset, .unset, .unset, .unset, .unset, .unset, .unset, .unset, .unset] []))
  refine Wp.retV X4 hx Bd.returns (hb hby d10_60) hlk ?_ (by decide) (by decide)
  show Q10 Z d0 (0 : Int32) (Int32.ofNat lo) (Int32.ofNat hi) lo hi len g0 h0 n0 none T4.heap _
  rw [e4]
  exact ⟨rfl, N4, K4, _, BB4, UU4⟩
theorem pd_28Ljava2futil2fDualPivotQuicksort24Sorter3b5bJIII29V : parseMethodDescriptor "(Ljava/util/DualPivotQuicksort$Sorter;[JIII)V" = some ⟨[(.object "java/util/DualPivotQuicksort$Sorter"), (.array .long), .int, .int, .int], none⟩ := by decide +kernel
theorem d9_0 : decode jdk_2529_method_12_code 0 = .ok (.iload_n 3, 1) := by decide +kernel
theorem d9_1 : decode jdk_2529_method_12_code 1 = .ok (.iload_n 2, 1) := by decide +kernel
theorem d9_2 : decode jdk_2529_method_12_code 2 = .ok (.isub, 1) := by decide +kernel
theorem d9_3 : decode jdk_2529_method_12_code 3 = .ok (.istore 4, 2) := by decide +kernel
theorem d9_5 : decode jdk_2529_method_12_code 5 = .ok (.iload_n 1, 1) := by decide +kernel
theorem d9_6 : decode jdk_2529_method_12_code 6 = .ok (.iconst 1, 1) := by decide +kernel
theorem d9_7 : decode jdk_2529_method_12_code 7 = .ok (.if_icmp .le 61, 3) := by decide +kernel
theorem d9_68 : decode jdk_2529_method_12_code 68 = .ok (.aconst_null, 1) := by decide +kernel
theorem d9_69 : decode jdk_2529_method_12_code 69 = .ok (.aload_n 0, 1) := by decide +kernel
theorem d9_70 : decode jdk_2529_method_12_code 70 = .ok (.iconst 0, 1) := by decide +kernel
theorem d9_71 : decode jdk_2529_method_12_code 71 = .ok (.iload_n 2, 1) := by decide +kernel
theorem d9_72 : decode jdk_2529_method_12_code 72 = .ok (.iload_n 3, 1) := by decide +kernel
theorem d9_73 : decode jdk_2529_method_12_code 73 = .ok (.invokestatic 99, 3) := by decide +kernel
theorem d9_76 : decode jdk_2529_method_12_code 76 = .ok (.return_, 1) := by decide +kernel
theorem ef_9_0000 (m : MethodId) (x0 : Addr) (x1 : Int32) (x2 : Int32) (x3 : Int32) : entryFrame m #[(.ref x0), (.int x1), (.int x2), (.int x3)] 7 = mkF m 0 #[.val (.ref x0), .val (.int x1), .val (.int x2), .val (.int x3), .unset, .unset, .unset] [] := by first | (simp [entryFrame, mkF, argsToLocals, Value.category]; done) | rfl
def Q9 (Z : State) (d0 : Addr) (u2 : Int32) (u0 : Int32) (u1 : Int32) (lo : Nat) (hi : Nat) (len : Nat) (g0 : Nat → Int64) (h0 : Heap) (n0 : Nat) (v : Option Value) (h : Heap) (L : List Loc) : Prop := v = none ∧ Fr n0 L ∧ Keep h0 h [d0] ∧ ∃ g, own_JA Z h d0 (Int32.ofNat len) g ∧ own_upto lo hi hi g0 g
set_option maxRecDepth 65536 in
set_option maxHeartbeats 40000000 in
theorem rm9 (l : Launch) (Z : State) (a0 : Array Value) (hw : ∀ d ∈ tables_1, d.before a0 Z = true) (ws : List Jvm.Cond) (d0 : Addr) (u2 : Int32) (u0 : Int32) (u1 : Int32) (lo : Nat) (hi : Nat) (len : Nat) (g0 : Nat → Int64) (h0 : Heap) (n0 : Nat) (Z0 : n0 ≤ h0.size) (hu0 : u0 = Int32.ofNat lo) (hu1 : u1 = Int32.ofNat hi) (hu2 : u2 = 0) (g_d0 : n0 ≤ d0) (B_d0 : own_JA Z h0 d0 (Int32.ofNat len) g0) (hlo : lo ≤ hi) (hhi : hi ≤ len) (hlen : len ≤ 9) :
    MetFree l (⟨"java/util/DualPivotQuicksort", "sort", "([JIII)V"⟩ : MethodName) (head1 (Jvm.Cond.code (⟨"java/util/DualPivotQuicksort", "sort", "([JIII)V"⟩ : MethodName) jdk_2529_method_12_code 7 none :: ws) ({ frames := 2, cells := 0, slots := 0, locals := 54 } : Room)) (fun a U => a = #[(.ref d0), (.int u2), (.int u0), (.int u1)] ∧ Z.Warmed39 U.vm ∧ U.heap = h0) (fun _ _ _ _ _ => True) (fun _ U o U' => ∃ v L, o = .returned v ∧ Q9 Z d0 u2 u0 u1 lo hi len g0 h0 n0 v U'.heap L ∧ FrameEnd U o U' L ({ frames := 2, cells := 0, slots := 0, locals := 54 } : Room).cells ({ frames := 2, cells := 0, slots := 0, locals := 54 } : Room).slots) := by
  refine MetFree.of_bodySF (plainFor_of_name pn_java_util_DualPivotQuicksort) hisR ?_
  intro p e s m args below meth c s₁ Bd hml0 hP hK
  obtain ⟨rfl, hZ, hh⟩ := hP
  have hx := Bd.exec
  have hby := Bd.bytes
  have hlk : meth.locks = false := Bd.notSynchronized
  have hml : c.maxLocals = 7 := hml0
  have hown : s.vm.findClass "java/util/DualPivotQuicksort" = some m.cls := findClass_of_methodNamed Bd.named
  have hnm := (name_of_methodNamed Bd.named Bd.method).1
  have X0 : Stand p l e ({ frames := 2, cells := 0, slots := 0, locals := 54 } : Room) s m #[(.ref d0), (.int u2), (.int u0), (.int u1)] below meth c s₁ [] 0 0 := Stand.of_body Bd
  have e0 : s₁.heap = h0 := by rw [← hh, Bd.state]; rfl
  have N0 := Fr.nil n0
  have K0 : Keep h0 h0 [d0] := Keep.refl h0 _
  show Wp p e below (Out s (Q9 Z d0 u2 u0 u1 lo hi len g0 h0 n0) ({ frames := 2, cells := 0, slots := 0, locals := 54 } : Room).cells ({ frames := 2, cells := 0, slots := 0, locals := 54 } : Room).slots) (s₁.setTop (entryFrame m #[(.ref d0), (.int u2), (.int u0), (.int u1)] 7))
  rw [ef_9_0000]
  subst hu0 hu1 hu2
  show Wp p e below _ (s₁.setTop (mkF m 0 #[.val (.ref d0), .val (.int (0 : Int32)), .val (.int (Int32.ofNat lo)), .val (.int (Int32.ofNat hi)), .unset, .unset, .unset] []))
  refine Wp.step (fun t k => XS.iloadN X0.here hx rfl (hb hby d9_0) rfl k) ?_
  show Wp p e below _ (s₁.setTop (mkF m 1 #[.val (.ref d0), .val (.int (0 : Int32)), .val (.int (Int32.ofNat lo)), .val (.int (Int32.ofNat hi)), .unset, .unset, .unset] [(.int (Int32.ofNat hi))]))
  refine Wp.step (fun t k => XS.iloadN X0.here hx rfl (hb hby d9_1) rfl k) ?_
  show Wp p e below _ (s₁.setTop (mkF m 2 #[.val (.ref d0), .val (.int (0 : Int32)), .val (.int (Int32.ofNat lo)), .val (.int (Int32.ofNat hi)), .unset, .unset, .unset] [(.int (Int32.ofNat lo)), (.int (Int32.ofNat hi))]))
  refine Wp.step (fun t k => XS.isub X0.here hx rfl (hb hby d9_2) rfl k) ?_
  show Wp p e below _ (s₁.setTop (mkF m 3 #[.val (.ref d0), .val (.int (0 : Int32)), .val (.int (Int32.ofNat lo)), .val (.int (Int32.ofNat hi)), .unset, .unset, .unset] [(.int ((Int32.ofNat hi) - (Int32.ofNat lo)))]))
  rw [show ((Int32.ofNat hi) - (Int32.ofNat lo)) = (Int32.ofNat (hi - lo)) from own_sub (by omega)]
  refine Wp.step (fun t k => XS.istore X0.here hx rfl (hb hby d9_3) rfl (l' := #[.val (.ref d0), .val (.int (0 : Int32)), .val (.int (Int32.ofNat lo)), .val (.int (Int32.ofNat hi)), .val (.int (Int32.ofNat (hi - lo))), .unset, .unset]) rfl k) ?_
  show Wp p e below _ (s₁.setTop (mkF m 5 #[.val (.ref d0), .val (.int (0 : Int32)), .val (.int (Int32.ofNat lo)), .val (.int (Int32.ofNat hi)), .val (.int (Int32.ofNat (hi - lo))), .unset, .unset] []))
  refine Wp.step (fun t k => XS.iloadN X0.here hx rfl (hb hby d9_5) rfl k) ?_
  show Wp p e below _ (s₁.setTop (mkF m 6 #[.val (.ref d0), .val (.int (0 : Int32)), .val (.int (Int32.ofNat lo)), .val (.int (Int32.ofNat hi)), .val (.int (Int32.ofNat (hi - lo))), .unset, .unset] [(.int (0 : Int32))]))
  refine Wp.step (fun t k => XS.iconst X0.here hx rfl (hb hby d9_6) k) ?_
  show Wp p e below _ (s₁.setTop (mkF m 7 #[.val (.ref d0), .val (.int (0 : Int32)), .val (.int (Int32.ofNat lo)), .val (.int (Int32.ofNat hi)), .val (.int (Int32.ofNat (hi - lo))), .unset, .unset] [(.int (1 : Int32)), (.int (0 : Int32))]))
  refine Wp.step (fun t k => XS.icmpYes X0.here hx rfl (pc0 := 7) (pc' := 68) rfl (hb hby d9_7) rfl (flt (show ¬ ((1 : Int32) < (0 : Int32)) by decide)).2.2.2 (by decide) (by decide) k) ?_
  show Wp p e below _ (s₁.setTop (mkF m 68 #[.val (.ref d0), .val (.int (0 : Int32)), .val (.int (Int32.ofNat lo)), .val (.int (Int32.ofNat hi)), .val (.int (Int32.ofNat (hi - lo))), .unset, .unset] []))
  refine Wp.step (fun t k => XS.aconstNull X0.here hx rfl (hb hby d9_68) k) ?_
  show Wp p e below _ (s₁.setTop (mkF m 69 #[.val (.ref d0), .val (.int (0 : Int32)), .val (.int (Int32.ofNat lo)), .val (.int (Int32.ofNat hi)), .val (.int (Int32.ofNat (hi - lo))), .unset, .unset] [.null]))
  refine Wp.step (fun t k => XS.aloadN X0.here hx rfl (hb hby d9_69) rfl rfl k) ?_
  show Wp p e below _ (s₁.setTop (mkF m 70 #[.val (.ref d0), .val (.int (0 : Int32)), .val (.int (Int32.ofNat lo)), .val (.int (Int32.ofNat hi)), .val (.int (Int32.ofNat (hi - lo))), .unset, .unset] [(.ref d0), .null]))
  refine Wp.step (fun t k => XS.iconst X0.here hx rfl (hb hby d9_70) k) ?_
  show Wp p e below _ (s₁.setTop (mkF m 71 #[.val (.ref d0), .val (.int (0 : Int32)), .val (.int (Int32.ofNat lo)), .val (.int (Int32.ofNat hi)), .val (.int (Int32.ofNat (hi - lo))), .unset, .unset] [(.int (0 : Int32)), (.ref d0), .null]))
  refine Wp.step (fun t k => XS.iloadN X0.here hx rfl (hb hby d9_71) rfl k) ?_
  show Wp p e below _ (s₁.setTop (mkF m 72 #[.val (.ref d0), .val (.int (0 : Int32)), .val (.int (Int32.ofNat lo)), .val (.int (Int32.ofNat hi)), .val (.int (Int32.ofNat (hi - lo))), .unset, .unset] [(.int (Int32.ofNat lo)), (.int (0 : Int32)), (.ref d0), .null]))
  refine Wp.step (fun t k => XS.iloadN X0.here hx rfl (hb hby d9_72) rfl k) ?_
  show Wp p e below _ (s₁.setTop (mkF m 73 #[.val (.ref d0), .val (.int (0 : Int32)), .val (.int (Int32.ofNat lo)), .val (.int (Int32.ofNat hi)), .val (.int (Int32.ofNat (hi - lo))), .unset, .unset] [(.int (Int32.ofNat hi)), (.int (Int32.ofNat lo)), (.int (0 : Int32)), (.ref d0), .null]))
  obtain ⟨_, _, ⟨T2, L2, k2, n2⟩, -, X2, ⟨Lc2, hQ2, l2, y2, z2⟩, st2⟩ := Jvm.LawKit.callS X0 hx (y := (⟨"java/util/DualPivotQuicksort", "sort", "(Ljava/util/DualPivotQuicksort$Sorter;[JIII)V"⟩ : MethodName)) hown (mvT hZ (hw _ (List.mem_of_getElem? (i := 51) rfl))) (mvT hZ (hw _ (List.mem_of_getElem? (i := 52) rfl))) (mvT hZ (hw _ (List.mem_of_getElem? (i := 49) rfl))) (mvT hZ (hw _ (List.mem_of_getElem? (i := 53) rfl))) (by decide) (backOf (W := 0) (rm10 l Z a0 hw [] d0 (0 : Int32) (Int32.ofNat lo) (Int32.ofNat hi) lo hi len g0 h0 n0 (Nat.le_trans Z0 K0.1) rfl rfl rfl g_d0 B_d0 (by omega) (by omega) (by omega)) hZ (hw _ (List.mem_of_getElem? (i := 53) rfl)) (hw _ (List.mem_of_getElem? (i := 49) rfl)) (by decide) (by decide)) (g := (mkF m 73 #[.val (.ref d0), .val (.int (0 : Int32)), .val (.int (Int32.ofNat lo)), .val (.int (Int32.ofNat hi)), .val (.int (Int32.ofNat (hi - lo))), .unset, .unset] [(.int (Int32.ofNat hi)), (.int (Int32.ofNat lo)), (.int (0 : Int32)), (.ref d0), .null])) rfl (by rw [hml]; rfl) (argsL := [.null, (.ref d0), (.int (0 : Int32)), (.int (Int32.ofNat lo)), (.int (Int32.ofNat hi))]) (rest := []) (lenOf pd_28Ljava2futil2fDualPivotQuicksort24Sorter3b5bJIII29V rfl) rfl (by show 2 * 0 + _ ≤ _; exact Nat.le_of_eq rfl) (hb hby d9_73) (fun _ _ => ⟨rfl, e0, (by decide : 0 + 0 ≤ _), (by decide : 0 + 0 ≤ _)⟩)
  dsimp only [Pt.U, Pt.locs, Pt.cells, Pt.slots] at X2 l2 y2 z2 st2 hQ2
  subst l2 y2 z2
  obtain ⟨h2, e2⟩ : ∃ z, T2.heap = z := ⟨_, rfl⟩
  rw [e2] at hQ2
  obtain ⟨rfl, N2q, Kc2, gg2, BB2, UU2⟩ := hQ2
  have N2 := Fr.app N0 N2q
  have K2 := K0.trans Kc2 (allS (Or.inl (List.mem_of_getElem? (i := 0) rfl)) all0)
  refine Wp.step st2 ?_
  show Wp p e below _ (T2.setTop (mkF m 76 #[.val (.ref d0), .val (.int (0 : Int32)), .val (.int (Int32.ofNat lo)), .val (.int (Int32.ofNat hi)), .val (.int (Int32.ofNat (hi - lo))), .unset, .unset] []))
  refine Wp.retV X2 hx Bd.returns (hb hby d9_76) hlk ?_ (by decide) (by decide)
  show Q9 Z d0 (0 : Int32) (Int32.ofNat lo) (Int32.ofNat hi) lo hi len g0 h0 n0 none T2.heap _
  rw [e2]
  exact ⟨rfl, N2, K2, _, BB2, UU2⟩
theorem d8_0 : decode jdk_65_method_30_code 0 = .ok (.iload_n 1, 1) := by decide +kernel
theorem d8_1 : decode jdk_65_method_30_code 1 = .ok (.iload_n 2, 1) := by decide +kernel
theorem d8_2 : decode jdk_65_method_30_code 2 = .ok (.if_icmp .le 44, 3) := by decide +kernel
theorem d8_46 : decode jdk_65_method_30_code 46 = .ok (.iload_n 1, 1) := by decide +kernel
theorem d8_47 : decode jdk_65_method_30_code 47 = .ok (.ifCond .ge 12, 3) := by decide +kernel
theorem d8_59 : decode jdk_65_method_30_code 59 = .ok (.iload_n 2, 1) := by decide +kernel
theorem d8_60 : decode jdk_65_method_30_code 60 = .ok (.iload_n 0, 1) := by decide +kernel
theorem d8_61 : decode jdk_65_method_30_code 61 = .ok (.if_icmp .le 12, 3) := by decide +kernel
theorem d8_73 : decode jdk_65_method_30_code 73 = .ok (.return_, 1) := by decide +kernel
theorem pn_java_util_Arrays : plainName "java/util/Arrays" = true := by first | (simp [plainName, overriddenIn]; done) | decide +kernel
theorem ef_8_000 (m : MethodId) (x0 : Int32) (x1 : Int32) (x2 : Int32) : entryFrame m #[(.int x0), (.int x1), (.int x2)] 3 = mkF m 0 #[.val (.int x0), .val (.int x1), .val (.int x2)] [] := by first | (simp [entryFrame, mkF, argsToLocals, Value.category]; done) | rfl
def Q8 (Z : State) (u2 : Int32) (u0 : Int32) (u1 : Int32) (lo : Nat) (hi : Nat) (len : Nat) (h0 : Heap) (n0 : Nat) (v : Option Value) (h : Heap) (L : List Loc) : Prop := v = none ∧ Fr n0 L ∧ h = h0
set_option maxRecDepth 65536 in
set_option maxHeartbeats 40000000 in
theorem rm8 (l : Launch) (Z : State) (a0 : Array Value) (hw : ∀ d ∈ tables_1, d.before a0 Z = true) (ws : List Jvm.Cond) (u2 : Int32) (u0 : Int32) (u1 : Int32) (lo : Nat) (hi : Nat) (len : Nat) (h0 : Heap) (n0 : Nat) (Z0 : n0 ≤ h0.size) (hu0 : u0 = Int32.ofNat lo) (hu1 : u1 = Int32.ofNat hi) (hu2 : u2 = Int32.ofNat len) (hlo : lo ≤ hi) (hhi : hi ≤ len) (hlen : len ≤ 9) :
    MetFree l (⟨"java/util/Arrays", "rangeCheck", "(III)V"⟩ : MethodName) (head1 (Jvm.Cond.code (⟨"java/util/Arrays", "rangeCheck", "(III)V"⟩ : MethodName) jdk_65_method_30_code 3 none :: ws) ({ frames := 0, cells := 0, slots := 0, locals := 0 } : Room)) (fun a U => a = #[(.int u2), (.int u0), (.int u1)] ∧ Z.Warmed39 U.vm ∧ U.heap = h0) (fun _ _ _ _ _ => True) (fun _ U o U' => ∃ v L, o = .returned v ∧ Q8 Z u2 u0 u1 lo hi len h0 n0 v U'.heap L ∧ FrameEnd U o U' L ({ frames := 0, cells := 0, slots := 0, locals := 0 } : Room).cells ({ frames := 0, cells := 0, slots := 0, locals := 0 } : Room).slots) := by
  refine MetFree.of_bodySF (plainFor_of_name pn_java_util_Arrays) hisR ?_
  intro p e s m args below meth c s₁ Bd hml0 hP hK
  obtain ⟨rfl, hZ, hh⟩ := hP
  have hx := Bd.exec
  have hby := Bd.bytes
  have hlk : meth.locks = false := Bd.notSynchronized
  have hml : c.maxLocals = 3 := hml0
  have hown : s.vm.findClass "java/util/Arrays" = some m.cls := findClass_of_methodNamed Bd.named
  have hnm := (name_of_methodNamed Bd.named Bd.method).1
  have X0 : Stand p l e ({ frames := 0, cells := 0, slots := 0, locals := 0 } : Room) s m #[(.int u2), (.int u0), (.int u1)] below meth c s₁ [] 0 0 := Stand.of_body Bd
  have e0 : s₁.heap = h0 := by rw [← hh, Bd.state]; rfl
  have N0 := Fr.nil n0
  have K0 : Keep h0 h0 [] := Keep.refl h0 _
  show Wp p e below (Out s (Q8 Z u2 u0 u1 lo hi len h0 n0) ({ frames := 0, cells := 0, slots := 0, locals := 0 } : Room).cells ({ frames := 0, cells := 0, slots := 0, locals := 0 } : Room).slots) (s₁.setTop (entryFrame m #[(.int u2), (.int u0), (.int u1)] 3))
  rw [ef_8_000]
  subst hu0 hu1 hu2
  show Wp p e below _ (s₁.setTop (mkF m 0 #[.val (.int (Int32.ofNat len)), .val (.int (Int32.ofNat lo)), .val (.int (Int32.ofNat hi))] []))
  refine Wp.step (fun t k => XS.iloadN X0.here hx rfl (hb hby d8_0) rfl k) ?_
  show Wp p e below _ (s₁.setTop (mkF m 1 #[.val (.int (Int32.ofNat len)), .val (.int (Int32.ofNat lo)), .val (.int (Int32.ofNat hi))] [(.int (Int32.ofNat lo))]))
  refine Wp.step (fun t k => XS.iloadN X0.here hx rfl (hb hby d8_1) rfl k) ?_
  show Wp p e below _ (s₁.setTop (mkF m 2 #[.val (.int (Int32.ofNat len)), .val (.int (Int32.ofNat lo)), .val (.int (Int32.ofNat hi))] [(.int (Int32.ofNat hi)), (.int (Int32.ofNat lo))]))
  refine Wp.step (fun t k => XS.icmpYes X0.here hx rfl (pc0 := 2) (pc' := 46) rfl (hb hby d8_2) rfl (flt (show ¬ ((Int32.ofNat hi) < (Int32.ofNat lo)) from fun q => absurd ((own_lt (by omega) (by omega)).mp q) (by omega))).2.2.2 (by decide) (by decide) k) ?_
  show Wp p e below _ (s₁.setTop (mkF m 46 #[.val (.int (Int32.ofNat len)), .val (.int (Int32.ofNat lo)), .val (.int (Int32.ofNat hi))] []))
  refine Wp.step (fun t k => XS.iloadN X0.here hx rfl (hb hby d8_46) rfl k) ?_
  show Wp p e below _ (s₁.setTop (mkF m 47 #[.val (.int (Int32.ofNat len)), .val (.int (Int32.ofNat lo)), .val (.int (Int32.ofNat hi))] [(.int (Int32.ofNat lo))]))
  refine Wp.step (fun t k => XS.ifYes X0.here hx rfl (pc0 := 47) (pc' := 59) rfl (hb hby d8_47) rfl ((if0 _ _).trans (flt (show ¬ ((Int32.ofNat lo) < (0 : Int32)) from own_nn (by omega))).2.1) (by decide) (by decide) k) ?_
  show Wp p e below _ (s₁.setTop (mkF m 59 #[.val (.int (Int32.ofNat len)), .val (.int (Int32.ofNat lo)), .val (.int (Int32.ofNat hi))] []))
  refine Wp.step (fun t k => XS.iloadN X0.here hx rfl (hb hby d8_59) rfl k) ?_
  show Wp p e below _ (s₁.setTop (mkF m 60 #[.val (.int (Int32.ofNat len)), .val (.int (Int32.ofNat lo)), .val (.int (Int32.ofNat hi))] [(.int (Int32.ofNat hi))]))
  refine Wp.step (fun t k => XS.iloadN X0.here hx rfl (hb hby d8_60) rfl k) ?_
  show Wp p e below _ (s₁.setTop (mkF m 61 #[.val (.int (Int32.ofNat len)), .val (.int (Int32.ofNat lo)), .val (.int (Int32.ofNat hi))] [(.int (Int32.ofNat len)), (.int (Int32.ofNat hi))]))
  refine Wp.step (fun t k => XS.icmpYes X0.here hx rfl (pc0 := 61) (pc' := 73) rfl (hb hby d8_61) rfl (flt (show ¬ ((Int32.ofNat len) < (Int32.ofNat hi)) from fun q => absurd ((own_lt (by omega) (by omega)).mp q) (by omega))).2.2.2 (by decide) (by decide) k) ?_
  show Wp p e below _ (s₁.setTop (mkF m 73 #[.val (.int (Int32.ofNat len)), .val (.int (Int32.ofNat lo)), .val (.int (Int32.ofNat hi))] []))
  refine Wp.retV X0 hx Bd.returns (hb hby d8_73) hlk ?_ (by decide) (by decide)
  show Q8 Z (Int32.ofNat len) (Int32.ofNat lo) (Int32.ofNat hi) lo hi len h0 n0 none s₁.heap _
  rw [e0]
  exact ⟨rfl, N0, rfl⟩
theorem pd_28III29V : parseMethodDescriptor "(III)V" = some ⟨[.int, .int, .int], none⟩ := by decide +kernel
theorem pd_285bJIII29V : parseMethodDescriptor "([JIII)V" = some ⟨[(.array .long), .int, .int, .int], none⟩ := by decide +kernel
theorem d7_0 : decode jdk_65_method_5_code 0 = .ok (.aload_n 0, 1) := by decide +kernel
theorem d7_1 : decode jdk_65_method_5_code 1 = .ok (.arraylength, 1) := by decide +kernel
theorem d7_2 : decode jdk_65_method_5_code 2 = .ok (.iload_n 1, 1) := by decide +kernel
theorem d7_3 : decode jdk_65_method_5_code 3 = .ok (.iload_n 2, 1) := by decide +kernel
theorem d7_4 : decode jdk_65_method_5_code 4 = .ok (.invokestatic 13, 3) := by decide +kernel
theorem d7_7 : decode jdk_65_method_5_code 7 = .ok (.aload_n 0, 1) := by decide +kernel
theorem d7_8 : decode jdk_65_method_5_code 8 = .ok (.iconst 0, 1) := by decide +kernel
theorem d7_9 : decode jdk_65_method_5_code 9 = .ok (.iload_n 1, 1) := by decide +kernel
theorem d7_10 : decode jdk_65_method_5_code 10 = .ok (.iload_n 2, 1) := by decide +kernel
theorem d7_11 : decode jdk_65_method_5_code 11 = .ok (.invokestatic 19, 3) := by decide +kernel
theorem d7_14 : decode jdk_65_method_5_code 14 = .ok (.return_, 1) := by decide +kernel
theorem ef_7_000 (m : MethodId) (x0 : Addr) (x1 : Int32) (x2 : Int32) : entryFrame m #[(.ref x0), (.int x1), (.int x2)] 3 = mkF m 0 #[.val (.ref x0), .val (.int x1), .val (.int x2)] [] := by first | (simp [entryFrame, mkF, argsToLocals, Value.category]; done) | rfl
def Q7 (Z : State) (d0 : Addr) (u0 : Int32) (u1 : Int32) (lo : Nat) (hi : Nat) (len : Nat) (g0 : Nat → Int64) (h0 : Heap) (n0 : Nat) (v : Option Value) (h : Heap) (L : List Loc) : Prop := v = none ∧ Fr n0 L ∧ Keep h0 h [d0] ∧ ∃ g, own_JA Z h d0 (Int32.ofNat len) g ∧ own_upto lo hi hi g0 g
set_option maxRecDepth 65536 in
set_option maxHeartbeats 40000000 in
theorem rm7 (l : Launch) (Z : State) (a0 : Array Value) (hw : ∀ d ∈ tables_1, d.before a0 Z = true) (ws : List Jvm.Cond) (d0 : Addr) (u0 : Int32) (u1 : Int32) (lo : Nat) (hi : Nat) (len : Nat) (g0 : Nat → Int64) (h0 : Heap) (n0 : Nat) (Z0 : n0 ≤ h0.size) (hu0 : u0 = Int32.ofNat lo) (hu1 : u1 = Int32.ofNat hi) (g_d0 : n0 ≤ d0) (B_d0 : own_JA Z h0 d0 (Int32.ofNat len) g0) (hlo : lo ≤ hi) (hhi : hi ≤ len) (hlen : len ≤ 9) :
    MetFree l (⟨"java/util/Arrays", "sort", "([JII)V"⟩ : MethodName) (head1 (Jvm.Cond.code (⟨"java/util/Arrays", "sort", "([JII)V"⟩ : MethodName) jdk_65_method_5_code 3 none :: ws) ({ frames := 3, cells := 0, slots := 0, locals := 72 } : Room)) (fun a U => a = #[(.ref d0), (.int u0), (.int u1)] ∧ Z.Warmed39 U.vm ∧ U.heap = h0) (fun _ _ _ _ _ => True) (fun _ U o U' => ∃ v L, o = .returned v ∧ Q7 Z d0 u0 u1 lo hi len g0 h0 n0 v U'.heap L ∧ FrameEnd U o U' L ({ frames := 3, cells := 0, slots := 0, locals := 72 } : Room).cells ({ frames := 3, cells := 0, slots := 0, locals := 72 } : Room).slots) := by
  refine MetFree.of_bodySF (plainFor_of_name pn_java_util_Arrays) hisR ?_
  intro p e s m args below meth c s₁ Bd hml0 hP hK
  obtain ⟨rfl, hZ, hh⟩ := hP
  have hx := Bd.exec
  have hby := Bd.bytes
  have hlk : meth.locks = false := Bd.notSynchronized
  have hml : c.maxLocals = 3 := hml0
  have hown : s.vm.findClass "java/util/Arrays" = some m.cls := findClass_of_methodNamed Bd.named
  have hnm := (name_of_methodNamed Bd.named Bd.method).1
  have X0 : Stand p l e ({ frames := 3, cells := 0, slots := 0, locals := 72 } : Room) s m #[(.ref d0), (.int u0), (.int u1)] below meth c s₁ [] 0 0 := Stand.of_body Bd
  have e0 : s₁.heap = h0 := by rw [← hh, Bd.state]; rfl
  have N0 := Fr.nil n0
  have K0 : Keep h0 h0 [d0] := Keep.refl h0 _
  show Wp p e below (Out s (Q7 Z d0 u0 u1 lo hi len g0 h0 n0) ({ frames := 3, cells := 0, slots := 0, locals := 72 } : Room).cells ({ frames := 3, cells := 0, slots := 0, locals := 72 } : Room).slots) (s₁.setTop (entryFrame m #[(.ref d0), (.int u0), (.int u1)] 3))
  rw [ef_7_000]
  subst hu0 hu1
  show Wp p e below _ (s₁.setTop (mkF m 0 #[.val (.ref d0), .val (.int (Int32.ofNat lo)), .val (.int (Int32.ofNat hi))] []))
  refine Wp.step (fun t k => XS.aloadN X0.here hx rfl (hb hby d7_0) rfl rfl k) ?_
  show Wp p e below _ (s₁.setTop (mkF m 1 #[.val (.ref d0), .val (.int (Int32.ofNat lo)), .val (.int (Int32.ofNat hi))] [(.ref d0)]))
  obtain ⟨cl1, Ar1, Sz1, Nn1, -⟩ := id B_d0
  refine Wp.step (X0.arraylength hx (by rw [e0]; exact Ar1.1) (State.isArrayOf_alike hZ.alike Ar1.2.1) (g := (mkF m 1 #[.val (.ref d0), .val (.int (Int32.ofNat lo)), .val (.int (Int32.ofNat hi))] [(.ref d0)])) rfl rfl (hb hby d7_1)) ?_
  rw [len_of Sz1 Nn1]
  show Wp p e below _ (s₁.setTop (mkF m 2 #[.val (.ref d0), .val (.int (Int32.ofNat lo)), .val (.int (Int32.ofNat hi))] [(.int (Int32.ofNat len))]))
  refine Wp.step (fun t k => XS.iloadN X0.here hx rfl (hb hby d7_2) rfl k) ?_
  show Wp p e below _ (s₁.setTop (mkF m 3 #[.val (.ref d0), .val (.int (Int32.ofNat lo)), .val (.int (Int32.ofNat hi))] [(.int (Int32.ofNat lo)), (.int (Int32.ofNat len))]))
  refine Wp.step (fun t k => XS.iloadN X0.here hx rfl (hb hby d7_3) rfl k) ?_
  show Wp p e below _ (s₁.setTop (mkF m 4 #[.val (.ref d0), .val (.int (Int32.ofNat lo)), .val (.int (Int32.ofNat hi))] [(.int (Int32.ofNat hi)), (.int (Int32.ofNat lo)), (.int (Int32.ofNat len))]))
  obtain ⟨_, _, ⟨T2, L2, k2, n2⟩, -, X2, ⟨Lc2, hQ2, l2, y2, z2⟩, st2⟩ := Jvm.LawKit.callS X0 hx (y := (⟨"java/util/Arrays", "rangeCheck", "(III)V"⟩ : MethodName)) hown (mvT hZ (hw _ (List.mem_of_getElem? (i := 44) rfl))) (mvT hZ (hw _ (List.mem_of_getElem? (i := 45) rfl))) (mvT hZ (hw _ (List.mem_of_getElem? (i := 31) rfl))) (mvT hZ (hw _ (List.mem_of_getElem? (i := 46) rfl))) (by decide) (backOf (W := 0) (rm8 l Z a0 hw [] (Int32.ofNat len) (Int32.ofNat lo) (Int32.ofNat hi) lo hi len h0 n0 (Nat.le_trans Z0 K0.1) rfl rfl rfl (by omega) (by omega) (by omega)) hZ (hw _ (List.mem_of_getElem? (i := 46) rfl)) (hw _ (List.mem_of_getElem? (i := 31) rfl)) (by decide) (by decide)) (g := (mkF m 4 #[.val (.ref d0), .val (.int (Int32.ofNat lo)), .val (.int (Int32.ofNat hi))] [(.int (Int32.ofNat hi)), (.int (Int32.ofNat lo)), (.int (Int32.ofNat len))])) rfl (by rw [hml]; rfl) (argsL := [(.int (Int32.ofNat len)), (.int (Int32.ofNat lo)), (.int (Int32.ofNat hi))]) (rest := []) (lenOf pd_28III29V rfl) rfl (by show 2 * 0 + _ ≤ _; exact Nat.le_of_eq rfl) (hb hby d7_4) (fun _ _ => ⟨rfl, e0, (by decide : 0 + 0 ≤ _), (by decide : 0 + 0 ≤ _)⟩)
  dsimp only [Pt.U, Pt.locs, Pt.cells, Pt.slots] at X2 l2 y2 z2 st2 hQ2
  subst l2 y2 z2
  obtain ⟨rfl, N2q, e2⟩ := hQ2
  have N2 := Fr.app N0 N2q
  refine Wp.step st2 ?_
  show Wp p e below _ (T2.setTop (mkF m 7 #[.val (.ref d0), .val (.int (Int32.ofNat lo)), .val (.int (Int32.ofNat hi))] []))
  refine Wp.step (fun t k => XS.aloadN X2.here hx rfl (hb hby d7_7) rfl rfl k) ?_
  show Wp p e below _ (T2.setTop (mkF m 8 #[.val (.ref d0), .val (.int (Int32.ofNat lo)), .val (.int (Int32.ofNat hi))] [(.ref d0)]))
  refine Wp.step (fun t k => XS.iconst X2.here hx rfl (hb hby d7_8) k) ?_
  show Wp p e below _ (T2.setTop (mkF m 9 #[.val (.ref d0), .val (.int (Int32.ofNat lo)), .val (.int (Int32.ofNat hi))] [(.int (0 : Int32)), (.ref d0)]))
  refine Wp.step (fun t k => XS.iloadN X2.here hx rfl (hb hby d7_9) rfl k) ?_
  show Wp p e below _ (T2.setTop (mkF m 10 #[.val (.ref d0), .val (.int (Int32.ofNat lo)), .val (.int (Int32.ofNat hi))] [(.int (Int32.ofNat lo)), (.int (0 : Int32)), (.ref d0)]))
  refine Wp.step (fun t k => XS.iloadN X2.here hx rfl (hb hby d7_10) rfl k) ?_
  show Wp p e below _ (T2.setTop (mkF m 11 #[.val (.ref d0), .val (.int (Int32.ofNat lo)), .val (.int (Int32.ofNat hi))] [(.int (Int32.ofNat hi)), (.int (Int32.ofNat lo)), (.int (0 : Int32)), (.ref d0)]))
  obtain ⟨_, _, ⟨T3, L3, k3, n3⟩, -, X3, ⟨Lc3, hQ3, l3, y3, z3⟩, st3⟩ := Jvm.LawKit.callS X2 hx (y := (⟨"java/util/DualPivotQuicksort", "sort", "([JIII)V"⟩ : MethodName)) hown (mvT hZ (hw _ (List.mem_of_getElem? (i := 47) rfl))) (mvT hZ (hw _ (List.mem_of_getElem? (i := 48) rfl))) (mvT hZ (hw _ (List.mem_of_getElem? (i := 49) rfl))) (mvT hZ (hw _ (List.mem_of_getElem? (i := 50) rfl))) (by decide) (backOf (W := 0) (rm9 l Z a0 hw [] d0 (0 : Int32) (Int32.ofNat lo) (Int32.ofNat hi) lo hi len g0 h0 n0 (Nat.le_trans Z0 K0.1) rfl rfl rfl g_d0 B_d0 (by omega) (by omega) (by omega)) hZ (hw _ (List.mem_of_getElem? (i := 50) rfl)) (hw _ (List.mem_of_getElem? (i := 49) rfl)) (by decide) (by decide)) (g := (mkF m 11 #[.val (.ref d0), .val (.int (Int32.ofNat lo)), .val (.int (Int32.ofNat hi))] [(.int (Int32.ofNat hi)), (.int (Int32.ofNat lo)), (.int (0 : Int32)), (.ref d0)])) rfl (by rw [hml]; rfl) (argsL := [(.ref d0), (.int (0 : Int32)), (.int (Int32.ofNat lo)), (.int (Int32.ofNat hi))]) (rest := []) (lenOf pd_285bJIII29V rfl) rfl (by show 2 * 0 + _ ≤ _; exact Nat.le_of_eq rfl) (hb hby d7_11) (fun _ _ => ⟨rfl, e2, (by decide : 0 + 0 ≤ _), (by decide : 0 + 0 ≤ _)⟩)
  dsimp only [Pt.U, Pt.locs, Pt.cells, Pt.slots] at X3 l3 y3 z3 st3 hQ3
  subst l3 y3 z3
  obtain ⟨h3, e3⟩ : ∃ z, T3.heap = z := ⟨_, rfl⟩
  rw [e3] at hQ3
  obtain ⟨rfl, N3q, Kc3, gg3, BB3, UU3⟩ := hQ3
  have N3 := Fr.app N2 N3q
  have K3 := K0.trans Kc3 (allS (Or.inl (List.mem_of_getElem? (i := 0) rfl)) all0)
  refine Wp.step st3 ?_
  show Wp p e below _ (T3.setTop (mkF m 14 #[.val (.ref d0), .val (.int (Int32.ofNat lo)), .val (.int (Int32.ofNat hi))] []))
  refine Wp.retV X3 hx Bd.returns (hb hby d7_14) hlk ?_ (by decide) (by decide)
  show Q7 Z d0 (Int32.ofNat lo) (Int32.ofNat hi) lo hi len g0 h0 n0 none T3.heap _
  rw [e3]
  exact ⟨rfl, N3, K3, _, BB3, UU3⟩
theorem d6_0 : decode jdk_29_method_69_code 0 = .ok (.iload_n 0, 1) := by decide +kernel
theorem d6_1 : decode jdk_29_method_69_code 1 = .ok (.iload_n 1, 1) := by decide +kernel
theorem d6_2 : decode jdk_29_method_69_code 2 = .ok (.if_icmp .gt 7, 3) := by decide +kernel
theorem d6_5 : decode jdk_29_method_69_code 5 = .ok (.iload_n 0, 1) := by decide +kernel
theorem d6_6 : decode jdk_29_method_69_code 6 = .ok (.goto 4, 3) := by decide +kernel
theorem d6_9 : decode jdk_29_method_69_code 9 = .ok (.iload_n 1, 1) := by decide +kernel
theorem d6_10 : decode jdk_29_method_69_code 10 = .ok (.ireturn, 1) := by decide +kernel
theorem ef_6_00 (m : MethodId) (x0 : Int32) (x1 : Int32) : entryFrame m #[(.int x0), (.int x1)] 2 = mkF m 0 #[.val (.int x0), .val (.int x1)] [] := by first | (simp [entryFrame, mkF, argsToLocals, Value.category]; done) | rfl
def Q6 (Z : State) (u0 : Int32) (u1 : Int32) (a : Nat) (b : Nat) (h0 : Heap) (n0 : Nat) (v : Option Value) (h : Heap) (L : List Loc) : Prop := v = some (.int (Int32.ofNat (min a b))) ∧ Fr n0 L ∧ h = h0
set_option maxRecDepth 65536 in
set_option maxHeartbeats 40000000 in
theorem rm6 (l : Launch) (Z : State) (a0 : Array Value) (hw : ∀ d ∈ tables_1, d.before a0 Z = true) (ws : List Jvm.Cond) (u0 : Int32) (u1 : Int32) (a : Nat) (b : Nat) (h0 : Heap) (n0 : Nat) (Z0 : n0 ≤ h0.size) (hu0 : u0 = Int32.ofNat a) (hu1 : u1 = Int32.ofNat b) (ha : a ≤ 9999) (hb_ : b ≤ 9999) :
    MetFree l (⟨"java/lang/Math", "min", "(II)I"⟩ : MethodName) (head1 (Jvm.Cond.code (⟨"java/lang/Math", "min", "(II)I"⟩ : MethodName) jdk_29_method_69_code 2 (some .int) :: ws) ({ frames := 0, cells := 0, slots := 0, locals := 0 } : Room)) (fun a U => a = #[(.int u0), (.int u1)] ∧ Z.Warmed39 U.vm ∧ U.heap = h0) (fun _ _ _ _ _ => True) (fun _ U o U' => ∃ v L, o = .returned v ∧ Q6 Z u0 u1 a b h0 n0 v U'.heap L ∧ FrameEnd U o U' L ({ frames := 0, cells := 0, slots := 0, locals := 0 } : Room).cells ({ frames := 0, cells := 0, slots := 0, locals := 0 } : Room).slots) := by
  refine MetFree.of_bodySF (Jvm.Free.JP.mathPlain rfl (by decide +kernel)) hisR ?_
  intro p e s m args below meth c s₁ Bd hml0 hP hK
  obtain ⟨rfl, hZ, hh⟩ := hP
  have hx := Bd.exec
  have hby := Bd.bytes
  have hlk : meth.locks = false := Bd.notSynchronized
  have hml : c.maxLocals = 2 := hml0
  have hown : s.vm.findClass "java/lang/Math" = some m.cls := findClass_of_methodNamed Bd.named
  have hnm := (name_of_methodNamed Bd.named Bd.method).1
  have X0 : Stand p l e ({ frames := 0, cells := 0, slots := 0, locals := 0 } : Room) s m #[(.int u0), (.int u1)] below meth c s₁ [] 0 0 := Stand.of_body Bd
  have e0 : s₁.heap = h0 := by rw [← hh, Bd.state]; rfl
  have N0 := Fr.nil n0
  have K0 : Keep h0 h0 [] := Keep.refl h0 _
  show Wp p e below (Out s (Q6 Z u0 u1 a b h0 n0) ({ frames := 0, cells := 0, slots := 0, locals := 0 } : Room).cells ({ frames := 0, cells := 0, slots := 0, locals := 0 } : Room).slots) (s₁.setTop (entryFrame m #[(.int u0), (.int u1)] 2))
  rw [ef_6_00]
  subst hu0 hu1
  show Wp p e below _ (s₁.setTop (mkF m 0 #[.val (.int (Int32.ofNat a)), .val (.int (Int32.ofNat b))] []))
  refine Wp.step (fun t k => XS.iloadN X0.here hx rfl (hb hby d6_0) rfl k) ?_
  show Wp p e below _ (s₁.setTop (mkF m 1 #[.val (.int (Int32.ofNat a)), .val (.int (Int32.ofNat b))] [(.int (Int32.ofNat a))]))
  refine Wp.step (fun t k => XS.iloadN X0.here hx rfl (hb hby d6_1) rfl k) ?_
  show Wp p e below _ (s₁.setTop (mkF m 2 #[.val (.int (Int32.ofNat a)), .val (.int (Int32.ofNat b))] [(.int (Int32.ofNat b)), (.int (Int32.ofNat a))]))
  by_cases hc1 : (Int32.ofNat b) < (Int32.ofNat a)
  · have hc1n : b < a := (own_lt (by omega) (by omega)).mp hc1
    refine Wp.step (fun t k => XS.icmpYes X0.here hx rfl (pc0 := 2) (pc' := 9) rfl (hb hby d6_2) rfl (tlt hc1).2.2.1 (by decide) (by decide) k) ?_
    show Wp p e below _ (s₁.setTop (mkF m 9 #[.val (.int (Int32.ofNat a)), .val (.int (Int32.ofNat b))] []))
    refine Wp.step (fun t k => XS.iloadN X0.here hx rfl (hb hby d6_9) rfl k) ?_
    show Wp p e below _ (s₁.setTop (mkF m 10 #[.val (.int (Int32.ofNat a)), .val (.int (Int32.ofNat b))] [(.int (Int32.ofNat b))]))
    refine Wp.retI X0 hx Bd.returns (hb hby d6_10) hlk ?_ (by decide) (by decide)
    show Q6 Z (Int32.ofNat a) (Int32.ofNat b) a b h0 n0 (some (.int (Int32.ofNat b))) s₁.heap _
    rw [e0]
    exact ⟨by rw [show min a b = b by omega], N0, rfl⟩
  · have hc1n : ¬ (b < a) := fun q => hc1 ((own_lt (by omega) (by omega)).mpr q)
    refine Wp.step (fun t k => XS.icmpNo X0.here hx rfl (hb hby d6_2) rfl (flt hc1).2.2.1 k) ?_
    show Wp p e below _ (s₁.setTop (mkF m 5 #[.val (.int (Int32.ofNat a)), .val (.int (Int32.ofNat b))] []))
    refine Wp.step (fun t k => XS.iloadN X0.here hx rfl (hb hby d6_5) rfl k) ?_
    show Wp p e below _ (s₁.setTop (mkF m 6 #[.val (.int (Int32.ofNat a)), .val (.int (Int32.ofNat b))] [(.int (Int32.ofNat a))]))
    refine Wp.step (fun t k => XS.goto X0.here hx rfl (pc0 := 6) (pc' := 10) rfl (hb hby d6_6) (by decide) (by decide) k) ?_
    show Wp p e below _ (s₁.setTop (mkF m 10 #[.val (.int (Int32.ofNat a)), .val (.int (Int32.ofNat b))] [(.int (Int32.ofNat a))]))
    refine Wp.retI X0 hx Bd.returns (hb hby d6_10) hlk ?_ (by decide) (by decide)
    show Q6 Z (Int32.ofNat a) (Int32.ofNat b) a b h0 n0 (some (.int (Int32.ofNat a))) s₁.heap _
    rw [e0]
    exact ⟨by rw [show min a b = a by omega], N0, rfl⟩
theorem d15_0 : decode prog_15_method_8_code 0 = .ok (.lload_n 0, 1) := by decide +kernel
theorem d15_1 : decode prog_15_method_8_code 1 = .ok (.bipush 32, 2) := by decide +kernel
theorem d15_3 : decode prog_15_method_8_code 3 = .ok (.lushr, 1) := by decide +kernel
theorem d15_4 : decode prog_15_method_8_code 4 = .ok (.l2i, 1) := by decide +kernel
theorem d15_5 : decode prog_15_method_8_code 5 = .ok (.ireturn, 1) := by decide +kernel
theorem pn_com_example_erotema_erotema_model_ToldEdges : plainName "com/example/erotema/erotema/model/ToldEdges" = true := by first | (simp [plainName, overriddenIn]; done) | decide +kernel
theorem ef_15_0 (m : MethodId) (x0 : Int64) : entryFrame m #[(.long x0)] 2 = mkF m 0 #[.val (.long x0), .second] [] := by first | (simp [entryFrame, mkF, argsToLocals, Value.category]; done) | rfl
def Q15 (Z : State) (y0 : Int64) (h0 : Heap) (n0 : Nat) (v : Option Value) (h : Heap) (L : List Loc) : Prop := v = some (.int (own_pr y0)) ∧ Fr n0 L ∧ h = h0
set_option maxRecDepth 65536 in
set_option maxHeartbeats 40000000 in
theorem rm15 (l : Launch) (Z : State) (a0 : Array Value) (hw : ∀ d ∈ tables_1, d.before a0 Z = true) (ws : List Jvm.Cond) (y0 : Int64) (h0 : Heap) (n0 : Nat) (Z0 : n0 ≤ h0.size) :
    MetFree l (⟨"com/example/erotema/erotema/model/ToldEdges", "property", "(J)I"⟩ : MethodName) (head1 (Jvm.Cond.code (⟨"com/example/erotema/erotema/model/ToldEdges", "property", "(J)I"⟩ : MethodName) prog_15_method_8_code 2 (some .int) :: ws) ({ frames := 0, cells := 0, slots := 0, locals := 0 } : Room)) (fun a U => a = #[(.long y0)] ∧ Z.Warmed39 U.vm ∧ U.heap = h0) (fun _ _ _ _ _ => True) (fun _ U o U' => ∃ v L, o = .returned v ∧ Q15 Z y0 h0 n0 v U'.heap L ∧ FrameEnd U o U' L ({ frames := 0, cells := 0, slots := 0, locals := 0 } : Room).cells ({ frames := 0, cells := 0, slots := 0, locals := 0 } : Room).slots) := by
  refine MetFree.of_bodySF (plainFor_of_name pn_com_example_erotema_erotema_model_ToldEdges) hisR ?_
  intro p e s m args below meth c s₁ Bd hml0 hP hK
  obtain ⟨rfl, hZ, hh⟩ := hP
  have hx := Bd.exec
  have hby := Bd.bytes
  have hlk : meth.locks = false := Bd.notSynchronized
  have hml : c.maxLocals = 2 := hml0
  have hown : s.vm.findClass "com/example/erotema/erotema/model/ToldEdges" = some m.cls := findClass_of_methodNamed Bd.named
  have hnm := (name_of_methodNamed Bd.named Bd.method).1
  have X0 : Stand p l e ({ frames := 0, cells := 0, slots := 0, locals := 0 } : Room) s m #[(.long y0)] below meth c s₁ [] 0 0 := Stand.of_body Bd
  have e0 : s₁.heap = h0 := by rw [← hh, Bd.state]; rfl
  have N0 := Fr.nil n0
  have K0 : Keep h0 h0 [] := Keep.refl h0 _
  show Wp p e below (Out s (Q15 Z y0 h0 n0) ({ frames := 0, cells := 0, slots := 0, locals := 0 } : Room).cells ({ frames := 0, cells := 0, slots := 0, locals := 0 } : Room).slots) (s₁.setTop (entryFrame m #[(.long y0)] 2))
  rw [ef_15_0]
  show Wp p e below _ (s₁.setTop (mkF m 0 #[.val (.long y0), .second] []))
  refine Wp.step (fun t k => XS.lloadN X0.here hx rfl (hb hby d15_0) rfl k) ?_
  show Wp p e below _ (s₁.setTop (mkF m 1 #[.val (.long y0), .second] [(.long y0)]))
  refine Wp.step (fun t k => XS.bipush X0.here hx rfl (hb hby d15_1) k) ?_
  show Wp p e below _ (s₁.setTop (mkF m 3 #[.val (.long y0), .second] [(.int (32 : Int32)), (.long y0)]))
  refine Wp.step (fun t k => XS.lushr X0.here hx rfl (hb hby d15_3) rfl k) ?_
  show Wp p e below _ (s₁.setTop (mkF m 4 #[.val (.long y0), .second] [(.long ((y0.toUInt64 >>> ((32 : Int32) &&& 0x3f).toInt64.toUInt64).toInt64))]))
  refine Wp.step (fun t k => XS.l2i X0.here hx rfl (hb hby d15_4) rfl k) ?_
  show Wp p e below _ (s₁.setTop (mkF m 5 #[.val (.long y0), .second] [(.int (((y0.toUInt64 >>> ((32 : Int32) &&& 0x3f).toInt64.toUInt64).toInt64).toInt32))]))
  refine Wp.retI X0 hx Bd.returns (hb hby d15_5) hlk ?_ (by decide) (by decide)
  show Q15 Z y0 h0 n0 (some (.int (((y0.toUInt64 >>> ((32 : Int32) &&& 0x3f).toInt64.toUInt64).toInt64).toInt32))) s₁.heap _
  rw [e0]
  exact ⟨rfl, N0, rfl⟩
theorem d16_0 : decode prog_15_method_9_code 0 = .ok (.lload_n 0, 1) := by decide +kernel
theorem d16_1 : decode prog_15_method_9_code 1 = .ok (.ldc2_w 58, 3) := by decide +kernel
theorem d16_4 : decode prog_15_method_9_code 4 = .ok (.land, 1) := by decide +kernel
theorem d16_5 : decode prog_15_method_9_code 5 = .ok (.l2i, 1) := by decide +kernel
theorem d16_6 : decode prog_15_method_9_code 6 = .ok (.ireturn, 1) := by decide +kernel
theorem ef_16_0 (m : MethodId) (x0 : Int64) : entryFrame m #[(.long x0)] 2 = mkF m 0 #[.val (.long x0), .second] [] := by first | (simp [entryFrame, mkF, argsToLocals, Value.category]; done) | rfl
def Q16 (Z : State) (y0 : Int64) (h0 : Heap) (n0 : Nat) (v : Option Value) (h : Heap) (L : List Loc) : Prop := v = some (.int (own_el y0)) ∧ Fr n0 L ∧ h = h0
set_option maxRecDepth 65536 in
set_option maxHeartbeats 40000000 in
theorem rm16 (l : Launch) (Z : State) (a0 : Array Value) (hw : ∀ d ∈ tables_1, d.before a0 Z = true) (ws : List Jvm.Cond) (y0 : Int64) (h0 : Heap) (n0 : Nat) (Z0 : n0 ≤ h0.size) :
    MetFree l (⟨"com/example/erotema/erotema/model/ToldEdges", "element", "(J)I"⟩ : MethodName) (head1 (Jvm.Cond.code (⟨"com/example/erotema/erotema/model/ToldEdges", "element", "(J)I"⟩ : MethodName) prog_15_method_9_code 2 (some .int) :: ws) ({ frames := 0, cells := 0, slots := 0, locals := 0 } : Room)) (fun a U => a = #[(.long y0)] ∧ Z.Warmed39 U.vm ∧ U.heap = h0) (fun _ _ _ _ _ => True) (fun _ U o U' => ∃ v L, o = .returned v ∧ Q16 Z y0 h0 n0 v U'.heap L ∧ FrameEnd U o U' L ({ frames := 0, cells := 0, slots := 0, locals := 0 } : Room).cells ({ frames := 0, cells := 0, slots := 0, locals := 0 } : Room).slots) := by
  refine MetFree.of_bodySF (plainFor_of_name pn_com_example_erotema_erotema_model_ToldEdges) hisR ?_
  intro p e s m args below meth c s₁ Bd hml0 hP hK
  obtain ⟨rfl, hZ, hh⟩ := hP
  have hx := Bd.exec
  have hby := Bd.bytes
  have hlk : meth.locks = false := Bd.notSynchronized
  have hml : c.maxLocals = 2 := hml0
  have hown : s.vm.findClass "com/example/erotema/erotema/model/ToldEdges" = some m.cls := findClass_of_methodNamed Bd.named
  have hnm := (name_of_methodNamed Bd.named Bd.method).1
  have X0 : Stand p l e ({ frames := 0, cells := 0, slots := 0, locals := 0 } : Room) s m #[(.long y0)] below meth c s₁ [] 0 0 := Stand.of_body Bd
  have e0 : s₁.heap = h0 := by rw [← hh, Bd.state]; rfl
  have N0 := Fr.nil n0
  have K0 : Keep h0 h0 [] := Keep.refl h0 _
  show Wp p e below (Out s (Q16 Z y0 h0 n0) ({ frames := 0, cells := 0, slots := 0, locals := 0 } : Room).cells ({ frames := 0, cells := 0, slots := 0, locals := 0 } : Room).slots) (s₁.setTop (entryFrame m #[(.long y0)] 2))
  rw [ef_16_0]
  show Wp p e below _ (s₁.setTop (mkF m 0 #[.val (.long y0), .second] []))
  refine Wp.step (fun t k => XS.lloadN X0.here hx rfl (hb hby d16_0) rfl k) ?_
  show Wp p e below _ (s₁.setTop (mkF m 1 #[.val (.long y0), .second] [(.long y0)]))
  refine Wp.step (X0.ldc2Long hx hown (mvT hZ (hw _ (List.mem_of_getElem? (i := 92) rfl))) (g := (mkF m 1 #[.val (.long y0), .second] [(.long y0)])) rfl (hb hby d16_1)) ?_
  show Wp p e below _ (s₁.setTop (mkF m 4 #[.val (.long y0), .second] [(.long (4294967295 : Int64)), (.long y0)]))
  refine Wp.step (fun t k => XS.land X0.here hx rfl (hb hby d16_4) rfl k) ?_
  show Wp p e below _ (s₁.setTop (mkF m 5 #[.val (.long y0), .second] [(.long (y0 &&& (4294967295 : Int64)))]))
  refine Wp.step (fun t k => XS.l2i X0.here hx rfl (hb hby d16_5) rfl k) ?_
  show Wp p e below _ (s₁.setTop (mkF m 6 #[.val (.long y0), .second] [(.int ((y0 &&& (4294967295 : Int64)).toInt32))]))
  refine Wp.retI X0 hx Bd.returns (hb hby d16_6) hlk ?_ (by decide) (by decide)
  show Q16 Z y0 h0 n0 (some (.int ((y0 &&& (4294967295 : Int64)).toInt32))) s₁.heap _
  rw [e0]
  exact ⟨rfl, N0, rfl⟩
theorem pd_28II29I : parseMethodDescriptor "(II)I" = some ⟨[.int, .int], some .int⟩ := by decide +kernel
theorem d5_0 : decode jdk_65_method_123_code 0 = .ok (.iload_n 1, 1) := by decide +kernel
theorem d5_1 : decode jdk_65_method_123_code 1 = .ok (.aload_n 0, 1) := by decide +kernel
theorem d5_2 : decode jdk_65_method_123_code 2 = .ok (.arraylength, 1) := by decide +kernel
theorem d5_3 : decode jdk_65_method_123_code 3 = .ok (.if_icmp .ne 11, 3) := by decide +kernel
theorem d5_14 : decode jdk_65_method_123_code 14 = .ok (.iload_n 1, 1) := by decide +kernel
theorem d5_15 : decode jdk_65_method_123_code 15 = .ok (.newarray .int, 2) := by decide +kernel
theorem d5_17 : decode jdk_65_method_123_code 17 = .ok (.astore_n 2, 1) := by decide +kernel
theorem d5_18 : decode jdk_65_method_123_code 18 = .ok (.aload_n 0, 1) := by decide +kernel
theorem d5_19 : decode jdk_65_method_123_code 19 = .ok (.iconst 0, 1) := by decide +kernel
theorem d5_20 : decode jdk_65_method_123_code 20 = .ok (.aload_n 2, 1) := by decide +kernel
theorem d5_21 : decode jdk_65_method_123_code 21 = .ok (.iconst 0, 1) := by decide +kernel
theorem d5_22 : decode jdk_65_method_123_code 22 = .ok (.aload_n 0, 1) := by decide +kernel
theorem d5_23 : decode jdk_65_method_123_code 23 = .ok (.arraylength, 1) := by decide +kernel
theorem d5_24 : decode jdk_65_method_123_code 24 = .ok (.iload_n 1, 1) := by decide +kernel
theorem d5_25 : decode jdk_65_method_123_code 25 = .ok (.invokestatic 304, 3) := by decide +kernel
theorem d5_28 : decode jdk_65_method_123_code 28 = .ok (.invokestatic 150, 3) := by decide +kernel
theorem d5_31 : decode jdk_65_method_123_code 31 = .ok (.aload_n 2, 1) := by decide +kernel
theorem d5_32 : decode jdk_65_method_123_code 32 = .ok (.areturn, 1) := by decide +kernel
theorem ef_5_00 (m : MethodId) (x0 : Addr) (x1 : Int32) : entryFrame m #[(.ref x0), (.int x1)] 3 = mkF m 0 #[.val (.ref x0), .val (.int x1), .unset] [] := by first | (simp [entryFrame, mkF, argsToLocals, Value.category]; done) | rfl
def Q5 (Z : State) (d0 : Addr) (u0 : Int32) (nl : Nat) (len : Nat) (g : Nat → Int32) (h0 : Heap) (n0 : Nat) (v : Option Value) (h : Heap) (L : List Loc) : Prop := ∃ b, v = some (.ref b) ∧ Fr n0 L ∧ Keep h0 h [] ∧ h0.size ≤ b ∧ own_IA .int Z h b (Int32.ofNat nl) g
set_option maxRecDepth 65536 in
set_option maxHeartbeats 40000000 in
theorem rm5 (l : Launch) (Z : State) (a0 : Array Value) (hw : ∀ d ∈ tables_1, d.before a0 Z = true) (ws : List Jvm.Cond) (d0 : Addr) (u0 : Int32) (nl : Nat) (len : Nat) (g : Nat → Int32) (h0 : Heap) (n0 : Nat) (Z0 : n0 ≤ h0.size) (hu0 : u0 = Int32.ofNat nl) (B_d0 : own_IA .int Z h0 d0 (Int32.ofNat len) g) (hlen : len ≤ 5) (hnl : nl < len) :
    MetFree l (⟨"java/util/Arrays", "copyOf", "([II)[I"⟩ : MethodName) (head1 (Jvm.Cond.code (⟨"java/util/Arrays", "copyOf", "([II)[I"⟩ : MethodName) jdk_65_method_123_code 3 (some (.array .int)) :: ws) ({ frames := 1, cells := 1, slots := 5, locals := 18 } : Room)) (fun a U => a = #[(.ref d0), (.int u0)] ∧ Z.Warmed39 U.vm ∧ U.heap = h0) (fun _ _ _ _ _ => True) (fun _ U o U' => ∃ v L, o = .returned v ∧ Q5 Z d0 u0 nl len g h0 n0 v U'.heap L ∧ FrameEnd U o U' L ({ frames := 1, cells := 1, slots := 5, locals := 18 } : Room).cells ({ frames := 1, cells := 1, slots := 5, locals := 18 } : Room).slots) := by
  refine MetFree.of_bodySF (plainFor_of_name pn_java_util_Arrays) hisR ?_
  intro p e s m args below meth c s₁ Bd hml0 hP hK
  obtain ⟨rfl, hZ, hh⟩ := hP
  have hx := Bd.exec
  have hby := Bd.bytes
  have hlk : meth.locks = false := Bd.notSynchronized
  have hml : c.maxLocals = 3 := hml0
  have hown : s.vm.findClass "java/util/Arrays" = some m.cls := findClass_of_methodNamed Bd.named
  have hnm := (name_of_methodNamed Bd.named Bd.method).1
  have X0 : Stand p l e ({ frames := 1, cells := 1, slots := 5, locals := 18 } : Room) s m #[(.ref d0), (.int u0)] below meth c s₁ [] 0 0 := Stand.of_body Bd
  have e0 : s₁.heap = h0 := by rw [← hh, Bd.state]; rfl
  have N0 := Fr.nil n0
  have K0 : Keep h0 h0 [] := Keep.refl h0 _
  show Wp p e below (Out s (Q5 Z d0 u0 nl len g h0 n0) ({ frames := 1, cells := 1, slots := 5, locals := 18 } : Room).cells ({ frames := 1, cells := 1, slots := 5, locals := 18 } : Room).slots) (s₁.setTop (entryFrame m #[(.ref d0), (.int u0)] 3))
  rw [ef_5_00]
  subst hu0
  show Wp p e below _ (s₁.setTop (mkF m 0 #[.val (.ref d0), .val (.int (Int32.ofNat nl)), .unset] []))
  refine Wp.step (fun t k => XS.iloadN X0.here hx rfl (hb hby d5_0) rfl k) ?_
  show Wp p e below _ (s₁.setTop (mkF m 1 #[.val (.ref d0), .val (.int (Int32.ofNat nl)), .unset] [(.int (Int32.ofNat nl))]))
  refine Wp.step (fun t k => XS.aloadN X0.here hx rfl (hb hby d5_1) rfl rfl k) ?_
  show Wp p e below _ (s₁.setTop (mkF m 2 #[.val (.ref d0), .val (.int (Int32.ofNat nl)), .unset] [(.ref d0), (.int (Int32.ofNat nl))]))
  obtain ⟨cl1, Ar1, Sz1, Nn1, -⟩ := id B_d0
  refine Wp.step (X0.arraylength hx (by rw [e0]; exact Ar1.1) (State.isArrayOf_alike hZ.alike Ar1.2.1) (g := (mkF m 2 #[.val (.ref d0), .val (.int (Int32.ofNat nl)), .unset] [(.ref d0), (.int (Int32.ofNat nl))])) rfl rfl (hb hby d5_2)) ?_
  rw [len_of Sz1 Nn1]
  show Wp p e below _ (s₁.setTop (mkF m 3 #[.val (.ref d0), .val (.int (Int32.ofNat nl)), .unset] [(.int (Int32.ofNat len)), (.int (Int32.ofNat nl))]))
  refine Wp.step (fun t k => XS.icmpYes X0.here hx rfl (pc0 := 3) (pc' := 14) rfl (hb hby d5_3) rfl (feq (show ¬ ((Int32.ofNat nl) = (Int32.ofNat len)) from fun q => absurd ((own_eq (by omega) (by omega)).mp q) (by omega))).2 (by decide) (by decide) k) ?_
  show Wp p e below _ (s₁.setTop (mkF m 14 #[.val (.ref d0), .val (.int (Int32.ofNat nl)), .unset] []))
  refine Wp.step (fun t k => XS.iloadN X0.here hx rfl (hb hby d5_14) rfl k) ?_
  show Wp p e below _ (s₁.setTop (mkF m 15 #[.val (.ref d0), .val (.int (Int32.ofNat nl)), .unset] [(.int (Int32.ofNat nl))]))
  obtain ⟨T3, h3, k3, X3, e3, E3, A3, st3⟩ := newP X0 hx hZ (hw _ (List.mem_of_getElem? (i := 0) rfl)) e0 (g := (mkF m 15 #[.val (.ref d0), .val (.int (Int32.ofNat nl)), .unset] [(.int (Int32.ofNat nl))])) rfl (hb hby d5_15) rfl (own_nn (by omega)) (cap := 5) (by rw [own_nat (by omega)]; omega) (by decide) (by decide) (by decide)
  obtain ⟨b3, g3⟩ : ∃ z, z = h0.size := ⟨_, rfl⟩
  rw [← g3] at A3 st3
  have g_b3 : n0 ≤ b3 := Nat.le_trans (Nat.le_trans Z0 K0.1) (Nat.le_of_eq g3.symm)
  have sz_b3 : h0.size ≤ b3 := Nat.le_trans K0.1 (Nat.le_of_eq g3.symm)
  have ne_d0_b3 : d0 ≠ b3 := Nat.ne_of_lt (Nat.lt_of_lt_of_le B_d0.lt (Nat.le_of_eq g3.symm))
  have B4 := B_d0.ext E3
  have K5 := K0.ext E3
  have Z3 : (newA k3 .int (Int32.ofNat nl)).slots.size = ((Int32.ofNat nl)).toNatClampNeg := sz_new _ _ _
  have nn3 : ¬ (Int32.ofNat nl) < 0 := (own_nn (by omega))
  refine Wp.step st3 ?_
  have B3 := own_IA.new A3 nn3 rfl
  show Wp p e below _ (T3.setTop (mkF m 17 #[.val (.ref d0), .val (.int (Int32.ofNat nl)), .unset] [(.ref b3)]))
  refine Wp.step (fun t k => XS.astoreN X3.here hx rfl (hb hby d5_17) rfl rfl (l' := #[.val (.ref d0), .val (.int (Int32.ofNat nl)), .val (.ref b3)]) rfl k) ?_
  show Wp p e below _ (T3.setTop (mkF m 18 #[.val (.ref d0), .val (.int (Int32.ofNat nl)), .val (.ref b3)] []))
  refine Wp.step (fun t k => XS.aloadN X3.here hx rfl (hb hby d5_18) rfl rfl k) ?_
  show Wp p e below _ (T3.setTop (mkF m 19 #[.val (.ref d0), .val (.int (Int32.ofNat nl)), .val (.ref b3)] [(.ref d0)]))
  refine Wp.step (fun t k => XS.iconst X3.here hx rfl (hb hby d5_19) k) ?_
  show Wp p e below _ (T3.setTop (mkF m 20 #[.val (.ref d0), .val (.int (Int32.ofNat nl)), .val (.ref b3)] [(.int (0 : Int32)), (.ref d0)]))
  refine Wp.step (fun t k => XS.aloadN X3.here hx rfl (hb hby d5_20) rfl rfl k) ?_
  show Wp p e below _ (T3.setTop (mkF m 21 #[.val (.ref d0), .val (.int (Int32.ofNat nl)), .val (.ref b3)] [(.ref b3), (.int (0 : Int32)), (.ref d0)]))
  refine Wp.step (fun t k => XS.iconst X3.here hx rfl (hb hby d5_21) k) ?_
  show Wp p e below _ (T3.setTop (mkF m 22 #[.val (.ref d0), .val (.int (Int32.ofNat nl)), .val (.ref b3)] [(.int (0 : Int32)), (.ref b3), (.int (0 : Int32)), (.ref d0)]))
  refine Wp.step (fun t k => XS.aloadN X3.here hx rfl (hb hby d5_22) rfl rfl k) ?_
  show Wp p e below _ (T3.setTop (mkF m 23 #[.val (.ref d0), .val (.int (Int32.ofNat nl)), .val (.ref b3)] [(.ref d0), (.int (0 : Int32)), (.ref b3), (.int (0 : Int32)), (.ref d0)]))
  obtain ⟨cl6, Ar6, Sz6, Nn6, -⟩ := id B4
  refine Wp.step (X3.arraylength hx (by rw [e3]; exact Ar6.1) (State.isArrayOf_alike hZ.alike Ar6.2.1) (g := (mkF m 23 #[.val (.ref d0), .val (.int (Int32.ofNat nl)), .val (.ref b3)] [(.ref d0), (.int (0 : Int32)), (.ref b3), (.int (0 : Int32)), (.ref d0)])) rfl rfl (hb hby d5_23)) ?_
  rw [len_of Sz6 Nn6]
  show Wp p e below _ (T3.setTop (mkF m 24 #[.val (.ref d0), .val (.int (Int32.ofNat nl)), .val (.ref b3)] [(.int (Int32.ofNat len)), (.int (0 : Int32)), (.ref b3), (.int (0 : Int32)), (.ref d0)]))
  refine Wp.step (fun t k => XS.iloadN X3.here hx rfl (hb hby d5_24) rfl k) ?_
  show Wp p e below _ (T3.setTop (mkF m 25 #[.val (.ref d0), .val (.int (Int32.ofNat nl)), .val (.ref b3)] [(.int (Int32.ofNat nl)), (.int (Int32.ofNat len)), (.int (0 : Int32)), (.ref b3), (.int (0 : Int32)), (.ref d0)]))
  obtain ⟨_, _, ⟨T7, L7, k7, n7⟩, -, X7, ⟨Lc7, hQ7, l7, y7, z7⟩, st7⟩ := Jvm.LawKit.callS X3 hx (y := (⟨"java/lang/Math", "min", "(II)I"⟩ : MethodName)) hown (mvT hZ (hw _ (List.mem_of_getElem? (i := 33) rfl))) (mvT hZ (hw _ (List.mem_of_getElem? (i := 34) rfl))) (mvT hZ (hw _ (List.mem_of_getElem? (i := 35) rfl))) (mvT hZ (hw _ (List.mem_of_getElem? (i := 36) rfl))) (by decide) (backOf (W := 4) (rm6 l Z a0 hw [] (Int32.ofNat len) (Int32.ofNat nl) len nl h3 n0 (Nat.le_trans Z0 K5.1) rfl rfl (by omega) (by omega)) hZ (hw _ (List.mem_of_getElem? (i := 36) rfl)) (hw _ (List.mem_of_getElem? (i := 35) rfl)) (by decide) (by decide)) (g := (mkF m 25 #[.val (.ref d0), .val (.int (Int32.ofNat nl)), .val (.ref b3)] [(.int (Int32.ofNat nl)), (.int (Int32.ofNat len)), (.int (0 : Int32)), (.ref b3), (.int (0 : Int32)), (.ref d0)])) rfl (by rw [hml]; rfl) (argsL := [(.int (Int32.ofNat len)), (.int (Int32.ofNat nl))]) (rest := [(.int (0 : Int32)), (.ref b3), (.int (0 : Int32)), (.ref d0)]) (lenOf pd_28II29I rfl) rfl (by show 2 * 0 + _ ≤ _; exact Nat.le_of_eq rfl) (hb hby d5_25) (fun _ _ => ⟨rfl, e3, (by decide : 1 + 0 ≤ _), (by decide : 5 + 0 ≤ _)⟩)
  dsimp only [Pt.U, Pt.locs, Pt.cells, Pt.slots] at X7 l7 y7 z7 st7 hQ7
  subst l7 y7 z7
  obtain ⟨rfl, N7q, e7⟩ := hQ7
  have N7 := Fr.app N0 N7q
  refine Wp.step st7 ?_
  show Wp p e below _ (T7.setTop (mkF m 28 #[.val (.ref d0), .val (.int (Int32.ofNat nl)), .val (.ref b3)] [(.int (Int32.ofNat (min len nl))), (.int (0 : Int32)), (.ref b3), (.int (0 : Int32)), (.ref d0)]))
  obtain ⟨T8, h8, L8, X8, e8, N8, Kc8, B8, st8⟩ := own_cpI X7 hx hZ hown (hw _ (List.mem_of_getElem? (i := 37) rfl)) (hw _ (List.mem_of_getElem? (i := 40) rfl)) (hw _ (List.mem_of_getElem? (i := 38) rfl)) (hw _ (List.mem_of_getElem? (i := 39) rfl)) e7 B4 B3 rfl (by decide) (by decide) (own_nn (by omega)) (by rw [own_nat (by omega), own_nat (by omega)]; show 0 + _ ≤ _; omega) (by rw [own_nat (by omega), own_nat (by omega)]; show 0 + _ ≤ _; omega) N7 g_b3 (g := (mkF m 28 #[.val (.ref d0), .val (.int (Int32.ofNat nl)), .val (.ref b3)] [(.int (Int32.ofNat (min len nl))), (.int (0 : Int32)), (.ref b3), (.int (0 : Int32)), (.ref d0)])) rfl (by rw [hml]; rfl) rfl (hb hby d5_28) (by decide) (W := 0) (by show 2 * 0 + _ ≤ _; exact Nat.le_of_eq rfl) (by decide)
  have B9 := B4.keep Kc8 (ninS ne_d0_b3 nin0)
  have K8 := K5.trans Kc8 (allS (Or.inr sz_b3) all0)
  refine Wp.step st8 ?_
  show Wp p e below _ (T8.setTop (mkF m 31 #[.val (.ref d0), .val (.int (Int32.ofNat nl)), .val (.ref b3)] []))
  refine Wp.step (fun t k => XS.aloadN X8.here hx rfl (hb hby d5_31) rfl rfl k) ?_
  show Wp p e below _ (T8.setTop (mkF m 32 #[.val (.ref d0), .val (.int (Int32.ofNat nl)), .val (.ref b3)] [(.ref b3)]))
  refine Wp.retA X8 hx Bd.returns rfl (hb hby d5_32) hlk ?_ (by decide) (by decide)
  show Q5 Z d0 (Int32.ofNat nl) nl len g h0 n0 (some (.ref b3)) T8.heap _
  rw [e8]
  exact ⟨b3, rfl, N8, K8, sz_b3, (B8.cong fun i hi => own_copy0 (by rw [own_nat (by omega)] at hi ⊢; omega))⟩
theorem d12_0 : decode jdk_65_method_124_code 0 = .ok (.iload_n 1, 1) := by decide +kernel
theorem d12_1 : decode jdk_65_method_124_code 1 = .ok (.aload_n 0, 1) := by decide +kernel
theorem d12_2 : decode jdk_65_method_124_code 2 = .ok (.arraylength, 1) := by decide +kernel
theorem d12_3 : decode jdk_65_method_124_code 3 = .ok (.if_icmp .ne 11, 3) := by decide +kernel
theorem d12_6 : decode jdk_65_method_124_code 6 = .ok (.aload_n 0, 1) := by decide +kernel
theorem d12_7 : decode jdk_65_method_124_code 7 = .ok (.invokevirtual 319, 3) := by decide +kernel
theorem d12_10 : decode jdk_65_method_124_code 10 = .ok (.checkcast 320, 3) := by decide +kernel
theorem d12_13 : decode jdk_65_method_124_code 13 = .ok (.areturn, 1) := by decide +kernel
theorem d12_14 : decode jdk_65_method_124_code 14 = .ok (.iload_n 1, 1) := by decide +kernel
theorem d12_15 : decode jdk_65_method_124_code 15 = .ok (.newarray .long, 2) := by decide +kernel
theorem d12_17 : decode jdk_65_method_124_code 17 = .ok (.astore_n 2, 1) := by decide +kernel
theorem d12_18 : decode jdk_65_method_124_code 18 = .ok (.aload_n 0, 1) := by decide +kernel
theorem d12_19 : decode jdk_65_method_124_code 19 = .ok (.iconst 0, 1) := by decide +kernel
theorem d12_20 : decode jdk_65_method_124_code 20 = .ok (.aload_n 2, 1) := by decide +kernel
theorem d12_21 : decode jdk_65_method_124_code 21 = .ok (.iconst 0, 1) := by decide +kernel
theorem d12_22 : decode jdk_65_method_124_code 22 = .ok (.aload_n 0, 1) := by decide +kernel
theorem d12_23 : decode jdk_65_method_124_code 23 = .ok (.arraylength, 1) := by decide +kernel
theorem d12_24 : decode jdk_65_method_124_code 24 = .ok (.iload_n 1, 1) := by decide +kernel
theorem d12_25 : decode jdk_65_method_124_code 25 = .ok (.invokestatic 304, 3) := by decide +kernel
theorem d12_28 : decode jdk_65_method_124_code 28 = .ok (.invokestatic 150, 3) := by decide +kernel
theorem d12_31 : decode jdk_65_method_124_code 31 = .ok (.aload_n 2, 1) := by decide +kernel
theorem d12_32 : decode jdk_65_method_124_code 32 = .ok (.areturn, 1) := by decide +kernel
theorem ef_12_00 (m : MethodId) (x0 : Addr) (x1 : Int32) : entryFrame m #[(.ref x0), (.int x1)] 3 = mkF m 0 #[.val (.ref x0), .val (.int x1), .unset] [] := by first | (simp [entryFrame, mkF, argsToLocals, Value.category]; done) | rfl
def Q12 (Z : State) (d0 : Addr) (u0 : Int32) (nl : Nat) (len : Nat) (g : Nat → Int64) (h0 : Heap) (n0 : Nat) (v : Option Value) (h : Heap) (L : List Loc) : Prop := ∃ b, v = some (.ref b) ∧ Fr n0 L ∧ Keep h0 h [] ∧ h0.size ≤ b ∧ own_JA Z h b (Int32.ofNat nl) g
set_option maxRecDepth 65536 in
set_option maxHeartbeats 40000000 in
theorem rm12 (l : Launch) (Z : State) (a0 : Array Value) (hw : ∀ d ∈ tables_1, d.before a0 Z = true) (ws : List Jvm.Cond) (d0 : Addr) (u0 : Int32) (nl : Nat) (len : Nat) (g : Nat → Int64) (h0 : Heap) (n0 : Nat) (Z0 : n0 ≤ h0.size) (hu0 : u0 = Int32.ofNat nl) (B_d0 : own_JA Z h0 d0 (Int32.ofNat len) g) (hlen : len ≤ 5) (hnl : nl ≤ len) (E_d0 : Exa Z h0 d0 "[J") :
    MetFree l (⟨"java/util/Arrays", "copyOf", "([JI)[J"⟩ : MethodName) (head1 (Jvm.Cond.code (⟨"java/util/Arrays", "copyOf", "([JI)[J"⟩ : MethodName) jdk_65_method_124_code 3 (some (.array .long)) :: ws) ({ frames := 1, cells := 1, slots := 5, locals := 18 } : Room)) (fun a U => a = #[(.ref d0), (.int u0)] ∧ Z.Warmed39 U.vm ∧ U.heap = h0) (fun _ _ _ _ _ => True) (fun _ U o U' => ∃ v L, o = .returned v ∧ Q12 Z d0 u0 nl len g h0 n0 v U'.heap L ∧ FrameEnd U o U' L ({ frames := 1, cells := 1, slots := 5, locals := 18 } : Room).cells ({ frames := 1, cells := 1, slots := 5, locals := 18 } : Room).slots) := by
  refine MetFree.of_bodySF (plainFor_of_name pn_java_util_Arrays) hisR ?_
  intro p e s m args below meth c s₁ Bd hml0 hP hK
  obtain ⟨rfl, hZ, hh⟩ := hP
  have hx := Bd.exec
  have hby := Bd.bytes
  have hlk : meth.locks = false := Bd.notSynchronized
  have hml : c.maxLocals = 3 := hml0
  have hown : s.vm.findClass "java/util/Arrays" = some m.cls := findClass_of_methodNamed Bd.named
  have hnm := (name_of_methodNamed Bd.named Bd.method).1
  have X0 : Stand p l e ({ frames := 1, cells := 1, slots := 5, locals := 18 } : Room) s m #[(.ref d0), (.int u0)] below meth c s₁ [] 0 0 := Stand.of_body Bd
  have e0 : s₁.heap = h0 := by rw [← hh, Bd.state]; rfl
  have N0 := Fr.nil n0
  have K0 : Keep h0 h0 [] := Keep.refl h0 _
  show Wp p e below (Out s (Q12 Z d0 u0 nl len g h0 n0) ({ frames := 1, cells := 1, slots := 5, locals := 18 } : Room).cells ({ frames := 1, cells := 1, slots := 5, locals := 18 } : Room).slots) (s₁.setTop (entryFrame m #[(.ref d0), (.int u0)] 3))
  rw [ef_12_00]
  subst hu0
  show Wp p e below _ (s₁.setTop (mkF m 0 #[.val (.ref d0), .val (.int (Int32.ofNat nl)), .unset] []))
  refine Wp.step (fun t k => XS.iloadN X0.here hx rfl (hb hby d12_0) rfl k) ?_
  show Wp p e below _ (s₁.setTop (mkF m 1 #[.val (.ref d0), .val (.int (Int32.ofNat nl)), .unset] [(.int (Int32.ofNat nl))]))
  refine Wp.step (fun t k => XS.aloadN X0.here hx rfl (hb hby d12_1) rfl rfl k) ?_
  show Wp p e below _ (s₁.setTop (mkF m 2 #[.val (.ref d0), .val (.int (Int32.ofNat nl)), .unset] [(.ref d0), (.int (Int32.ofNat nl))]))
  obtain ⟨cl1, Ar1, Sz1, Nn1, -⟩ := id B_d0
  refine Wp.step (X0.arraylength hx (by rw [e0]; exact Ar1.1) (State.isArrayOf_alike hZ.alike Ar1.2.1) (g := (mkF m 2 #[.val (.ref d0), .val (.int (Int32.ofNat nl)), .unset] [(.ref d0), (.int (Int32.ofNat nl))])) rfl rfl (hb hby d12_2)) ?_
  rw [len_of Sz1 Nn1]
  show Wp p e below _ (s₁.setTop (mkF m 3 #[.val (.ref d0), .val (.int (Int32.ofNat nl)), .unset] [(.int (Int32.ofNat len)), (.int (Int32.ofNat nl))]))
  by_cases hc2 : (Int32.ofNat nl) = (Int32.ofNat len)
  · have hc2n : nl = len := (own_eq (by omega) (by omega)).mp hc2
    refine Wp.step (fun t k => XS.icmpNo X0.here hx rfl (hb hby d12_3) rfl (teq hc2).2 k) ?_
    show Wp p e below _ (s₁.setTop (mkF m 6 #[.val (.ref d0), .val (.int (Int32.ofNat nl)), .unset] []))
    refine Wp.step (fun t k => XS.aloadN X0.here hx rfl (hb hby d12_6) rfl rfl k) ?_
    show Wp p e below _ (s₁.setTop (mkF m 7 #[.val (.ref d0), .val (.int (Int32.ofNat nl)), .unset] [(.ref d0)]))
    obtain ⟨T3, h3, X3, e3, E3, A3, Ex3, st3⟩ := own_cloneJ X0 hx hZ hown (hw _ (List.mem_of_getElem? (i := 60) rfl)) (hw _ (List.mem_of_getElem? (i := 61) rfl)) (hw _ (List.mem_of_getElem? (i := 65) rfl)) (hw _ (List.mem_of_getElem? (i := 63) rfl)) (hw _ (List.mem_of_getElem? (i := 64) rfl)) (hw _ (List.mem_of_getElem? (i := 66) rfl)) e0 B_d0 E_d0 (g := (mkF m 7 #[.val (.ref d0), .val (.int (Int32.ofNat nl)), .unset] [(.ref d0)])) rfl (by rw [hml]; rfl) rfl (hb hby d12_7) (by decide) (W := 0) (cap := 5) (by show 2 * 0 + _ ≤ _; exact Nat.le_of_eq rfl) (by decide) (by rw [own_nat (by omega)]; omega) (by decide) (by decide)
    obtain ⟨b3, g3⟩ : ∃ z, z = h0.size := ⟨_, rfl⟩
    rw [← g3] at A3 Ex3 st3
    have g_b3 : n0 ≤ b3 := Nat.le_trans (Nat.le_trans Z0 K0.1) (Nat.le_of_eq g3.symm)
    have sz_b3 : h0.size ≤ b3 := Nat.le_trans K0.1 (Nat.le_of_eq g3.symm)
    have ne_d0_b3 : d0 ≠ b3 := Nat.ne_of_lt (Nat.lt_of_lt_of_le E_d0.lt (Nat.le_of_eq g3.symm))
    have B4 := B_d0.ext E3
    have c5 := E_d0.ext E3
    have K6 := K0.ext E3
    refine Wp.step st3 ?_
    show Wp p e below _ (T3.setTop (mkF m 10 #[.val (.ref d0), .val (.int (Int32.ofNat nl)), .unset] [(.ref b3)]))
    obtain ⟨T7, X7, e7, st7⟩ := castY X3 hx hZ hown (hw _ (List.mem_of_getElem? (i := 67) rfl)) e3 (Ins.of_exa Ex3 (hw _ (List.mem_of_getElem? (i := 68) rfl))) (g := (mkF m 10 #[.val (.ref d0), .val (.int (Int32.ofNat nl)), .unset] [(.ref b3)])) rfl rfl (hb hby d12_10)
    refine Wp.step st7 ?_
    show Wp p e below _ (T7.setTop (mkF m 13 #[.val (.ref d0), .val (.int (Int32.ofNat nl)), .unset] [(.ref b3)]))
    refine Wp.retA X7 hx Bd.returns rfl (hb hby d12_13) hlk ?_ (by decide) (by decide)
    show Q12 Z d0 (Int32.ofNat nl) nl len g h0 n0 (some (.ref b3)) T7.heap _
    rw [e7]
    exact ⟨b3, rfl, N0, K6, sz_b3, (hc2n ▸ A3)⟩
  · have hc2n : ¬ (nl = len) := fun q => hc2 ((own_eq (by omega) (by omega)).mpr q)
    refine Wp.step (fun t k => XS.icmpYes X0.here hx rfl (pc0 := 3) (pc' := 14) rfl (hb hby d12_3) rfl (feq hc2).2 (by decide) (by decide) k) ?_
    show Wp p e below _ (s₁.setTop (mkF m 14 #[.val (.ref d0), .val (.int (Int32.ofNat nl)), .unset] []))
    refine Wp.step (fun t k => XS.iloadN X0.here hx rfl (hb hby d12_14) rfl k) ?_
    show Wp p e below _ (s₁.setTop (mkF m 15 #[.val (.ref d0), .val (.int (Int32.ofNat nl)), .unset] [(.int (Int32.ofNat nl))]))
    obtain ⟨T8, h8, k8, X8, e8, E8, A8, st8⟩ := newP X0 hx hZ (hw _ (List.mem_of_getElem? (i := 28) rfl)) e0 (g := (mkF m 15 #[.val (.ref d0), .val (.int (Int32.ofNat nl)), .unset] [(.int (Int32.ofNat nl))])) rfl (hb hby d12_15) rfl (own_nn (by omega)) (cap := 5) (by rw [own_nat (by omega)]; omega) (by decide) (by decide) (by decide)
    obtain ⟨b8, g8⟩ : ∃ z, z = h0.size := ⟨_, rfl⟩
    rw [← g8] at A8 st8
    have g_b8 : n0 ≤ b8 := Nat.le_trans (Nat.le_trans Z0 K0.1) (Nat.le_of_eq g8.symm)
    have sz_b8 : h0.size ≤ b8 := Nat.le_trans K0.1 (Nat.le_of_eq g8.symm)
    have ne_d0_b8 : d0 ≠ b8 := Nat.ne_of_lt (Nat.lt_of_lt_of_le E_d0.lt (Nat.le_of_eq g8.symm))
    have B9 := B_d0.ext E8
    have c10 := E_d0.ext E8
    have K11 := K0.ext E8
    have Z8 : (newA k8 .long (Int32.ofNat nl)).slots.size = ((Int32.ofNat nl)).toNatClampNeg := sz_new _ _ _
    have nn8 : ¬ (Int32.ofNat nl) < 0 := (own_nn (by omega))
    refine Wp.step st8 ?_
    have B8 := own_JA.new A8 nn8
    show Wp p e below _ (T8.setTop (mkF m 17 #[.val (.ref d0), .val (.int (Int32.ofNat nl)), .unset] [(.ref b8)]))
    refine Wp.step (fun t k => XS.astoreN X8.here hx rfl (hb hby d12_17) rfl rfl (l' := #[.val (.ref d0), .val (.int (Int32.ofNat nl)), .val (.ref b8)]) rfl k) ?_
    show Wp p e below _ (T8.setTop (mkF m 18 #[.val (.ref d0), .val (.int (Int32.ofNat nl)), .val (.ref b8)] []))
    refine Wp.step (fun t k => XS.aloadN X8.here hx rfl (hb hby d12_18) rfl rfl k) ?_
    show Wp p e below _ (T8.setTop (mkF m 19 #[.val (.ref d0), .val (.int (Int32.ofNat nl)), .val (.ref b8)] [(.ref d0)]))
    refine Wp.step (fun t k => XS.iconst X8.here hx rfl (hb hby d12_19) k) ?_
    show Wp p e below _ (T8.setTop (mkF m 20 #[.val (.ref d0), .val (.int (Int32.ofNat nl)), .val (.ref b8)] [(.int (0 : Int32)), (.ref d0)]))
    refine Wp.step (fun t k => XS.aloadN X8.here hx rfl (hb hby d12_20) rfl rfl k) ?_
    show Wp p e below _ (T8.setTop (mkF m 21 #[.val (.ref d0), .val (.int (Int32.ofNat nl)), .val (.ref b8)] [(.ref b8), (.int (0 : Int32)), (.ref d0)]))
    refine Wp.step (fun t k => XS.iconst X8.here hx rfl (hb hby d12_21) k) ?_
    show Wp p e below _ (T8.setTop (mkF m 22 #[.val (.ref d0), .val (.int (Int32.ofNat nl)), .val (.ref b8)] [(.int (0 : Int32)), (.ref b8), (.int (0 : Int32)), (.ref d0)]))
    refine Wp.step (fun t k => XS.aloadN X8.here hx rfl (hb hby d12_22) rfl rfl k) ?_
    show Wp p e below _ (T8.setTop (mkF m 23 #[.val (.ref d0), .val (.int (Int32.ofNat nl)), .val (.ref b8)] [(.ref d0), (.int (0 : Int32)), (.ref b8), (.int (0 : Int32)), (.ref d0)]))
    obtain ⟨cl12, Ar12, Sz12, Nn12, -⟩ := id B9
    refine Wp.step (X8.arraylength hx (by rw [e8]; exact Ar12.1) (State.isArrayOf_alike hZ.alike Ar12.2.1) (g := (mkF m 23 #[.val (.ref d0), .val (.int (Int32.ofNat nl)), .val (.ref b8)] [(.ref d0), (.int (0 : Int32)), (.ref b8), (.int (0 : Int32)), (.ref d0)])) rfl rfl (hb hby d12_23)) ?_
    rw [len_of Sz12 Nn12]
    show Wp p e below _ (T8.setTop (mkF m 24 #[.val (.ref d0), .val (.int (Int32.ofNat nl)), .val (.ref b8)] [(.int (Int32.ofNat len)), (.int (0 : Int32)), (.ref b8), (.int (0 : Int32)), (.ref d0)]))
    refine Wp.step (fun t k => XS.iloadN X8.here hx rfl (hb hby d12_24) rfl k) ?_
    show Wp p e below _ (T8.setTop (mkF m 25 #[.val (.ref d0), .val (.int (Int32.ofNat nl)), .val (.ref b8)] [(.int (Int32.ofNat nl)), (.int (Int32.ofNat len)), (.int (0 : Int32)), (.ref b8), (.int (0 : Int32)), (.ref d0)]))
    obtain ⟨_, _, ⟨T13, L13, k13, n13⟩, -, X13, ⟨Lc13, hQ13, l13, y13, z13⟩, st13⟩ := Jvm.LawKit.callS X8 hx (y := (⟨"java/lang/Math", "min", "(II)I"⟩ : MethodName)) hown (mvT hZ (hw _ (List.mem_of_getElem? (i := 33) rfl))) (mvT hZ (hw _ (List.mem_of_getElem? (i := 34) rfl))) (mvT hZ (hw _ (List.mem_of_getElem? (i := 35) rfl))) (mvT hZ (hw _ (List.mem_of_getElem? (i := 36) rfl))) (by decide) (backOf (W := 4) (rm6 l Z a0 hw [] (Int32.ofNat len) (Int32.ofNat nl) len nl h8 n0 (Nat.le_trans Z0 K11.1) rfl rfl (by omega) (by omega)) hZ (hw _ (List.mem_of_getElem? (i := 36) rfl)) (hw _ (List.mem_of_getElem? (i := 35) rfl)) (by decide) (by decide)) (g := (mkF m 25 #[.val (.ref d0), .val (.int (Int32.ofNat nl)), .val (.ref b8)] [(.int (Int32.ofNat nl)), (.int (Int32.ofNat len)), (.int (0 : Int32)), (.ref b8), (.int (0 : Int32)), (.ref d0)])) rfl (by rw [hml]; rfl) (argsL := [(.int (Int32.ofNat len)), (.int (Int32.ofNat nl))]) (rest := [(.int (0 : Int32)), (.ref b8), (.int (0 : Int32)), (.ref d0)]) (lenOf pd_28II29I rfl) rfl (by show 2 * 0 + _ ≤ _; exact Nat.le_of_eq rfl) (hb hby d12_25) (fun _ _ => ⟨rfl, e8, (by decide : 1 + 0 ≤ _), (by decide : 5 + 0 ≤ _)⟩)
    dsimp only [Pt.U, Pt.locs, Pt.cells, Pt.slots] at X13 l13 y13 z13 st13 hQ13
    subst l13 y13 z13
    obtain ⟨rfl, N13q, e13⟩ := hQ13
    have N13 := Fr.app N0 N13q
    refine Wp.step st13 ?_
    show Wp p e below _ (T13.setTop (mkF m 28 #[.val (.ref d0), .val (.int (Int32.ofNat nl)), .val (.ref b8)] [(.int (Int32.ofNat (min len nl))), (.int (0 : Int32)), (.ref b8), (.int (0 : Int32)), (.ref d0)]))
    obtain ⟨T14, h14, L14, X14, e14, N14, Kc14, B14, st14⟩ := own_cpJ X13 hx hZ hown (hw _ (List.mem_of_getElem? (i := 37) rfl)) (hw _ (List.mem_of_getElem? (i := 40) rfl)) (hw _ (List.mem_of_getElem? (i := 38) rfl)) (hw _ (List.mem_of_getElem? (i := 39) rfl)) e13 B9 B8 (by decide) (by decide) (own_nn (by omega)) (by rw [own_nat (by omega), own_nat (by omega)]; show 0 + _ ≤ _; omega) (by rw [own_nat (by omega), own_nat (by omega)]; show 0 + _ ≤ _; omega) N13 g_b8 (g := (mkF m 28 #[.val (.ref d0), .val (.int (Int32.ofNat nl)), .val (.ref b8)] [(.int (Int32.ofNat (min len nl))), (.int (0 : Int32)), (.ref b8), (.int (0 : Int32)), (.ref d0)])) rfl (by rw [hml]; rfl) rfl (hb hby d12_28) (by decide) (W := 0) (by show 2 * 0 + _ ≤ _; exact Nat.le_of_eq rfl) (by decide)
    have B15 := B9.keep Kc14 (ninS ne_d0_b8 nin0)
    have c16 := c10.keep Kc14
    have K14 := K11.trans Kc14 (allS (Or.inr sz_b8) all0)
    refine Wp.step st14 ?_
    show Wp p e below _ (T14.setTop (mkF m 31 #[.val (.ref d0), .val (.int (Int32.ofNat nl)), .val (.ref b8)] []))
    refine Wp.step (fun t k => XS.aloadN X14.here hx rfl (hb hby d12_31) rfl rfl k) ?_
    show Wp p e below _ (T14.setTop (mkF m 32 #[.val (.ref d0), .val (.int (Int32.ofNat nl)), .val (.ref b8)] [(.ref b8)]))
    refine Wp.retA X14 hx Bd.returns rfl (hb hby d12_32) hlk ?_ (by decide) (by decide)
    show Q12 Z d0 (Int32.ofNat nl) nl len g h0 n0 (some (.ref b8)) T14.heap _
    rw [e14]
    exact ⟨b8, rfl, N14, K14, sz_b8, (B14.cong fun i hi => own_copy0 (by rw [own_nat (by omega)] at hi ⊢; omega))⟩
theorem pd_285bII295bI : parseMethodDescriptor "([II)[I" = some ⟨[(.array .int), .int], some (.array .int)⟩ := by decide +kernel
theorem d4_0 : decode prog_15_method_10_code 0 = .ok (.iconst 0, 1) := by decide +kernel
theorem d4_1 : decode prog_15_method_10_code 1 = .ok (.istore 5, 2) := by decide +kernel
theorem d4_3 : decode prog_15_method_10_code 3 = .ok (.iload 5, 2) := by decide +kernel
theorem d4_5 : decode prog_15_method_10_code 5 = .ok (.iload_n 0, 1) := by decide +kernel
theorem d4_6 : decode prog_15_method_10_code 6 = .ok (.if_icmp .ge 22, 3) := by decide +kernel
theorem d4_9 : decode prog_15_method_10_code 9 = .ok (.aload 4, 2) := by decide +kernel
theorem d4_11 : decode prog_15_method_10_code 11 = .ok (.aload_n 1, 1) := by decide +kernel
theorem d4_12 : decode prog_15_method_10_code 12 = .ok (.iload 5, 2) := by decide +kernel
theorem d4_14 : decode prog_15_method_10_code 14 = .ok (.iaload, 1) := by decide +kernel
theorem d4_15 : decode prog_15_method_10_code 15 = .ok (.iconst 1, 1) := by decide +kernel
theorem d4_16 : decode prog_15_method_10_code 16 = .ok (.iadd, 1) := by decide +kernel
theorem d4_17 : decode prog_15_method_10_code 17 = .ok (.dup2, 1) := by decide +kernel
theorem d4_18 : decode prog_15_method_10_code 18 = .ok (.iaload, 1) := by decide +kernel
theorem d4_19 : decode prog_15_method_10_code 19 = .ok (.iconst 1, 1) := by decide +kernel
theorem d4_20 : decode prog_15_method_10_code 20 = .ok (.iadd, 1) := by decide +kernel
theorem d4_21 : decode prog_15_method_10_code 21 = .ok (.iastore, 1) := by decide +kernel
theorem d4_22 : decode prog_15_method_10_code 22 = .ok (.iinc 5 1, 3) := by decide +kernel
theorem d4_25 : decode prog_15_method_10_code 25 = .ok (.goto (-22), 3) := by decide +kernel
theorem d4_28 : decode prog_15_method_10_code 28 = .ok (.iconst 1, 1) := by decide +kernel
theorem d4_29 : decode prog_15_method_10_code 29 = .ok (.istore 5, 2) := by decide +kernel
theorem d4_31 : decode prog_15_method_10_code 31 = .ok (.iload 5, 2) := by decide +kernel
theorem d4_33 : decode prog_15_method_10_code 33 = .ok (.aload 4, 2) := by decide +kernel
theorem d4_35 : decode prog_15_method_10_code 35 = .ok (.arraylength, 1) := by decide +kernel
theorem d4_36 : decode prog_15_method_10_code 36 = .ok (.if_icmp .ge 24, 3) := by decide +kernel
theorem d4_39 : decode prog_15_method_10_code 39 = .ok (.aload 4, 2) := by decide +kernel
theorem d4_41 : decode prog_15_method_10_code 41 = .ok (.iload 5, 2) := by decide +kernel
theorem d4_43 : decode prog_15_method_10_code 43 = .ok (.dup2, 1) := by decide +kernel
theorem d4_44 : decode prog_15_method_10_code 44 = .ok (.iaload, 1) := by decide +kernel
theorem d4_45 : decode prog_15_method_10_code 45 = .ok (.aload 4, 2) := by decide +kernel
theorem d4_47 : decode prog_15_method_10_code 47 = .ok (.iload 5, 2) := by decide +kernel
theorem d4_49 : decode prog_15_method_10_code 49 = .ok (.iconst 1, 1) := by decide +kernel
theorem d4_50 : decode prog_15_method_10_code 50 = .ok (.isub, 1) := by decide +kernel
theorem d4_51 : decode prog_15_method_10_code 51 = .ok (.iaload, 1) := by decide +kernel
theorem d4_52 : decode prog_15_method_10_code 52 = .ok (.iadd, 1) := by decide +kernel
theorem d4_53 : decode prog_15_method_10_code 53 = .ok (.iastore, 1) := by decide +kernel
theorem d4_54 : decode prog_15_method_10_code 54 = .ok (.iinc 5 1, 3) := by decide +kernel
theorem d4_57 : decode prog_15_method_10_code 57 = .ok (.goto (-26), 3) := by decide +kernel
theorem d4_60 : decode prog_15_method_10_code 60 = .ok (.iload_n 0, 1) := by decide +kernel
theorem d4_61 : decode prog_15_method_10_code 61 = .ok (.newarray .long, 2) := by decide +kernel
theorem d4_63 : decode prog_15_method_10_code 63 = .ok (.astore 5, 2) := by decide +kernel
theorem d4_65 : decode prog_15_method_10_code 65 = .ok (.aload 4, 2) := by decide +kernel
theorem d4_67 : decode prog_15_method_10_code 67 = .ok (.aload 4, 2) := by decide +kernel
theorem d4_69 : decode prog_15_method_10_code 69 = .ok (.arraylength, 1) := by decide +kernel
theorem d4_70 : decode prog_15_method_10_code 70 = .ok (.iconst 1, 1) := by decide +kernel
theorem d4_71 : decode prog_15_method_10_code 71 = .ok (.isub, 1) := by decide +kernel
theorem d4_72 : decode prog_15_method_10_code 72 = .ok (.invokestatic 23, 3) := by decide +kernel
theorem d4_75 : decode prog_15_method_10_code 75 = .ok (.astore 6, 2) := by decide +kernel
theorem d4_77 : decode prog_15_method_10_code 77 = .ok (.iconst 0, 1) := by decide +kernel
theorem d4_78 : decode prog_15_method_10_code 78 = .ok (.istore 7, 2) := by decide +kernel
theorem d4_80 : decode prog_15_method_10_code 80 = .ok (.iload 7, 2) := by decide +kernel
theorem d4_82 : decode prog_15_method_10_code 82 = .ok (.iload_n 0, 1) := by decide +kernel
theorem d4_83 : decode prog_15_method_10_code 83 = .ok (.if_icmp .ge 38, 3) := by decide +kernel
theorem d4_86 : decode prog_15_method_10_code 86 = .ok (.aload 5, 2) := by decide +kernel
theorem d4_88 : decode prog_15_method_10_code 88 = .ok (.aload 6, 2) := by decide +kernel
theorem d4_90 : decode prog_15_method_10_code 90 = .ok (.aload_n 1, 1) := by decide +kernel
theorem d4_91 : decode prog_15_method_10_code 91 = .ok (.iload 7, 2) := by decide +kernel
theorem d4_93 : decode prog_15_method_10_code 93 = .ok (.iaload, 1) := by decide +kernel
theorem d4_94 : decode prog_15_method_10_code 94 = .ok (.dup2, 1) := by decide +kernel
theorem d4_95 : decode prog_15_method_10_code 95 = .ok (.iaload, 1) := by decide +kernel
theorem d4_96 : decode prog_15_method_10_code 96 = .ok (.dup_x2, 1) := by decide +kernel
theorem d4_97 : decode prog_15_method_10_code 97 = .ok (.iconst 1, 1) := by decide +kernel
theorem d4_98 : decode prog_15_method_10_code 98 = .ok (.iadd, 1) := by decide +kernel
theorem d4_99 : decode prog_15_method_10_code 99 = .ok (.iastore, 1) := by decide +kernel
theorem d4_100 : decode prog_15_method_10_code 100 = .ok (.aload_n 2, 1) := by decide +kernel
theorem d4_101 : decode prog_15_method_10_code 101 = .ok (.iload 7, 2) := by decide +kernel
theorem d4_103 : decode prog_15_method_10_code 103 = .ok (.iaload, 1) := by decide +kernel
theorem d4_104 : decode prog_15_method_10_code 104 = .ok (.i2l, 1) := by decide +kernel
theorem d4_105 : decode prog_15_method_10_code 105 = .ok (.bipush 32, 2) := by decide +kernel
theorem d4_107 : decode prog_15_method_10_code 107 = .ok (.lshl, 1) := by decide +kernel
theorem d4_108 : decode prog_15_method_10_code 108 = .ok (.aload_n 3, 1) := by decide +kernel
theorem d4_109 : decode prog_15_method_10_code 109 = .ok (.iload 7, 2) := by decide +kernel
theorem d4_111 : decode prog_15_method_10_code 111 = .ok (.iaload, 1) := by decide +kernel
theorem d4_112 : decode prog_15_method_10_code 112 = .ok (.i2l, 1) := by decide +kernel
theorem d4_113 : decode prog_15_method_10_code 113 = .ok (.lor, 1) := by decide +kernel
theorem d4_114 : decode prog_15_method_10_code 114 = .ok (.lastore, 1) := by decide +kernel
theorem d4_115 : decode prog_15_method_10_code 115 = .ok (.iinc 7 1, 3) := by decide +kernel
theorem d4_118 : decode prog_15_method_10_code 118 = .ok (.goto (-38), 3) := by decide +kernel
theorem d4_121 : decode prog_15_method_10_code 121 = .ok (.iconst 0, 1) := by decide +kernel
theorem d4_122 : decode prog_15_method_10_code 122 = .ok (.istore 7, 2) := by decide +kernel
theorem d4_124 : decode prog_15_method_10_code 124 = .ok (.iload 7, 2) := by decide +kernel
theorem d4_126 : decode prog_15_method_10_code 126 = .ok (.iconst 1, 1) := by decide +kernel
theorem d4_127 : decode prog_15_method_10_code 127 = .ok (.iadd, 1) := by decide +kernel
theorem d4_128 : decode prog_15_method_10_code 128 = .ok (.aload 4, 2) := by decide +kernel
theorem d4_130 : decode prog_15_method_10_code 130 = .ok (.arraylength, 1) := by decide +kernel
theorem d4_131 : decode prog_15_method_10_code 131 = .ok (.if_icmp .ge 26, 3) := by decide +kernel
theorem d4_134 : decode prog_15_method_10_code 134 = .ok (.aload 5, 2) := by decide +kernel
theorem d4_136 : decode prog_15_method_10_code 136 = .ok (.aload 4, 2) := by decide +kernel
theorem d4_138 : decode prog_15_method_10_code 138 = .ok (.iload 7, 2) := by decide +kernel
theorem d4_140 : decode prog_15_method_10_code 140 = .ok (.iaload, 1) := by decide +kernel
theorem d4_141 : decode prog_15_method_10_code 141 = .ok (.aload 4, 2) := by decide +kernel
theorem d4_143 : decode prog_15_method_10_code 143 = .ok (.iload 7, 2) := by decide +kernel
theorem d4_145 : decode prog_15_method_10_code 145 = .ok (.iconst 1, 1) := by decide +kernel
theorem d4_146 : decode prog_15_method_10_code 146 = .ok (.iadd, 1) := by decide +kernel
theorem d4_147 : decode prog_15_method_10_code 147 = .ok (.iaload, 1) := by decide +kernel
theorem d4_148 : decode prog_15_method_10_code 148 = .ok (.invokestatic 60, 3) := by decide +kernel
theorem d4_151 : decode prog_15_method_10_code 151 = .ok (.iinc 7 1, 3) := by decide +kernel
theorem d4_154 : decode prog_15_method_10_code 154 = .ok (.goto (-30), 3) := by decide +kernel
theorem d4_157 : decode prog_15_method_10_code 157 = .ok (.aload 5, 2) := by decide +kernel
theorem d4_159 : decode prog_15_method_10_code 159 = .ok (.areturn, 1) := by decide +kernel
theorem ef_4_00000 (m : MethodId) (x0 : Int32) (x1 : Addr) (x2 : Addr) (x3 : Addr) (x4 : Addr) : entryFrame m #[(.int x0), (.ref x1), (.ref x2), (.ref x3), (.ref x4)] 8 = mkF m 0 #[.val (.int x0), .val (.ref x1), .val (.ref x2), .val (.ref x3), .val (.ref x4), .unset, .unset, .unset] [] := by first | (simp [entryFrame, mkF, argsToLocals, Value.category]; done) | rfl
def Q4 (Z : State) (u0 : Int32) (d1 : Addr) (d2 : Addr) (d3 : Addr) (d4 : Addr) (cc : Nat) (nw : Nat) (ln : Nat) (K : Nat → Nat) (fa1 : Nat → Int32) (fa2 : Nat → Int32) (fa3 : Nat → Int32) (h0 : Heap) (n0 : Nat) (v : Option Value) (h : Heap) (L : List Loc) : Prop := ∃ b g, v = some (.ref b) ∧ Fr n0 L ∧ Keep h0 h [d4] ∧ h0.size ≤ b ∧ own_JA Z h b (Int32.ofNat cc) g ∧ Exa Z h b "[J" ∧ own_IA .int Z h d4 (Int32.ofNat (nw + 1)) (own_stI K cc) ∧ own_fin K (own_W fa2 fa3) cc nw g
set_option maxRecDepth 65536 in
set_option maxHeartbeats 40000000 in
theorem rm4 (l : Launch) (Z : State) (a0 : Array Value) (hw : ∀ d ∈ tables_1, d.before a0 Z = true) (ws : List Jvm.Cond) (u0 : Int32) (d1 : Addr) (d2 : Addr) (d3 : Addr) (d4 : Addr) (cc : Nat) (nw : Nat) (ln : Nat) (K : Nat → Nat) (fa1 : Nat → Int32) (fa2 : Nat → Int32) (fa3 : Nat → Int32) (h0 : Heap) (n0 : Nat) (Z0 : n0 ≤ h0.size) (hu0 : u0 = Int32.ofNat cc) (B_d1 : own_IA .int Z h0 d1 (Int32.ofNat ln) fa1) (B_d2 : own_IA .int Z h0 d2 (Int32.ofNat ln) fa2) (B_d3 : own_IA .int Z h0 d3 (Int32.ofNat ln) fa3) (B_d4 : own_IA .int Z h0 d4 (Int32.ofNat (nw + 1)) (fun _ => (0 : Int32))) (g_d4 : n0 ≤ d4) (ne_d1_d4 : d1 ≠ d4) (ne_d2_d4 : d2 ≠ d4) (ne_d3_d4 : d3 ≠ d4) (hcc : cc ≤ 4) (hnw : nw ≤ 4) (hln : cc ≤ ln) (hl2 : ln ≤ 1024) (hKK : ∀ i, i < cc → fa1 i = Int32.ofNat (K i) ∧ K i < nw) :
    MetFree l (⟨"com/example/erotema/erotema/model/ToldEdges", "sort", "(I[I[I[I[I)[J"⟩ : MethodName) (head1 (Jvm.Cond.code (⟨"com/example/erotema/erotema/model/ToldEdges", "sort", "(I[I[I[I[I)[J"⟩ : MethodName) prog_15_method_10_code 8 (some (.array .long)) :: ws) ({ frames := 4, cells := 2, slots := 10, locals := 86 } : Room)) (fun a U => a = #[(.int u0), (.ref d1), (.ref d2), (.ref d3), (.ref d4)] ∧ Z.Warmed39 U.vm ∧ U.heap = h0) (fun _ _ _ _ _ => True) (fun _ U o U' => ∃ v L, o = .returned v ∧ Q4 Z u0 d1 d2 d3 d4 cc nw ln K fa1 fa2 fa3 h0 n0 v U'.heap L ∧ FrameEnd U o U' L ({ frames := 4, cells := 2, slots := 10, locals := 86 } : Room).cells ({ frames := 4, cells := 2, slots := 10, locals := 86 } : Room).slots) := by
  refine MetFree.of_bodySF (plainFor_of_name pn_com_example_erotema_erotema_model_ToldEdges) hisR ?_
  intro p e s m args below meth c s₁ Bd hml0 hP hK
  obtain ⟨rfl, hZ, hh⟩ := hP
  have hx := Bd.exec
  have hby := Bd.bytes
  have hlk : meth.locks = false := Bd.notSynchronized
  have hml : c.maxLocals = 8 := hml0
  have hown : s.vm.findClass "com/example/erotema/erotema/model/ToldEdges" = some m.cls := findClass_of_methodNamed Bd.named
  have hnm := (name_of_methodNamed Bd.named Bd.method).1
  have X0 : Stand p l e ({ frames := 4, cells := 2, slots := 10, locals := 86 } : Room) s m #[(.int u0), (.ref d1), (.ref d2), (.ref d3), (.ref d4)] below meth c s₁ [] 0 0 := Stand.of_body Bd
  have e0 : s₁.heap = h0 := by rw [← hh, Bd.state]; rfl
  have N0 := Fr.nil n0
  have K0 : Keep h0 h0 [d4] := Keep.refl h0 _
  show Wp p e below (Out s (Q4 Z u0 d1 d2 d3 d4 cc nw ln K fa1 fa2 fa3 h0 n0) ({ frames := 4, cells := 2, slots := 10, locals := 86 } : Room).cells ({ frames := 4, cells := 2, slots := 10, locals := 86 } : Room).slots) (s₁.setTop (entryFrame m #[(.int u0), (.ref d1), (.ref d2), (.ref d3), (.ref d4)] 8))
  rw [ef_4_00000]
  subst hu0
  have hKn : ∀ i, i < cc → K i < nw := fun i hi => (hKK i hi).2
  show Wp p e below _ (s₁.setTop (mkF m 0 #[.val (.int (Int32.ofNat cc)), .val (.ref d1), .val (.ref d2), .val (.ref d3), .val (.ref d4), .unset, .unset, .unset] []))
  refine Wp.step (fun t k => XS.iconst X0.here hx rfl (hb hby d4_0) k) ?_
  show Wp p e below _ (s₁.setTop (mkF m 1 #[.val (.int (Int32.ofNat cc)), .val (.ref d1), .val (.ref d2), .val (.ref d3), .val (.ref d4), .unset, .unset, .unset] [(.int (0 : Int32))]))
  refine Wp.step (fun t k => XS.istore X0.here hx rfl (hb hby d4_1) rfl (l' := #[.val (.int (Int32.ofNat cc)), .val (.ref d1), .val (.ref d2), .val (.ref d3), .val (.ref d4), .val (.int (0 : Int32)), .unset, .unset]) rfl k) ?_
  show Wp p e below _ (s₁.setTop (mkF m 3 #[.val (.int (Int32.ofNat cc)), .val (.ref d1), .val (.ref d2), .val (.ref d3), .val (.ref d4), .val (.int (0 : Int32)), .unset, .unset] []))
  have Bz := B_d4
  rw [← own_f1_zero K] at Bz
  have loop1 : ∀ (f : Nat) (i : Nat) (hh_1 : Heap) (locs_1 : List Loc) (T_1 : State) (X_1 : Stand p l e ({ frames := 4, cells := 2, slots := 10, locals := 86 } : Room) s m #[(.int (Int32.ofNat cc)), (.ref d1), (.ref d2), (.ref d3), (.ref d4)] below meth c T_1 locs_1 0 0) (eT_1 : T_1.heap = hh_1) (NN_1 : Fr n0 locs_1) (KK_1 : Keep h0 hh_1 [d4]) (q0_1 : own_IA .int Z hh_1 d1 (Int32.ofNat ln) fa1) (q1_1 : own_IA .int Z hh_1 d2 (Int32.ofNat ln) fa2) (q2_1 : own_IA .int Z hh_1 d3 (Int32.ofNat ln) fa3) (q3_1 : own_IA .int Z hh_1 d4 (Int32.ofNat (nw + 1)) (own_f1 K i)) (hi1 : i ≤ cc) (hm : cc - i < f), Wp p e below (Out s (Q4 Z (Int32.ofNat cc) d1 d2 d3 d4 cc nw ln K fa1 fa2 fa3 h0 n0) ({ frames := 4, cells := 2, slots := 10, locals := 86 } : Room).cells ({ frames := 4, cells := 2, slots := 10, locals := 86 } : Room).slots) (T_1.setTop (mkF m 3 #[.val (.int (Int32.ofNat cc)), .val (.ref d1), .val (.ref d2), .val (.ref d3), .val (.ref d4), .val (.int (Int32.ofNat i)), .unset, .unset] [])) := by
    intro f
    induction f with
    | zero => intros; rename_i hm; exact absurd hm (Nat.not_lt_zero _)
    | succ f ih_1 =>
      intro i hh_1 locs_1 T_1 X_1 eT_1 NN_1 KK_1 q0_1 q1_1 q2_1 q3_1 hi1 hm
      show Wp p e below _ (T_1.setTop (mkF m 3 #[.val (.int (Int32.ofNat cc)), .val (.ref d1), .val (.ref d2), .val (.ref d3), .val (.ref d4), .val (.int (Int32.ofNat i)), .unset, .unset] []))
      refine Wp.step (fun t k => XS.iload X_1.here hx rfl (hb hby d4_3) rfl k) ?_
      show Wp p e below _ (T_1.setTop (mkF m 5 #[.val (.int (Int32.ofNat cc)), .val (.ref d1), .val (.ref d2), .val (.ref d3), .val (.ref d4), .val (.int (Int32.ofNat i)), .unset, .unset] [(.int (Int32.ofNat i))]))
      refine Wp.step (fun t k => XS.iloadN X_1.here hx rfl (hb hby d4_5) rfl k) ?_
      show Wp p e below _ (T_1.setTop (mkF m 6 #[.val (.int (Int32.ofNat cc)), .val (.ref d1), .val (.ref d2), .val (.ref d3), .val (.ref d4), .val (.int (Int32.ofNat i)), .unset, .unset] [(.int (Int32.ofNat cc)), (.int (Int32.ofNat i))]))
      by_cases hc2 : (Int32.ofNat i) < (Int32.ofNat cc)
      · have hc2n : i < cc := (own_lt (by omega) (by omega)).mp hc2
        have hKi := (hKK i (by omega)).2
        refine Wp.step (fun t k => XS.icmpNo X_1.here hx rfl (hb hby d4_6) rfl (tlt hc2).2.1 k) ?_
        show Wp p e below _ (T_1.setTop (mkF m 9 #[.val (.int (Int32.ofNat cc)), .val (.ref d1), .val (.ref d2), .val (.ref d3), .val (.ref d4), .val (.int (Int32.ofNat i)), .unset, .unset] []))
        refine Wp.step (fun t k => XS.aload X_1.here hx rfl (hb hby d4_9) rfl rfl k) ?_
        show Wp p e below _ (T_1.setTop (mkF m 11 #[.val (.int (Int32.ofNat cc)), .val (.ref d1), .val (.ref d2), .val (.ref d3), .val (.ref d4), .val (.int (Int32.ofNat i)), .unset, .unset] [(.ref d4)]))
        refine Wp.step (fun t k => XS.aloadN X_1.here hx rfl (hb hby d4_11) rfl rfl k) ?_
        show Wp p e below _ (T_1.setTop (mkF m 12 #[.val (.int (Int32.ofNat cc)), .val (.ref d1), .val (.ref d2), .val (.ref d3), .val (.ref d4), .val (.int (Int32.ofNat i)), .unset, .unset] [(.ref d1), (.ref d4)]))
        refine Wp.step (fun t k => XS.iload X_1.here hx rfl (hb hby d4_12) rfl k) ?_
        show Wp p e below _ (T_1.setTop (mkF m 14 #[.val (.int (Int32.ofNat cc)), .val (.ref d1), .val (.ref d2), .val (.ref d3), .val (.ref d4), .val (.int (Int32.ofNat i)), .unset, .unset] [(.int (Int32.ofNat i)), (.ref d1), (.ref d4)]))
        obtain ⟨cl3, Ar3, Sz3, Nn3, El3⟩ := id q0_1
        have hin3 : ¬ ((Int32.ofNat i) < 0 ∨ cl3.slots.size ≤ ((Int32.ofNat i)).toNatClampNeg) := inb_of Sz3 (own_inb (by omega) (by omega))
        have hat3 : cl3.slots[((Int32.ofNat i)).toNatClampNeg]? = some (.int (fa1 ((Int32.ofNat i)).toNatClampNeg)) := (El3 _ (by have q := Nat.lt_of_not_le fun q => hin3 (Or.inr q); rw [Sz3] at q; exact q)).1
        rw [show (fa1 ((Int32.ofNat i)).toNatClampNeg) = (fa1 i) from congrArg fa1 (own_nat (by omega))] at hat3
        rw [show (fa1 i) = (Int32.ofNat (K i)) from (hKK i (by omega)).1] at hat3
        refine Wp.step (X_1.iaload hx (j := (Int32.ofNat i)) (v := (.int (Int32.ofNat (K i)))) (by rw [eT_1]; exact Ar3.1) (State.isArrayOf_alike hZ.alike Ar3.2.1) Ar3.2.2 hin3 hat3 (g := (mkF m 14 #[.val (.int (Int32.ofNat cc)), .val (.ref d1), .val (.ref d2), .val (.ref d3), .val (.ref d4), .val (.int (Int32.ofNat i)), .unset, .unset] [(.int (Int32.ofNat i)), (.ref d1), (.ref d4)])) rfl rfl (hb hby d4_14)) ?_
        show Wp p e below _ (T_1.setTop (mkF m 15 #[.val (.int (Int32.ofNat cc)), .val (.ref d1), .val (.ref d2), .val (.ref d3), .val (.ref d4), .val (.int (Int32.ofNat i)), .unset, .unset] [(.int (Int32.ofNat (K i))), (.ref d4)]))
        refine Wp.step (fun t k => XS.iconst X_1.here hx rfl (hb hby d4_15) k) ?_
        show Wp p e below _ (T_1.setTop (mkF m 16 #[.val (.int (Int32.ofNat cc)), .val (.ref d1), .val (.ref d2), .val (.ref d3), .val (.ref d4), .val (.int (Int32.ofNat i)), .unset, .unset] [(.int (1 : Int32)), (.int (Int32.ofNat (K i))), (.ref d4)]))
        refine Wp.step (fun t k => XS.iadd X_1.here hx rfl (hb hby d4_16) rfl k) ?_
        show Wp p e below _ (T_1.setTop (mkF m 17 #[.val (.int (Int32.ofNat cc)), .val (.ref d1), .val (.ref d2), .val (.ref d3), .val (.ref d4), .val (.int (Int32.ofNat i)), .unset, .unset] [(.int ((Int32.ofNat (K i)) + (1 : Int32))), (.ref d4)]))
        rw [show ((Int32.ofNat (K i)) + (1 : Int32)) = (Int32.ofNat ((K i) + 1)) from own_succ _]
        refine Wp.step (own_dup2 X_1 hx (hb hby d4_17) rfl rfl) ?_
        show Wp p e below _ (T_1.setTop (mkF m 18 #[.val (.int (Int32.ofNat cc)), .val (.ref d1), .val (.ref d2), .val (.ref d3), .val (.ref d4), .val (.int (Int32.ofNat i)), .unset, .unset] [(.int (Int32.ofNat ((K i) + 1))), (.ref d4), (.int (Int32.ofNat ((K i) + 1))), (.ref d4)]))
        obtain ⟨cl4, Ar4, Sz4, Nn4, El4⟩ := id q3_1
        have hin4 : ¬ ((Int32.ofNat ((K i) + 1)) < 0 ∨ cl4.slots.size ≤ ((Int32.ofNat ((K i) + 1))).toNatClampNeg) := inb_of Sz4 (own_inb (by omega) (by omega))
        have hat4 : cl4.slots[((Int32.ofNat ((K i) + 1))).toNatClampNeg]? = some (.int ((own_f1 K i) ((Int32.ofNat ((K i) + 1))).toNatClampNeg)) := (El4 _ (by have q := Nat.lt_of_not_le fun q => hin4 (Or.inr q); rw [Sz4] at q; exact q)).1
        rw [show ((own_f1 K i) ((Int32.ofNat ((K i) + 1))).toNatClampNeg) = ((own_f1 K i) ((K i) + 1)) from congrArg (own_f1 K i) (own_nat (by omega))] at hat4
        refine Wp.step (X_1.iaload hx (j := (Int32.ofNat ((K i) + 1))) (v := (.int ((own_f1 K i) ((K i) + 1)))) (by rw [eT_1]; exact Ar4.1) (State.isArrayOf_alike hZ.alike Ar4.2.1) Ar4.2.2 hin4 hat4 (g := (mkF m 18 #[.val (.int (Int32.ofNat cc)), .val (.ref d1), .val (.ref d2), .val (.ref d3), .val (.ref d4), .val (.int (Int32.ofNat i)), .unset, .unset] [(.int (Int32.ofNat ((K i) + 1))), (.ref d4), (.int (Int32.ofNat ((K i) + 1))), (.ref d4)])) rfl rfl (hb hby d4_18)) ?_
        show Wp p e below _ (T_1.setTop (mkF m 19 #[.val (.int (Int32.ofNat cc)), .val (.ref d1), .val (.ref d2), .val (.ref d3), .val (.ref d4), .val (.int (Int32.ofNat i)), .unset, .unset] [(.int ((own_f1 K i) ((K i) + 1))), (.int (Int32.ofNat ((K i) + 1))), (.ref d4)]))
        refine Wp.step (fun t k => XS.iconst X_1.here hx rfl (hb hby d4_19) k) ?_
        show Wp p e below _ (T_1.setTop (mkF m 20 #[.val (.int (Int32.ofNat cc)), .val (.ref d1), .val (.ref d2), .val (.ref d3), .val (.ref d4), .val (.int (Int32.ofNat i)), .unset, .unset] [(.int (1 : Int32)), (.int ((own_f1 K i) ((K i) + 1))), (.int (Int32.ofNat ((K i) + 1))), (.ref d4)]))
        refine Wp.step (fun t k => XS.iadd X_1.here hx rfl (hb hby d4_20) rfl k) ?_
        show Wp p e below _ (T_1.setTop (mkF m 21 #[.val (.int (Int32.ofNat cc)), .val (.ref d1), .val (.ref d2), .val (.ref d3), .val (.ref d4), .val (.int (Int32.ofNat i)), .unset, .unset] [(.int (((own_f1 K i) ((K i) + 1)) + (1 : Int32))), (.int (Int32.ofNat ((K i) + 1))), (.ref d4)]))
        obtain ⟨cl5, Ar5, Sz5, Nn5, El5⟩ := id q3_1
        have hin5 : ¬ ((Int32.ofNat ((K i) + 1)) < 0 ∨ cl5.slots.size ≤ ((Int32.ofNat ((K i) + 1))).toNatClampNeg) := inb_of Sz5 (own_inb (by omega) (by omega))
        obtain ⟨T5, h5, X5, e5, W5, st5⟩ := stI X_1 hx hZ eT_1 Ar5 (j := (Int32.ofNat ((K i) + 1))) hin5 (g := (mkF m 21 #[.val (.int (Int32.ofNat cc)), .val (.ref d1), .val (.ref d2), .val (.ref d3), .val (.ref d4), .val (.int (Int32.ofNat i)), .unset, .unset] [(.int (((own_f1 K i) ((K i) + 1)) + (1 : Int32))), (.int (Int32.ofNat ((K i) + 1))), (.ref d4)])) rfl rfl (hb hby d4_21)
        have B6 := q0_1.other W5 ne_d1_d4
        have B7 := q1_1.other W5 ne_d2_d4
        have B8 := q2_1.other W5 ne_d3_d4
        have K9 := KK_1.wr W5 (Or.inl (List.mem_of_getElem? (i := 0) rfl))
        have N5 := Fr.snoc X5 NN_1 g_d4
        have B5 := own_IA.set Ar5 Sz5 Nn5 El5 W5 rfl
        rw [own_nat (a := ((K i) + 1)) (by omega)] at B5
        refine Wp.step st5 ?_
        show Wp p e below _ (T5.setTop (mkF m 22 #[.val (.int (Int32.ofNat cc)), .val (.ref d1), .val (.ref d2), .val (.ref d3), .val (.ref d4), .val (.int (Int32.ofNat i)), .unset, .unset] []))
        refine Wp.step (fun t k => XS.iinc X5.here hx rfl (hb hby d4_22) rfl (l' := #[.val (.int (Int32.ofNat cc)), .val (.ref d1), .val (.ref d2), .val (.ref d3), .val (.ref d4), .val (.int ((Int32.ofNat i) + (1 : Int32))), .unset, .unset]) rfl k) ?_
        show Wp p e below _ (T5.setTop (mkF m 25 #[.val (.int (Int32.ofNat cc)), .val (.ref d1), .val (.ref d2), .val (.ref d3), .val (.ref d4), .val (.int ((Int32.ofNat i) + (1 : Int32))), .unset, .unset] []))
        rw [show ((Int32.ofNat i) + (1 : Int32)) = (Int32.ofNat (i + 1)) from own_succ _]
        refine Wp.step (fun t k => XS.goto X5.here hx rfl (pc0 := 25) (pc' := 3) rfl (hb hby d4_25) (by decide) (by decide) k) ?_
        show Wp p e below _ (T5.setTop (mkF m 3 #[.val (.int (Int32.ofNat cc)), .val (.ref d1), .val (.ref d2), .val (.ref d3), .val (.ref d4), .val (.int (Int32.ofNat (i + 1))), .unset, .unset] []))
        rw [own_f1_step] at B5
        exact ih_1 (i + 1) _ _ T5 X5 e5 N5 K9 B6 B7 B8 B5 (by omega) (by omega)
      · have hc2n : ¬ (i < cc) := fun q => hc2 ((own_lt (by omega) (by omega)).mpr q)
        refine Wp.step (fun t k => XS.icmpYes X_1.here hx rfl (pc0 := 6) (pc' := 28) rfl (hb hby d4_6) rfl (flt hc2).2.1 (by decide) (by decide) k) ?_
        show Wp p e below _ (T_1.setTop (mkF m 28 #[.val (.int (Int32.ofNat cc)), .val (.ref d1), .val (.ref d2), .val (.ref d3), .val (.ref d4), .val (.int (Int32.ofNat i)), .unset, .unset] []))
        refine Wp.step (fun t k => XS.iconst X_1.here hx rfl (hb hby d4_28) k) ?_
        show Wp p e below _ (T_1.setTop (mkF m 29 #[.val (.int (Int32.ofNat cc)), .val (.ref d1), .val (.ref d2), .val (.ref d3), .val (.ref d4), .val (.int (Int32.ofNat i)), .unset, .unset] [(.int (1 : Int32))]))
        refine Wp.step (fun t k => XS.istore X_1.here hx rfl (hb hby d4_29) rfl (l' := #[.val (.int (Int32.ofNat cc)), .val (.ref d1), .val (.ref d2), .val (.ref d3), .val (.ref d4), .val (.int (1 : Int32)), .unset, .unset]) rfl k) ?_
        show Wp p e below _ (T_1.setTop (mkF m 31 #[.val (.int (Int32.ofNat cc)), .val (.ref d1), .val (.ref d2), .val (.ref d3), .val (.ref d4), .val (.int (1 : Int32)), .unset, .unset] []))
        have ei : i = cc := by omega
        have Bz2 := q3_1
        rw [ei, ← own_f2_start] at Bz2
        have loop10 : ∀ (f : Nat) (j : Nat) (hh_10 : Heap) (locs_10 : List Loc) (T_10 : State) (X_10 : Stand p l e ({ frames := 4, cells := 2, slots := 10, locals := 86 } : Room) s m #[(.int (Int32.ofNat cc)), (.ref d1), (.ref d2), (.ref d3), (.ref d4)] below meth c T_10 locs_10 0 0) (eT_10 : T_10.heap = hh_10) (NN_10 : Fr n0 locs_10) (KK_10 : Keep h0 hh_10 [d4]) (q0_10 : own_IA .int Z hh_10 d1 (Int32.ofNat ln) fa1) (q1_10 : own_IA .int Z hh_10 d2 (Int32.ofNat ln) fa2) (q2_10 : own_IA .int Z hh_10 d3 (Int32.ofNat ln) fa3) (q3_10 : own_IA .int Z hh_10 d4 (Int32.ofNat (nw + 1)) (own_f2 K cc j)) (hj1 : 1 ≤ j) (hj2 : j ≤ nw + 1) (hm : nw + 1 - j < f), Wp p e below (Out s (Q4 Z (Int32.ofNat cc) d1 d2 d3 d4 cc nw ln K fa1 fa2 fa3 h0 n0) ({ frames := 4, cells := 2, slots := 10, locals := 86 } : Room).cells ({ frames := 4, cells := 2, slots := 10, locals := 86 } : Room).slots) (T_10.setTop (mkF m 31 #[.val (.int (Int32.ofNat cc)), .val (.ref d1), .val (.ref d2), .val (.ref d3), .val (.ref d4), .val (.int (Int32.ofNat j)), .unset, .unset] [])) := by
          intro f
          induction f with
          | zero => intros; rename_i hm; exact absurd hm (Nat.not_lt_zero _)
          | succ f ih_10 =>
            intro j hh_10 locs_10 T_10 X_10 eT_10 NN_10 KK_10 q0_10 q1_10 q2_10 q3_10 hj1 hj2 hm
            show Wp p e below _ (T_10.setTop (mkF m 31 #[.val (.int (Int32.ofNat cc)), .val (.ref d1), .val (.ref d2), .val (.ref d3), .val (.ref d4), .val (.int (Int32.ofNat j)), .unset, .unset] []))
            refine Wp.step (fun t k => XS.iload X_10.here hx rfl (hb hby d4_31) rfl k) ?_
            show Wp p e below _ (T_10.setTop (mkF m 33 #[.val (.int (Int32.ofNat cc)), .val (.ref d1), .val (.ref d2), .val (.ref d3), .val (.ref d4), .val (.int (Int32.ofNat j)), .unset, .unset] [(.int (Int32.ofNat j))]))
            refine Wp.step (fun t k => XS.aload X_10.here hx rfl (hb hby d4_33) rfl rfl k) ?_
            show Wp p e below _ (T_10.setTop (mkF m 35 #[.val (.int (Int32.ofNat cc)), .val (.ref d1), .val (.ref d2), .val (.ref d3), .val (.ref d4), .val (.int (Int32.ofNat j)), .unset, .unset] [(.ref d4), (.int (Int32.ofNat j))]))
            obtain ⟨cl11, Ar11, Sz11, Nn11, -⟩ := id q3_10
            refine Wp.step (X_10.arraylength hx (by rw [eT_10]; exact Ar11.1) (State.isArrayOf_alike hZ.alike Ar11.2.1) (g := (mkF m 35 #[.val (.int (Int32.ofNat cc)), .val (.ref d1), .val (.ref d2), .val (.ref d3), .val (.ref d4), .val (.int (Int32.ofNat j)), .unset, .unset] [(.ref d4), (.int (Int32.ofNat j))])) rfl rfl (hb hby d4_35)) ?_
            rw [len_of Sz11 Nn11]
            show Wp p e below _ (T_10.setTop (mkF m 36 #[.val (.int (Int32.ofNat cc)), .val (.ref d1), .val (.ref d2), .val (.ref d3), .val (.ref d4), .val (.int (Int32.ofNat j)), .unset, .unset] [(.int (Int32.ofNat (nw + 1))), (.int (Int32.ofNat j))]))
            by_cases hc12 : (Int32.ofNat j) < (Int32.ofNat (nw + 1))
            · have hc12n : j < (nw + 1) := (own_lt (by omega) (by omega)).mp hc12
              refine Wp.step (fun t k => XS.icmpNo X_10.here hx rfl (hb hby d4_36) rfl (tlt hc12).2.1 k) ?_
              show Wp p e below _ (T_10.setTop (mkF m 39 #[.val (.int (Int32.ofNat cc)), .val (.ref d1), .val (.ref d2), .val (.ref d3), .val (.ref d4), .val (.int (Int32.ofNat j)), .unset, .unset] []))
              refine Wp.step (fun t k => XS.aload X_10.here hx rfl (hb hby d4_39) rfl rfl k) ?_
              show Wp p e below _ (T_10.setTop (mkF m 41 #[.val (.int (Int32.ofNat cc)), .val (.ref d1), .val (.ref d2), .val (.ref d3), .val (.ref d4), .val (.int (Int32.ofNat j)), .unset, .unset] [(.ref d4)]))
              refine Wp.step (fun t k => XS.iload X_10.here hx rfl (hb hby d4_41) rfl k) ?_
              show Wp p e below _ (T_10.setTop (mkF m 43 #[.val (.int (Int32.ofNat cc)), .val (.ref d1), .val (.ref d2), .val (.ref d3), .val (.ref d4), .val (.int (Int32.ofNat j)), .unset, .unset] [(.int (Int32.ofNat j)), (.ref d4)]))
              refine Wp.step (own_dup2 X_10 hx (hb hby d4_43) rfl rfl) ?_
              show Wp p e below _ (T_10.setTop (mkF m 44 #[.val (.int (Int32.ofNat cc)), .val (.ref d1), .val (.ref d2), .val (.ref d3), .val (.ref d4), .val (.int (Int32.ofNat j)), .unset, .unset] [(.int (Int32.ofNat j)), (.ref d4), (.int (Int32.ofNat j)), (.ref d4)]))
              obtain ⟨cl13, Ar13, Sz13, Nn13, El13⟩ := id q3_10
              have hin13 : ¬ ((Int32.ofNat j) < 0 ∨ cl13.slots.size ≤ ((Int32.ofNat j)).toNatClampNeg) := inb_of Sz13 (own_inb (by omega) (by omega))
              have hat13 : cl13.slots[((Int32.ofNat j)).toNatClampNeg]? = some (.int ((own_f2 K cc j) ((Int32.ofNat j)).toNatClampNeg)) := (El13 _ (by have q := Nat.lt_of_not_le fun q => hin13 (Or.inr q); rw [Sz13] at q; exact q)).1
              rw [show ((own_f2 K cc j) ((Int32.ofNat j)).toNatClampNeg) = ((own_f2 K cc j) j) from congrArg (own_f2 K cc j) (own_nat (by omega))] at hat13
              refine Wp.step (X_10.iaload hx (j := (Int32.ofNat j)) (v := (.int ((own_f2 K cc j) j))) (by rw [eT_10]; exact Ar13.1) (State.isArrayOf_alike hZ.alike Ar13.2.1) Ar13.2.2 hin13 hat13 (g := (mkF m 44 #[.val (.int (Int32.ofNat cc)), .val (.ref d1), .val (.ref d2), .val (.ref d3), .val (.ref d4), .val (.int (Int32.ofNat j)), .unset, .unset] [(.int (Int32.ofNat j)), (.ref d4), (.int (Int32.ofNat j)), (.ref d4)])) rfl rfl (hb hby d4_44)) ?_
              show Wp p e below _ (T_10.setTop (mkF m 45 #[.val (.int (Int32.ofNat cc)), .val (.ref d1), .val (.ref d2), .val (.ref d3), .val (.ref d4), .val (.int (Int32.ofNat j)), .unset, .unset] [(.int ((own_f2 K cc j) j)), (.int (Int32.ofNat j)), (.ref d4)]))
              refine Wp.step (fun t k => XS.aload X_10.here hx rfl (hb hby d4_45) rfl rfl k) ?_
              show Wp p e below _ (T_10.setTop (mkF m 47 #[.val (.int (Int32.ofNat cc)), .val (.ref d1), .val (.ref d2), .val (.ref d3), .val (.ref d4), .val (.int (Int32.ofNat j)), .unset, .unset] [(.ref d4), (.int ((own_f2 K cc j) j)), (.int (Int32.ofNat j)), (.ref d4)]))
              refine Wp.step (fun t k => XS.iload X_10.here hx rfl (hb hby d4_47) rfl k) ?_
              show Wp p e below _ (T_10.setTop (mkF m 49 #[.val (.int (Int32.ofNat cc)), .val (.ref d1), .val (.ref d2), .val (.ref d3), .val (.ref d4), .val (.int (Int32.ofNat j)), .unset, .unset] [(.int (Int32.ofNat j)), (.ref d4), (.int ((own_f2 K cc j) j)), (.int (Int32.ofNat j)), (.ref d4)]))
              refine Wp.step (fun t k => XS.iconst X_10.here hx rfl (hb hby d4_49) k) ?_
              show Wp p e below _ (T_10.setTop (mkF m 50 #[.val (.int (Int32.ofNat cc)), .val (.ref d1), .val (.ref d2), .val (.ref d3), .val (.ref d4), .val (.int (Int32.ofNat j)), .unset, .unset] [(.int (1 : Int32)), (.int (Int32.ofNat j)), (.ref d4), (.int ((own_f2 K cc j) j)), (.int (Int32.ofNat j)), (.ref d4)]))
              refine Wp.step (fun t k => XS.isub X_10.here hx rfl (hb hby d4_50) rfl k) ?_
              show Wp p e below _ (T_10.setTop (mkF m 51 #[.val (.int (Int32.ofNat cc)), .val (.ref d1), .val (.ref d2), .val (.ref d3), .val (.ref d4), .val (.int (Int32.ofNat j)), .unset, .unset] [(.int ((Int32.ofNat j) - (1 : Int32))), (.ref d4), (.int ((own_f2 K cc j) j)), (.int (Int32.ofNat j)), (.ref d4)]))
              rw [show ((Int32.ofNat j) - (1 : Int32)) = (Int32.ofNat (j - 1)) from own_pred (by omega)]
              obtain ⟨cl14, Ar14, Sz14, Nn14, El14⟩ := id q3_10
              have hin14 : ¬ ((Int32.ofNat (j - 1)) < 0 ∨ cl14.slots.size ≤ ((Int32.ofNat (j - 1))).toNatClampNeg) := inb_of Sz14 (own_inb (by omega) (by omega))
              have hat14 : cl14.slots[((Int32.ofNat (j - 1))).toNatClampNeg]? = some (.int ((own_f2 K cc j) ((Int32.ofNat (j - 1))).toNatClampNeg)) := (El14 _ (by have q := Nat.lt_of_not_le fun q => hin14 (Or.inr q); rw [Sz14] at q; exact q)).1
              rw [show ((own_f2 K cc j) ((Int32.ofNat (j - 1))).toNatClampNeg) = ((own_f2 K cc j) (j - 1)) from congrArg (own_f2 K cc j) (own_nat (by omega))] at hat14
              refine Wp.step (X_10.iaload hx (j := (Int32.ofNat (j - 1))) (v := (.int ((own_f2 K cc j) (j - 1)))) (by rw [eT_10]; exact Ar14.1) (State.isArrayOf_alike hZ.alike Ar14.2.1) Ar14.2.2 hin14 hat14 (g := (mkF m 51 #[.val (.int (Int32.ofNat cc)), .val (.ref d1), .val (.ref d2), .val (.ref d3), .val (.ref d4), .val (.int (Int32.ofNat j)), .unset, .unset] [(.int (Int32.ofNat (j - 1))), (.ref d4), (.int ((own_f2 K cc j) j)), (.int (Int32.ofNat j)), (.ref d4)])) rfl rfl (hb hby d4_51)) ?_
              show Wp p e below _ (T_10.setTop (mkF m 52 #[.val (.int (Int32.ofNat cc)), .val (.ref d1), .val (.ref d2), .val (.ref d3), .val (.ref d4), .val (.int (Int32.ofNat j)), .unset, .unset] [(.int ((own_f2 K cc j) (j - 1))), (.int ((own_f2 K cc j) j)), (.int (Int32.ofNat j)), (.ref d4)]))
              refine Wp.step (fun t k => XS.iadd X_10.here hx rfl (hb hby d4_52) rfl k) ?_
              show Wp p e below _ (T_10.setTop (mkF m 53 #[.val (.int (Int32.ofNat cc)), .val (.ref d1), .val (.ref d2), .val (.ref d3), .val (.ref d4), .val (.int (Int32.ofNat j)), .unset, .unset] [(.int (((own_f2 K cc j) j) + ((own_f2 K cc j) (j - 1)))), (.int (Int32.ofNat j)), (.ref d4)]))
              obtain ⟨cl15, Ar15, Sz15, Nn15, El15⟩ := id q3_10
              have hin15 : ¬ ((Int32.ofNat j) < 0 ∨ cl15.slots.size ≤ ((Int32.ofNat j)).toNatClampNeg) := inb_of Sz15 (own_inb (by omega) (by omega))
              obtain ⟨T15, h15, X15, e15, W15, st15⟩ := stI X_10 hx hZ eT_10 Ar15 (j := (Int32.ofNat j)) hin15 (g := (mkF m 53 #[.val (.int (Int32.ofNat cc)), .val (.ref d1), .val (.ref d2), .val (.ref d3), .val (.ref d4), .val (.int (Int32.ofNat j)), .unset, .unset] [(.int (((own_f2 K cc j) j) + ((own_f2 K cc j) (j - 1)))), (.int (Int32.ofNat j)), (.ref d4)])) rfl rfl (hb hby d4_53)
              have B16 := q0_10.other W15 ne_d1_d4
              have B17 := q1_10.other W15 ne_d2_d4
              have B18 := q2_10.other W15 ne_d3_d4
              have K19 := KK_10.wr W15 (Or.inl (List.mem_of_getElem? (i := 0) rfl))
              have N15 := Fr.snoc X15 NN_10 g_d4
              have B15 := own_IA.set Ar15 Sz15 Nn15 El15 W15 rfl
              rw [own_nat (a := j) (by omega)] at B15
              refine Wp.step st15 ?_
              show Wp p e below _ (T15.setTop (mkF m 54 #[.val (.int (Int32.ofNat cc)), .val (.ref d1), .val (.ref d2), .val (.ref d3), .val (.ref d4), .val (.int (Int32.ofNat j)), .unset, .unset] []))
              refine Wp.step (fun t k => XS.iinc X15.here hx rfl (hb hby d4_54) rfl (l' := #[.val (.int (Int32.ofNat cc)), .val (.ref d1), .val (.ref d2), .val (.ref d3), .val (.ref d4), .val (.int ((Int32.ofNat j) + (1 : Int32))), .unset, .unset]) rfl k) ?_
              show Wp p e below _ (T15.setTop (mkF m 57 #[.val (.int (Int32.ofNat cc)), .val (.ref d1), .val (.ref d2), .val (.ref d3), .val (.ref d4), .val (.int ((Int32.ofNat j) + (1 : Int32))), .unset, .unset] []))
              rw [show ((Int32.ofNat j) + (1 : Int32)) = (Int32.ofNat (j + 1)) from own_succ _]
              refine Wp.step (fun t k => XS.goto X15.here hx rfl (pc0 := 57) (pc' := 31) rfl (hb hby d4_57) (by decide) (by decide) k) ?_
              show Wp p e below _ (T15.setTop (mkF m 31 #[.val (.int (Int32.ofNat cc)), .val (.ref d1), .val (.ref d2), .val (.ref d3), .val (.ref d4), .val (.int (Int32.ofNat (j + 1))), .unset, .unset] []))
              rw [own_f2_step K cc j (by omega)] at B15
              exact ih_10 (j + 1) _ _ T15 X15 e15 N15 K19 B16 B17 B18 B15 (by omega) (by omega) (by omega)
            · have hc12n : ¬ (j < (nw + 1)) := fun q => hc12 ((own_lt (by omega) (by omega)).mpr q)
              refine Wp.step (fun t k => XS.icmpYes X_10.here hx rfl (pc0 := 36) (pc' := 60) rfl (hb hby d4_36) rfl (flt hc12).2.1 (by decide) (by decide) k) ?_
              show Wp p e below _ (T_10.setTop (mkF m 60 #[.val (.int (Int32.ofNat cc)), .val (.ref d1), .val (.ref d2), .val (.ref d3), .val (.ref d4), .val (.int (Int32.ofNat j)), .unset, .unset] []))
              have Bst := own_IA.cong (g' := own_stI K cc) q3_10 (fun v hv => own_f2_end K cc j v (by rw [own_nat (by omega)] at hv; omega))
              refine Wp.step (fun t k => XS.iloadN X_10.here hx rfl (hb hby d4_60) rfl k) ?_
              show Wp p e below _ (T_10.setTop (mkF m 61 #[.val (.int (Int32.ofNat cc)), .val (.ref d1), .val (.ref d2), .val (.ref d3), .val (.ref d4), .val (.int (Int32.ofNat j)), .unset, .unset] [(.int (Int32.ofNat cc))]))
              obtain ⟨T20, h20, k20, X20, e20, E20, A20, Ex20, st20⟩ := newPE X_10 hx hZ (hw _ (List.mem_of_getElem? (i := 28) rfl)) eT_10 (g := (mkF m 61 #[.val (.int (Int32.ofNat cc)), .val (.ref d1), .val (.ref d2), .val (.ref d3), .val (.ref d4), .val (.int (Int32.ofNat j)), .unset, .unset] [(.int (Int32.ofNat cc))])) rfl (hb hby d4_61) rfl (own_nn (by omega)) (cap := 5) (by rw [own_nat (by omega)]; omega) (by decide) (by decide) (by decide) (ad := "[J") rfl
              obtain ⟨b20, g20⟩ : ∃ z, z = hh_10.size := ⟨_, rfl⟩
              rw [← g20] at A20 Ex20 st20
              have g_b20 : n0 ≤ b20 := Nat.le_trans (Nat.le_trans Z0 KK_10.1) (Nat.le_of_eq g20.symm)
              have sz_b20 : h0.size ≤ b20 := Nat.le_trans KK_10.1 (Nat.le_of_eq g20.symm)
              have ne_d1_b20 : d1 ≠ b20 := Nat.ne_of_lt (Nat.lt_of_lt_of_le q0_10.lt (Nat.le_of_eq g20.symm))
              have ne_d2_b20 : d2 ≠ b20 := Nat.ne_of_lt (Nat.lt_of_lt_of_le q1_10.lt (Nat.le_of_eq g20.symm))
              have ne_d3_b20 : d3 ≠ b20 := Nat.ne_of_lt (Nat.lt_of_lt_of_le q2_10.lt (Nat.le_of_eq g20.symm))
              have ne_d4_b20 : d4 ≠ b20 := Nat.ne_of_lt (Nat.lt_of_lt_of_le Bst.lt (Nat.le_of_eq g20.symm))
              have B21 := q0_10.ext E20
              have B22 := q1_10.ext E20
              have B23 := q2_10.ext E20
              have B24 := Bst.ext E20
              have K25 := KK_10.ext E20
              have Z20 : (newA k20 .long (Int32.ofNat cc)).slots.size = ((Int32.ofNat cc)).toNatClampNeg := sz_new _ _ _
              have nn20 : ¬ (Int32.ofNat cc) < 0 := (own_nn (by omega))
              refine Wp.step st20 ?_
              have B20 := own_JA.new A20 nn20
              show Wp p e below _ (T20.setTop (mkF m 63 #[.val (.int (Int32.ofNat cc)), .val (.ref d1), .val (.ref d2), .val (.ref d3), .val (.ref d4), .val (.int (Int32.ofNat j)), .unset, .unset] [(.ref b20)]))
              refine Wp.step (fun t k => XS.astore X20.here hx rfl (hb hby d4_63) rfl rfl (l' := #[.val (.int (Int32.ofNat cc)), .val (.ref d1), .val (.ref d2), .val (.ref d3), .val (.ref d4), .val (.ref b20), .unset, .unset]) rfl k) ?_
              show Wp p e below _ (T20.setTop (mkF m 65 #[.val (.int (Int32.ofNat cc)), .val (.ref d1), .val (.ref d2), .val (.ref d3), .val (.ref d4), .val (.ref b20), .unset, .unset] []))
              refine Wp.step (fun t k => XS.aload X20.here hx rfl (hb hby d4_65) rfl rfl k) ?_
              show Wp p e below _ (T20.setTop (mkF m 67 #[.val (.int (Int32.ofNat cc)), .val (.ref d1), .val (.ref d2), .val (.ref d3), .val (.ref d4), .val (.ref b20), .unset, .unset] [(.ref d4)]))
              refine Wp.step (fun t k => XS.aload X20.here hx rfl (hb hby d4_67) rfl rfl k) ?_
              show Wp p e below _ (T20.setTop (mkF m 69 #[.val (.int (Int32.ofNat cc)), .val (.ref d1), .val (.ref d2), .val (.ref d3), .val (.ref d4), .val (.ref b20), .unset, .unset] [(.ref d4), (.ref d4)]))
              obtain ⟨cl26, Ar26, Sz26, Nn26, -⟩ := id B24
              refine Wp.step (X20.arraylength hx (by rw [e20]; exact Ar26.1) (State.isArrayOf_alike hZ.alike Ar26.2.1) (g := (mkF m 69 #[.val (.int (Int32.ofNat cc)), .val (.ref d1), .val (.ref d2), .val (.ref d3), .val (.ref d4), .val (.ref b20), .unset, .unset] [(.ref d4), (.ref d4)])) rfl rfl (hb hby d4_69)) ?_
              rw [len_of Sz26 Nn26]
              show Wp p e below _ (T20.setTop (mkF m 70 #[.val (.int (Int32.ofNat cc)), .val (.ref d1), .val (.ref d2), .val (.ref d3), .val (.ref d4), .val (.ref b20), .unset, .unset] [(.int (Int32.ofNat (nw + 1))), (.ref d4)]))
              refine Wp.step (fun t k => XS.iconst X20.here hx rfl (hb hby d4_70) k) ?_
              show Wp p e below _ (T20.setTop (mkF m 71 #[.val (.int (Int32.ofNat cc)), .val (.ref d1), .val (.ref d2), .val (.ref d3), .val (.ref d4), .val (.ref b20), .unset, .unset] [(.int (1 : Int32)), (.int (Int32.ofNat (nw + 1))), (.ref d4)]))
              refine Wp.step (fun t k => XS.isub X20.here hx rfl (hb hby d4_71) rfl k) ?_
              show Wp p e below _ (T20.setTop (mkF m 72 #[.val (.int (Int32.ofNat cc)), .val (.ref d1), .val (.ref d2), .val (.ref d3), .val (.ref d4), .val (.ref b20), .unset, .unset] [(.int ((Int32.ofNat (nw + 1)) - (1 : Int32))), (.ref d4)]))
              rw [show ((Int32.ofNat (nw + 1)) - (1 : Int32)) = (Int32.ofNat nw) from own_pred']
              obtain ⟨_, _, ⟨T27, L27, k27, n27⟩, -, X27, ⟨Lc27, hQ27, l27, y27, z27⟩, st27⟩ := Jvm.LawKit.callS X20 hx (y := (⟨"java/util/Arrays", "copyOf", "([II)[I"⟩ : MethodName)) hown (mvT hZ (hw _ (List.mem_of_getElem? (i := 29) rfl))) (mvT hZ (hw _ (List.mem_of_getElem? (i := 30) rfl))) (mvT hZ (hw _ (List.mem_of_getElem? (i := 31) rfl))) (mvT hZ (hw _ (List.mem_of_getElem? (i := 32) rfl))) (by decide) (backOf (W := 0) (rm5 l Z a0 hw [] d4 (Int32.ofNat nw) nw (nw + 1) (own_stI K cc) h20 n0 (Nat.le_trans Z0 K25.1) rfl B24 (by omega) (by omega) ) hZ (hw _ (List.mem_of_getElem? (i := 32) rfl)) (hw _ (List.mem_of_getElem? (i := 31) rfl)) (by decide) (by decide)) (g := (mkF m 72 #[.val (.int (Int32.ofNat cc)), .val (.ref d1), .val (.ref d2), .val (.ref d3), .val (.ref d4), .val (.ref b20), .unset, .unset] [(.int (Int32.ofNat nw)), (.ref d4)])) rfl (by rw [hml]; rfl) (argsL := [(.ref d4), (.int (Int32.ofNat nw))]) (rest := []) (lenOf pd_285bII295bI rfl) rfl (by show 2 * 0 + _ ≤ _; exact Nat.le_of_eq rfl) (hb hby d4_72) (fun _ _ => ⟨rfl, e20, (by decide : 1 + 1 ≤ _), (by decide : 5 + 5 ≤ _)⟩)
              dsimp only [Pt.U, Pt.locs, Pt.cells, Pt.slots] at X27 l27 y27 z27 st27 hQ27
              subst l27 y27 z27
              obtain ⟨h27, e27⟩ : ∃ z, T27.heap = z := ⟨_, rfl⟩
              rw [e27] at hQ27
              obtain ⟨b27, rfl, N27q, Kc27, zz27, BB27⟩ := hQ27
              have N27 := Fr.app NN_10 N27q
              have g_b27 : n0 ≤ b27 := Nat.le_trans (Nat.le_trans Z0 K25.1) zz27
              have sz_b27 : h0.size ≤ b27 := Nat.le_trans K25.1 zz27
              have ne_b20_b27 : b20 ≠ b27 := Nat.ne_of_lt (Nat.lt_of_lt_of_le Ex20.lt zz27)
              have ne_d1_b27 : d1 ≠ b27 := Nat.ne_of_lt (Nat.lt_of_lt_of_le B21.lt zz27)
              have ne_d2_b27 : d2 ≠ b27 := Nat.ne_of_lt (Nat.lt_of_lt_of_le B22.lt zz27)
              have ne_d3_b27 : d3 ≠ b27 := Nat.ne_of_lt (Nat.lt_of_lt_of_le B23.lt zz27)
              have ne_d4_b27 : d4 ≠ b27 := Nat.ne_of_lt (Nat.lt_of_lt_of_le B24.lt zz27)
              have B28 := B21.keep Kc27 nin0
              have B29 := B22.keep Kc27 nin0
              have B30 := B23.keep Kc27 nin0
              have B31 := B24.keep Kc27 nin0
              have c32 := Ex20.keep Kc27
              have B33 := B20.keep Kc27 nin0
              have K27 := K25.trans Kc27 all0
              refine Wp.step st27 ?_
              show Wp p e below _ (T27.setTop (mkF m 75 #[.val (.int (Int32.ofNat cc)), .val (.ref d1), .val (.ref d2), .val (.ref d3), .val (.ref d4), .val (.ref b20), .unset, .unset] [(.ref b27)]))
              refine Wp.step (fun t k => XS.astore X27.here hx rfl (hb hby d4_75) rfl rfl (l' := #[.val (.int (Int32.ofNat cc)), .val (.ref d1), .val (.ref d2), .val (.ref d3), .val (.ref d4), .val (.ref b20), .val (.ref b27), .unset]) rfl k) ?_
              show Wp p e below _ (T27.setTop (mkF m 77 #[.val (.int (Int32.ofNat cc)), .val (.ref d1), .val (.ref d2), .val (.ref d3), .val (.ref d4), .val (.ref b20), .val (.ref b27), .unset] []))
              refine Wp.step (fun t k => XS.iconst X27.here hx rfl (hb hby d4_77) k) ?_
              show Wp p e below _ (T27.setTop (mkF m 78 #[.val (.int (Int32.ofNat cc)), .val (.ref d1), .val (.ref d2), .val (.ref d3), .val (.ref d4), .val (.ref b20), .val (.ref b27), .unset] [(.int (0 : Int32))]))
              refine Wp.step (fun t k => XS.istore X27.here hx rfl (hb hby d4_78) rfl (l' := #[.val (.int (Int32.ofNat cc)), .val (.ref d1), .val (.ref d2), .val (.ref d3), .val (.ref d4), .val (.ref b20), .val (.ref b27), .val (.int (0 : Int32))]) rfl k) ?_
              show Wp p e below _ (T27.setTop (mkF m 80 #[.val (.int (Int32.ofNat cc)), .val (.ref d1), .val (.ref d2), .val (.ref d3), .val (.ref d4), .val (.ref b20), .val (.ref b27), .val (.int (0 : Int32))] []))
              rw [← own_nx_zero] at BB27
              have loop34 : ∀ (f : Nat) (i3 : Nat) (ga : Nat → Int64) (hh_34 : Heap) (locs_34 : List Loc) (T_34 : State) (X_34 : Stand p l e ({ frames := 4, cells := 2, slots := 10, locals := 86 } : Room) s m #[(.int (Int32.ofNat cc)), (.ref d1), (.ref d2), (.ref d3), (.ref d4)] below meth c T_34 locs_34 2 10) (eT_34 : T_34.heap = hh_34) (NN_34 : Fr n0 locs_34) (KK_34 : Keep h0 hh_34 [d4]) (q0_34 : own_IA .int Z hh_34 d1 (Int32.ofNat ln) fa1) (q1_34 : own_IA .int Z hh_34 d2 (Int32.ofNat ln) fa2) (q2_34 : own_IA .int Z hh_34 d3 (Int32.ofNat ln) fa3) (q3_34 : own_IA .int Z hh_34 d4 (Int32.ofNat (nw + 1)) (own_stI K cc)) (q4_34 : Exa Z hh_34 b20 "[J") (q5_34 : own_JA Z hh_34 b20 (Int32.ofNat cc) ga) (q6_34 : own_IA .int Z hh_34 b27 (Int32.ofNat nw) (own_nx K cc i3)) (hi3 : i3 ≤ cc) (FL : own_fill K (own_W fa2 fa3) cc i3 ga) (hm : cc - i3 < f), Wp p e below (Out s (Q4 Z (Int32.ofNat cc) d1 d2 d3 d4 cc nw ln K fa1 fa2 fa3 h0 n0) ({ frames := 4, cells := 2, slots := 10, locals := 86 } : Room).cells ({ frames := 4, cells := 2, slots := 10, locals := 86 } : Room).slots) (T_34.setTop (mkF m 80 #[.val (.int (Int32.ofNat cc)), .val (.ref d1), .val (.ref d2), .val (.ref d3), .val (.ref d4), .val (.ref b20), .val (.ref b27), .val (.int (Int32.ofNat i3))] [])) := by
                intro f
                induction f with
                | zero => intros; rename_i hm; exact absurd hm (Nat.not_lt_zero _)
                | succ f ih_34 =>
                  intro i3 ga hh_34 locs_34 T_34 X_34 eT_34 NN_34 KK_34 q0_34 q1_34 q2_34 q3_34 q4_34 q5_34 q6_34 hi3 FL hm
                  show Wp p e below _ (T_34.setTop (mkF m 80 #[.val (.int (Int32.ofNat cc)), .val (.ref d1), .val (.ref d2), .val (.ref d3), .val (.ref d4), .val (.ref b20), .val (.ref b27), .val (.int (Int32.ofNat i3))] []))
                  refine Wp.step (fun t k => XS.iload X_34.here hx rfl (hb hby d4_80) rfl k) ?_
                  show Wp p e below _ (T_34.setTop (mkF m 82 #[.val (.int (Int32.ofNat cc)), .val (.ref d1), .val (.ref d2), .val (.ref d3), .val (.ref d4), .val (.ref b20), .val (.ref b27), .val (.int (Int32.ofNat i3))] [(.int (Int32.ofNat i3))]))
                  refine Wp.step (fun t k => XS.iloadN X_34.here hx rfl (hb hby d4_82) rfl k) ?_
                  show Wp p e below _ (T_34.setTop (mkF m 83 #[.val (.int (Int32.ofNat cc)), .val (.ref d1), .val (.ref d2), .val (.ref d3), .val (.ref d4), .val (.ref b20), .val (.ref b27), .val (.int (Int32.ofNat i3))] [(.int (Int32.ofNat cc)), (.int (Int32.ofNat i3))]))
                  by_cases hc35 : (Int32.ofNat i3) < (Int32.ofNat cc)
                  · have hc35n : i3 < cc := (own_lt (by omega) (by omega)).mp hc35
                    have hKi := (hKK i3 (by omega)).2
                    have hpos := own_pos_lt hKn (i := i3) (by omega)
                    refine Wp.step (fun t k => XS.icmpNo X_34.here hx rfl (hb hby d4_83) rfl (tlt hc35).2.1 k) ?_
                    show Wp p e below _ (T_34.setTop (mkF m 86 #[.val (.int (Int32.ofNat cc)), .val (.ref d1), .val (.ref d2), .val (.ref d3), .val (.ref d4), .val (.ref b20), .val (.ref b27), .val (.int (Int32.ofNat i3))] []))
                    refine Wp.step (fun t k => XS.aload X_34.here hx rfl (hb hby d4_86) rfl rfl k) ?_
                    show Wp p e below _ (T_34.setTop (mkF m 88 #[.val (.int (Int32.ofNat cc)), .val (.ref d1), .val (.ref d2), .val (.ref d3), .val (.ref d4), .val (.ref b20), .val (.ref b27), .val (.int (Int32.ofNat i3))] [(.ref b20)]))
                    refine Wp.step (fun t k => XS.aload X_34.here hx rfl (hb hby d4_88) rfl rfl k) ?_
                    show Wp p e below _ (T_34.setTop (mkF m 90 #[.val (.int (Int32.ofNat cc)), .val (.ref d1), .val (.ref d2), .val (.ref d3), .val (.ref d4), .val (.ref b20), .val (.ref b27), .val (.int (Int32.ofNat i3))] [(.ref b27), (.ref b20)]))
                    refine Wp.step (fun t k => XS.aloadN X_34.here hx rfl (hb hby d4_90) rfl rfl k) ?_
                    show Wp p e below _ (T_34.setTop (mkF m 91 #[.val (.int (Int32.ofNat cc)), .val (.ref d1), .val (.ref d2), .val (.ref d3), .val (.ref d4), .val (.ref b20), .val (.ref b27), .val (.int (Int32.ofNat i3))] [(.ref d1), (.ref b27), (.ref b20)]))
                    refine Wp.step (fun t k => XS.iload X_34.here hx rfl (hb hby d4_91) rfl k) ?_
                    show Wp p e below _ (T_34.setTop (mkF m 93 #[.val (.int (Int32.ofNat cc)), .val (.ref d1), .val (.ref d2), .val (.ref d3), .val (.ref d4), .val (.ref b20), .val (.ref b27), .val (.int (Int32.ofNat i3))] [(.int (Int32.ofNat i3)), (.ref d1), (.ref b27), (.ref b20)]))
                    obtain ⟨cl36, Ar36, Sz36, Nn36, El36⟩ := id q0_34
                    have hin36 : ¬ ((Int32.ofNat i3) < 0 ∨ cl36.slots.size ≤ ((Int32.ofNat i3)).toNatClampNeg) := inb_of Sz36 (own_inb (by omega) (by omega))
                    have hat36 : cl36.slots[((Int32.ofNat i3)).toNatClampNeg]? = some (.int (fa1 ((Int32.ofNat i3)).toNatClampNeg)) := (El36 _ (by have q := Nat.lt_of_not_le fun q => hin36 (Or.inr q); rw [Sz36] at q; exact q)).1
                    rw [show (fa1 ((Int32.ofNat i3)).toNatClampNeg) = (fa1 i3) from congrArg fa1 (own_nat (by omega))] at hat36
                    rw [show (fa1 i3) = (Int32.ofNat (K i3)) from (hKK i3 (by omega)).1] at hat36
                    refine Wp.step (X_34.iaload hx (j := (Int32.ofNat i3)) (v := (.int (Int32.ofNat (K i3)))) (by rw [eT_34]; exact Ar36.1) (State.isArrayOf_alike hZ.alike Ar36.2.1) Ar36.2.2 hin36 hat36 (g := (mkF m 93 #[.val (.int (Int32.ofNat cc)), .val (.ref d1), .val (.ref d2), .val (.ref d3), .val (.ref d4), .val (.ref b20), .val (.ref b27), .val (.int (Int32.ofNat i3))] [(.int (Int32.ofNat i3)), (.ref d1), (.ref b27), (.ref b20)])) rfl rfl (hb hby d4_93)) ?_
                    show Wp p e below _ (T_34.setTop (mkF m 94 #[.val (.int (Int32.ofNat cc)), .val (.ref d1), .val (.ref d2), .val (.ref d3), .val (.ref d4), .val (.ref b20), .val (.ref b27), .val (.int (Int32.ofNat i3))] [(.int (Int32.ofNat (K i3))), (.ref b27), (.ref b20)]))
                    refine Wp.step (own_dup2 X_34 hx (hb hby d4_94) rfl rfl) ?_
                    show Wp p e below _ (T_34.setTop (mkF m 95 #[.val (.int (Int32.ofNat cc)), .val (.ref d1), .val (.ref d2), .val (.ref d3), .val (.ref d4), .val (.ref b20), .val (.ref b27), .val (.int (Int32.ofNat i3))] [(.int (Int32.ofNat (K i3))), (.ref b27), (.int (Int32.ofNat (K i3))), (.ref b27), (.ref b20)]))
                    obtain ⟨cl37, Ar37, Sz37, Nn37, El37⟩ := id q6_34
                    have hin37 : ¬ ((Int32.ofNat (K i3)) < 0 ∨ cl37.slots.size ≤ ((Int32.ofNat (K i3))).toNatClampNeg) := inb_of Sz37 (own_inb (by omega) (by omega))
                    have hat37 : cl37.slots[((Int32.ofNat (K i3))).toNatClampNeg]? = some (.int ((own_nx K cc i3) ((Int32.ofNat (K i3))).toNatClampNeg)) := (El37 _ (by have q := Nat.lt_of_not_le fun q => hin37 (Or.inr q); rw [Sz37] at q; exact q)).1
                    rw [show ((own_nx K cc i3) ((Int32.ofNat (K i3))).toNatClampNeg) = ((own_nx K cc i3) (K i3)) from congrArg (own_nx K cc i3) (own_nat (by omega))] at hat37
                    rw [show ((own_nx K cc i3) (K i3)) = (Int32.ofNat (own_st K cc (K i3) + own_tot K (K i3) i3)) from rfl] at hat37
                    refine Wp.step (X_34.iaload hx (j := (Int32.ofNat (K i3))) (v := (.int (Int32.ofNat (own_st K cc (K i3) + own_tot K (K i3) i3)))) (by rw [eT_34]; exact Ar37.1) (State.isArrayOf_alike hZ.alike Ar37.2.1) Ar37.2.2 hin37 hat37 (g := (mkF m 95 #[.val (.int (Int32.ofNat cc)), .val (.ref d1), .val (.ref d2), .val (.ref d3), .val (.ref d4), .val (.ref b20), .val (.ref b27), .val (.int (Int32.ofNat i3))] [(.int (Int32.ofNat (K i3))), (.ref b27), (.int (Int32.ofNat (K i3))), (.ref b27), (.ref b20)])) rfl rfl (hb hby d4_95)) ?_
                    show Wp p e below _ (T_34.setTop (mkF m 96 #[.val (.int (Int32.ofNat cc)), .val (.ref d1), .val (.ref d2), .val (.ref d3), .val (.ref d4), .val (.ref b20), .val (.ref b27), .val (.int (Int32.ofNat i3))] [(.int (Int32.ofNat (own_st K cc (K i3) + own_tot K (K i3) i3))), (.int (Int32.ofNat (K i3))), (.ref b27), (.ref b20)]))
                    refine Wp.step (own_dupx2 X_34 hx (hb hby d4_96) rfl rfl rfl) ?_
                    show Wp p e below _ (T_34.setTop (mkF m 97 #[.val (.int (Int32.ofNat cc)), .val (.ref d1), .val (.ref d2), .val (.ref d3), .val (.ref d4), .val (.ref b20), .val (.ref b27), .val (.int (Int32.ofNat i3))] [(.int (Int32.ofNat (own_st K cc (K i3) + own_tot K (K i3) i3))), (.int (Int32.ofNat (K i3))), (.ref b27), (.int (Int32.ofNat (own_st K cc (K i3) + own_tot K (K i3) i3))), (.ref b20)]))
                    refine Wp.step (fun t k => XS.iconst X_34.here hx rfl (hb hby d4_97) k) ?_
                    show Wp p e below _ (T_34.setTop (mkF m 98 #[.val (.int (Int32.ofNat cc)), .val (.ref d1), .val (.ref d2), .val (.ref d3), .val (.ref d4), .val (.ref b20), .val (.ref b27), .val (.int (Int32.ofNat i3))] [(.int (1 : Int32)), (.int (Int32.ofNat (own_st K cc (K i3) + own_tot K (K i3) i3))), (.int (Int32.ofNat (K i3))), (.ref b27), (.int (Int32.ofNat (own_st K cc (K i3) + own_tot K (K i3) i3))), (.ref b20)]))
                    refine Wp.step (fun t k => XS.iadd X_34.here hx rfl (hb hby d4_98) rfl k) ?_
                    show Wp p e below _ (T_34.setTop (mkF m 99 #[.val (.int (Int32.ofNat cc)), .val (.ref d1), .val (.ref d2), .val (.ref d3), .val (.ref d4), .val (.ref b20), .val (.ref b27), .val (.int (Int32.ofNat i3))] [(.int ((Int32.ofNat (own_st K cc (K i3) + own_tot K (K i3) i3)) + (1 : Int32))), (.int (Int32.ofNat (K i3))), (.ref b27), (.int (Int32.ofNat (own_st K cc (K i3) + own_tot K (K i3) i3))), (.ref b20)]))
                    rw [show ((Int32.ofNat (own_st K cc (K i3) + own_tot K (K i3) i3)) + (1 : Int32)) = (Int32.ofNat ((own_st K cc (K i3) + own_tot K (K i3) i3) + 1)) from own_succ _]
                    obtain ⟨cl38, Ar38, Sz38, Nn38, El38⟩ := id q6_34
                    have hin38 : ¬ ((Int32.ofNat (K i3)) < 0 ∨ cl38.slots.size ≤ ((Int32.ofNat (K i3))).toNatClampNeg) := inb_of Sz38 (own_inb (by omega) (by omega))
                    obtain ⟨T38, h38, X38, e38, W38, st38⟩ := stI X_34 hx hZ eT_34 Ar38 (j := (Int32.ofNat (K i3))) hin38 (g := (mkF m 99 #[.val (.int (Int32.ofNat cc)), .val (.ref d1), .val (.ref d2), .val (.ref d3), .val (.ref d4), .val (.ref b20), .val (.ref b27), .val (.int (Int32.ofNat i3))] [(.int (Int32.ofNat ((own_st K cc (K i3) + own_tot K (K i3) i3) + 1))), (.int (Int32.ofNat (K i3))), (.ref b27), (.int (Int32.ofNat (own_st K cc (K i3) + own_tot K (K i3) i3))), (.ref b20)])) rfl rfl (hb hby d4_99)
                    have B39 := q0_34.other W38 ne_d1_b27
                    have B40 := q1_34.other W38 ne_d2_b27
                    have B41 := q2_34.other W38 ne_d3_b27
                    have B42 := q3_34.other W38 ne_d4_b27
                    have c43 := q4_34.wr W38
                    have B44 := q5_34.other W38 ne_b20_b27
                    have K45 := KK_34.wr W38 (Or.inr sz_b27)
                    have N38 := Fr.snoc X38 NN_34 g_b27
                    have B38 := own_IA.set Ar38 Sz38 Nn38 El38 W38 rfl
                    rw [own_nat (a := (K i3)) (by omega)] at B38
                    refine Wp.step st38 ?_
                    show Wp p e below _ (T38.setTop (mkF m 100 #[.val (.int (Int32.ofNat cc)), .val (.ref d1), .val (.ref d2), .val (.ref d3), .val (.ref d4), .val (.ref b20), .val (.ref b27), .val (.int (Int32.ofNat i3))] [(.int (Int32.ofNat (own_st K cc (K i3) + own_tot K (K i3) i3))), (.ref b20)]))
                    refine Wp.step (fun t k => XS.aloadN X38.here hx rfl (hb hby d4_100) rfl rfl k) ?_
                    show Wp p e below _ (T38.setTop (mkF m 101 #[.val (.int (Int32.ofNat cc)), .val (.ref d1), .val (.ref d2), .val (.ref d3), .val (.ref d4), .val (.ref b20), .val (.ref b27), .val (.int (Int32.ofNat i3))] [(.ref d2), (.int (Int32.ofNat (own_st K cc (K i3) + own_tot K (K i3) i3))), (.ref b20)]))
                    refine Wp.step (fun t k => XS.iload X38.here hx rfl (hb hby d4_101) rfl k) ?_
                    show Wp p e below _ (T38.setTop (mkF m 103 #[.val (.int (Int32.ofNat cc)), .val (.ref d1), .val (.ref d2), .val (.ref d3), .val (.ref d4), .val (.ref b20), .val (.ref b27), .val (.int (Int32.ofNat i3))] [(.int (Int32.ofNat i3)), (.ref d2), (.int (Int32.ofNat (own_st K cc (K i3) + own_tot K (K i3) i3))), (.ref b20)]))
                    obtain ⟨cl46, Ar46, Sz46, Nn46, El46⟩ := id B40
                    have hin46 : ¬ ((Int32.ofNat i3) < 0 ∨ cl46.slots.size ≤ ((Int32.ofNat i3)).toNatClampNeg) := inb_of Sz46 (own_inb (by omega) (by omega))
                    have hat46 : cl46.slots[((Int32.ofNat i3)).toNatClampNeg]? = some (.int (fa2 ((Int32.ofNat i3)).toNatClampNeg)) := (El46 _ (by have q := Nat.lt_of_not_le fun q => hin46 (Or.inr q); rw [Sz46] at q; exact q)).1
                    rw [show (fa2 ((Int32.ofNat i3)).toNatClampNeg) = (fa2 i3) from congrArg fa2 (own_nat (by omega))] at hat46
                    refine Wp.step (X38.iaload hx (j := (Int32.ofNat i3)) (v := (.int (fa2 i3))) (by rw [e38]; exact Ar46.1) (State.isArrayOf_alike hZ.alike Ar46.2.1) Ar46.2.2 hin46 hat46 (g := (mkF m 103 #[.val (.int (Int32.ofNat cc)), .val (.ref d1), .val (.ref d2), .val (.ref d3), .val (.ref d4), .val (.ref b20), .val (.ref b27), .val (.int (Int32.ofNat i3))] [(.int (Int32.ofNat i3)), (.ref d2), (.int (Int32.ofNat (own_st K cc (K i3) + own_tot K (K i3) i3))), (.ref b20)])) rfl rfl (hb hby d4_103)) ?_
                    show Wp p e below _ (T38.setTop (mkF m 104 #[.val (.int (Int32.ofNat cc)), .val (.ref d1), .val (.ref d2), .val (.ref d3), .val (.ref d4), .val (.ref b20), .val (.ref b27), .val (.int (Int32.ofNat i3))] [(.int (fa2 i3)), (.int (Int32.ofNat (own_st K cc (K i3) + own_tot K (K i3) i3))), (.ref b20)]))
                    refine Wp.step (fun t k => XS.i2l X38.here hx rfl (hb hby d4_104) rfl k) ?_
                    show Wp p e below _ (T38.setTop (mkF m 105 #[.val (.int (Int32.ofNat cc)), .val (.ref d1), .val (.ref d2), .val (.ref d3), .val (.ref d4), .val (.ref b20), .val (.ref b27), .val (.int (Int32.ofNat i3))] [(.long ((fa2 i3).toInt64)), (.int (Int32.ofNat (own_st K cc (K i3) + own_tot K (K i3) i3))), (.ref b20)]))
                    refine Wp.step (fun t k => XS.bipush X38.here hx rfl (hb hby d4_105) k) ?_
                    show Wp p e below _ (T38.setTop (mkF m 107 #[.val (.int (Int32.ofNat cc)), .val (.ref d1), .val (.ref d2), .val (.ref d3), .val (.ref d4), .val (.ref b20), .val (.ref b27), .val (.int (Int32.ofNat i3))] [(.int (32 : Int32)), (.long ((fa2 i3).toInt64)), (.int (Int32.ofNat (own_st K cc (K i3) + own_tot K (K i3) i3))), (.ref b20)]))
                    refine Wp.step (fun t k => XS.lshl X38.here hx rfl (hb hby d4_107) rfl k) ?_
                    show Wp p e below _ (T38.setTop (mkF m 108 #[.val (.int (Int32.ofNat cc)), .val (.ref d1), .val (.ref d2), .val (.ref d3), .val (.ref d4), .val (.ref b20), .val (.ref b27), .val (.int (Int32.ofNat i3))] [(.long (((fa2 i3).toInt64) <<< ((32 : Int32) &&& 0x3f).toInt64)), (.int (Int32.ofNat (own_st K cc (K i3) + own_tot K (K i3) i3))), (.ref b20)]))
                    refine Wp.step (fun t k => XS.aloadN X38.here hx rfl (hb hby d4_108) rfl rfl k) ?_
                    show Wp p e below _ (T38.setTop (mkF m 109 #[.val (.int (Int32.ofNat cc)), .val (.ref d1), .val (.ref d2), .val (.ref d3), .val (.ref d4), .val (.ref b20), .val (.ref b27), .val (.int (Int32.ofNat i3))] [(.ref d3), (.long (((fa2 i3).toInt64) <<< ((32 : Int32) &&& 0x3f).toInt64)), (.int (Int32.ofNat (own_st K cc (K i3) + own_tot K (K i3) i3))), (.ref b20)]))
                    refine Wp.step (fun t k => XS.iload X38.here hx rfl (hb hby d4_109) rfl k) ?_
                    show Wp p e below _ (T38.setTop (mkF m 111 #[.val (.int (Int32.ofNat cc)), .val (.ref d1), .val (.ref d2), .val (.ref d3), .val (.ref d4), .val (.ref b20), .val (.ref b27), .val (.int (Int32.ofNat i3))] [(.int (Int32.ofNat i3)), (.ref d3), (.long (((fa2 i3).toInt64) <<< ((32 : Int32) &&& 0x3f).toInt64)), (.int (Int32.ofNat (own_st K cc (K i3) + own_tot K (K i3) i3))), (.ref b20)]))
                    obtain ⟨cl47, Ar47, Sz47, Nn47, El47⟩ := id B41
                    have hin47 : ¬ ((Int32.ofNat i3) < 0 ∨ cl47.slots.size ≤ ((Int32.ofNat i3)).toNatClampNeg) := inb_of Sz47 (own_inb (by omega) (by omega))
                    have hat47 : cl47.slots[((Int32.ofNat i3)).toNatClampNeg]? = some (.int (fa3 ((Int32.ofNat i3)).toNatClampNeg)) := (El47 _ (by have q := Nat.lt_of_not_le fun q => hin47 (Or.inr q); rw [Sz47] at q; exact q)).1
                    rw [show (fa3 ((Int32.ofNat i3)).toNatClampNeg) = (fa3 i3) from congrArg fa3 (own_nat (by omega))] at hat47
                    refine Wp.step (X38.iaload hx (j := (Int32.ofNat i3)) (v := (.int (fa3 i3))) (by rw [e38]; exact Ar47.1) (State.isArrayOf_alike hZ.alike Ar47.2.1) Ar47.2.2 hin47 hat47 (g := (mkF m 111 #[.val (.int (Int32.ofNat cc)), .val (.ref d1), .val (.ref d2), .val (.ref d3), .val (.ref d4), .val (.ref b20), .val (.ref b27), .val (.int (Int32.ofNat i3))] [(.int (Int32.ofNat i3)), (.ref d3), (.long (((fa2 i3).toInt64) <<< ((32 : Int32) &&& 0x3f).toInt64)), (.int (Int32.ofNat (own_st K cc (K i3) + own_tot K (K i3) i3))), (.ref b20)])) rfl rfl (hb hby d4_111)) ?_
                    show Wp p e below _ (T38.setTop (mkF m 112 #[.val (.int (Int32.ofNat cc)), .val (.ref d1), .val (.ref d2), .val (.ref d3), .val (.ref d4), .val (.ref b20), .val (.ref b27), .val (.int (Int32.ofNat i3))] [(.int (fa3 i3)), (.long (((fa2 i3).toInt64) <<< ((32 : Int32) &&& 0x3f).toInt64)), (.int (Int32.ofNat (own_st K cc (K i3) + own_tot K (K i3) i3))), (.ref b20)]))
                    refine Wp.step (fun t k => XS.i2l X38.here hx rfl (hb hby d4_112) rfl k) ?_
                    show Wp p e below _ (T38.setTop (mkF m 113 #[.val (.int (Int32.ofNat cc)), .val (.ref d1), .val (.ref d2), .val (.ref d3), .val (.ref d4), .val (.ref b20), .val (.ref b27), .val (.int (Int32.ofNat i3))] [(.long ((fa3 i3).toInt64)), (.long (((fa2 i3).toInt64) <<< ((32 : Int32) &&& 0x3f).toInt64)), (.int (Int32.ofNat (own_st K cc (K i3) + own_tot K (K i3) i3))), (.ref b20)]))
                    refine Wp.step (fun t k => XS.lor X38.here hx rfl (hb hby d4_113) rfl k) ?_
                    show Wp p e below _ (T38.setTop (mkF m 114 #[.val (.int (Int32.ofNat cc)), .val (.ref d1), .val (.ref d2), .val (.ref d3), .val (.ref d4), .val (.ref b20), .val (.ref b27), .val (.int (Int32.ofNat i3))] [(.long ((((fa2 i3).toInt64) <<< ((32 : Int32) &&& 0x3f).toInt64) ||| ((fa3 i3).toInt64))), (.int (Int32.ofNat (own_st K cc (K i3) + own_tot K (K i3) i3))), (.ref b20)]))
                    obtain ⟨cl48, Ar48, Sz48, Nn48, El48⟩ := id B44
                    have hin48 : ¬ ((Int32.ofNat (own_st K cc (K i3) + own_tot K (K i3) i3)) < 0 ∨ cl48.slots.size ≤ ((Int32.ofNat (own_st K cc (K i3) + own_tot K (K i3) i3))).toNatClampNeg) := inb_of Sz48 (own_inb (by omega) (by omega))
                    obtain ⟨T48, h48, X48, e48, W48, st48⟩ := stJ X38 hx hZ e38 Ar48 (j := (Int32.ofNat (own_st K cc (K i3) + own_tot K (K i3) i3))) hin48 (g := (mkF m 114 #[.val (.int (Int32.ofNat cc)), .val (.ref d1), .val (.ref d2), .val (.ref d3), .val (.ref d4), .val (.ref b20), .val (.ref b27), .val (.int (Int32.ofNat i3))] [(.long ((((fa2 i3).toInt64) <<< ((32 : Int32) &&& 0x3f).toInt64) ||| ((fa3 i3).toInt64))), (.int (Int32.ofNat (own_st K cc (K i3) + own_tot K (K i3) i3))), (.ref b20)])) rfl rfl (hb hby d4_114)
                    have B49 := B39.other W48 ne_d1_b20
                    have B50 := B40.other W48 ne_d2_b20
                    have B51 := B41.other W48 ne_d3_b20
                    have B52 := B42.other W48 ne_d4_b20
                    have c53 := c43.wr W48
                    have B54 := B38.other W48 (Ne.symm ne_b20_b27)
                    have K55 := K45.wr W48 (Or.inr sz_b20)
                    have N48 := Fr.snoc X48 N38 g_b20
                    have B48 := own_JA.set Ar48 Sz48 Nn48 El48 W48
                    rw [own_nat (a := (own_st K cc (K i3) + own_tot K (K i3) i3)) (by omega)] at B48
                    refine Wp.step st48 ?_
                    show Wp p e below _ (T48.setTop (mkF m 115 #[.val (.int (Int32.ofNat cc)), .val (.ref d1), .val (.ref d2), .val (.ref d3), .val (.ref d4), .val (.ref b20), .val (.ref b27), .val (.int (Int32.ofNat i3))] []))
                    refine Wp.step (fun t k => XS.iinc X48.here hx rfl (hb hby d4_115) rfl (l' := #[.val (.int (Int32.ofNat cc)), .val (.ref d1), .val (.ref d2), .val (.ref d3), .val (.ref d4), .val (.ref b20), .val (.ref b27), .val (.int ((Int32.ofNat i3) + (1 : Int32)))]) rfl k) ?_
                    show Wp p e below _ (T48.setTop (mkF m 118 #[.val (.int (Int32.ofNat cc)), .val (.ref d1), .val (.ref d2), .val (.ref d3), .val (.ref d4), .val (.ref b20), .val (.ref b27), .val (.int ((Int32.ofNat i3) + (1 : Int32)))] []))
                    rw [show ((Int32.ofNat i3) + (1 : Int32)) = (Int32.ofNat (i3 + 1)) from own_succ _]
                    refine Wp.step (fun t k => XS.goto X48.here hx rfl (pc0 := 118) (pc' := 80) rfl (hb hby d4_118) (by decide) (by decide) k) ?_
                    show Wp p e below _ (T48.setTop (mkF m 80 #[.val (.int (Int32.ofNat cc)), .val (.ref d1), .val (.ref d2), .val (.ref d3), .val (.ref d4), .val (.ref b20), .val (.ref b27), .val (.int (Int32.ofNat (i3 + 1)))] []))
                    rw [own_nx_next] at B54
                    exact ih_34 (i3 + 1) (own_updJ ga (own_st K cc (K i3) + own_tot K (K i3) i3) ((((fa2 i3).toInt64) <<< ((32 : Int32) &&& 0x3f).toInt64) ||| ((fa3 i3).toInt64))) _ _ T48 X48 e48 N48 K55 B49 B50 B51 B52 c53 B48 B54 (by omega) (FL.step (by omega)) (by omega)
                  · have hc35n : ¬ (i3 < cc) := fun q => hc35 ((own_lt (by omega) (by omega)).mpr q)
                    refine Wp.step (fun t k => XS.icmpYes X_34.here hx rfl (pc0 := 83) (pc' := 121) rfl (hb hby d4_83) rfl (flt hc35).2.1 (by decide) (by decide) k) ?_
                    show Wp p e below _ (T_34.setTop (mkF m 121 #[.val (.int (Int32.ofNat cc)), .val (.ref d1), .val (.ref d2), .val (.ref d3), .val (.ref d4), .val (.ref b20), .val (.ref b27), .val (.int (Int32.ofNat i3))] []))
                    refine Wp.step (fun t k => XS.iconst X_34.here hx rfl (hb hby d4_121) k) ?_
                    show Wp p e below _ (T_34.setTop (mkF m 122 #[.val (.int (Int32.ofNat cc)), .val (.ref d1), .val (.ref d2), .val (.ref d3), .val (.ref d4), .val (.ref b20), .val (.ref b27), .val (.int (Int32.ofNat i3))] [(.int (0 : Int32))]))
                    refine Wp.step (fun t k => XS.istore X_34.here hx rfl (hb hby d4_122) rfl (l' := #[.val (.int (Int32.ofNat cc)), .val (.ref d1), .val (.ref d2), .val (.ref d3), .val (.ref d4), .val (.ref b20), .val (.ref b27), .val (.int (0 : Int32))]) rfl k) ?_
                    show Wp p e below _ (T_34.setTop (mkF m 124 #[.val (.int (Int32.ofNat cc)), .val (.ref d1), .val (.ref d2), .val (.ref d3), .val (.ref d4), .val (.ref b20), .val (.ref b27), .val (.int (0 : Int32))] []))
                    have ei3 : i3 = cc := by omega
                    rw [ei3] at FL
                    have loop56 : ∀ (f : Nat) (vv : Nat) (gb : Nat → Int64) (hh_56 : Heap) (locs_56 : List Loc) (T_56 : State) (X_56 : Stand p l e ({ frames := 4, cells := 2, slots := 10, locals := 86 } : Room) s m #[(.int (Int32.ofNat cc)), (.ref d1), (.ref d2), (.ref d3), (.ref d4)] below meth c T_56 locs_56 2 10) (eT_56 : T_56.heap = hh_56) (NN_56 : Fr n0 locs_56) (KK_56 : Keep h0 hh_56 [d4]) (q0_56 : own_IA .int Z hh_56 d1 (Int32.ofNat ln) fa1) (q1_56 : own_IA .int Z hh_56 d2 (Int32.ofNat ln) fa2) (q2_56 : own_IA .int Z hh_56 d3 (Int32.ofNat ln) fa3) (q3_56 : own_IA .int Z hh_56 d4 (Int32.ofNat (nw + 1)) (own_stI K cc)) (q4_56 : Exa Z hh_56 b20 "[J") (q5_56 : own_JA Z hh_56 b20 (Int32.ofNat cc) gb) (q6_56 : own_IA .int Z hh_56 b27 (Int32.ofNat nw) (own_nx K cc i3)) (PT : own_part K (own_W fa2 fa3) cc vv gb) (hvv : vv ≤ nw) (hm : nw - vv < f), Wp p e below (Out s (Q4 Z (Int32.ofNat cc) d1 d2 d3 d4 cc nw ln K fa1 fa2 fa3 h0 n0) ({ frames := 4, cells := 2, slots := 10, locals := 86 } : Room).cells ({ frames := 4, cells := 2, slots := 10, locals := 86 } : Room).slots) (T_56.setTop (mkF m 124 #[.val (.int (Int32.ofNat cc)), .val (.ref d1), .val (.ref d2), .val (.ref d3), .val (.ref d4), .val (.ref b20), .val (.ref b27), .val (.int (Int32.ofNat vv))] [])) := by
                      intro f
                      induction f with
                      | zero => intros; rename_i hm; exact absurd hm (Nat.not_lt_zero _)
                      | succ f ih_56 =>
                        intro vv gb hh_56 locs_56 T_56 X_56 eT_56 NN_56 KK_56 q0_56 q1_56 q2_56 q3_56 q4_56 q5_56 q6_56 PT hvv hm
                        show Wp p e below _ (T_56.setTop (mkF m 124 #[.val (.int (Int32.ofNat cc)), .val (.ref d1), .val (.ref d2), .val (.ref d3), .val (.ref d4), .val (.ref b20), .val (.ref b27), .val (.int (Int32.ofNat vv))] []))
                        refine Wp.step (fun t k => XS.iload X_56.here hx rfl (hb hby d4_124) rfl k) ?_
                        show Wp p e below _ (T_56.setTop (mkF m 126 #[.val (.int (Int32.ofNat cc)), .val (.ref d1), .val (.ref d2), .val (.ref d3), .val (.ref d4), .val (.ref b20), .val (.ref b27), .val (.int (Int32.ofNat vv))] [(.int (Int32.ofNat vv))]))
                        refine Wp.step (fun t k => XS.iconst X_56.here hx rfl (hb hby d4_126) k) ?_
                        show Wp p e below _ (T_56.setTop (mkF m 127 #[.val (.int (Int32.ofNat cc)), .val (.ref d1), .val (.ref d2), .val (.ref d3), .val (.ref d4), .val (.ref b20), .val (.ref b27), .val (.int (Int32.ofNat vv))] [(.int (1 : Int32)), (.int (Int32.ofNat vv))]))
                        refine Wp.step (fun t k => XS.iadd X_56.here hx rfl (hb hby d4_127) rfl k) ?_
                        show Wp p e below _ (T_56.setTop (mkF m 128 #[.val (.int (Int32.ofNat cc)), .val (.ref d1), .val (.ref d2), .val (.ref d3), .val (.ref d4), .val (.ref b20), .val (.ref b27), .val (.int (Int32.ofNat vv))] [(.int ((Int32.ofNat vv) + (1 : Int32)))]))
                        rw [show ((Int32.ofNat vv) + (1 : Int32)) = (Int32.ofNat (vv + 1)) from own_succ _]
                        refine Wp.step (fun t k => XS.aload X_56.here hx rfl (hb hby d4_128) rfl rfl k) ?_
                        show Wp p e below _ (T_56.setTop (mkF m 130 #[.val (.int (Int32.ofNat cc)), .val (.ref d1), .val (.ref d2), .val (.ref d3), .val (.ref d4), .val (.ref b20), .val (.ref b27), .val (.int (Int32.ofNat vv))] [(.ref d4), (.int (Int32.ofNat (vv + 1)))]))
                        obtain ⟨cl57, Ar57, Sz57, Nn57, -⟩ := id q3_56
                        refine Wp.step (X_56.arraylength hx (by rw [eT_56]; exact Ar57.1) (State.isArrayOf_alike hZ.alike Ar57.2.1) (g := (mkF m 130 #[.val (.int (Int32.ofNat cc)), .val (.ref d1), .val (.ref d2), .val (.ref d3), .val (.ref d4), .val (.ref b20), .val (.ref b27), .val (.int (Int32.ofNat vv))] [(.ref d4), (.int (Int32.ofNat (vv + 1)))])) rfl rfl (hb hby d4_130)) ?_
                        rw [len_of Sz57 Nn57]
                        show Wp p e below _ (T_56.setTop (mkF m 131 #[.val (.int (Int32.ofNat cc)), .val (.ref d1), .val (.ref d2), .val (.ref d3), .val (.ref d4), .val (.ref b20), .val (.ref b27), .val (.int (Int32.ofNat vv))] [(.int (Int32.ofNat (nw + 1))), (.int (Int32.ofNat (vv + 1)))]))
                        by_cases hc58 : (Int32.ofNat (vv + 1)) < (Int32.ofNat (nw + 1))
                        · have hc58n : (vv + 1) < (nw + 1) := (own_lt (by omega) (by omega)).mp hc58
                          have m1 := own_st_mono K cc (Nat.le_succ vv)
                          have m2 := own_st_le hKn (show vv + 1 ≤ nw by omega)
                          refine Wp.step (fun t k => XS.icmpNo X_56.here hx rfl (hb hby d4_131) rfl (tlt hc58).2.1 k) ?_
                          show Wp p e below _ (T_56.setTop (mkF m 134 #[.val (.int (Int32.ofNat cc)), .val (.ref d1), .val (.ref d2), .val (.ref d3), .val (.ref d4), .val (.ref b20), .val (.ref b27), .val (.int (Int32.ofNat vv))] []))
                          refine Wp.step (fun t k => XS.aload X_56.here hx rfl (hb hby d4_134) rfl rfl k) ?_
                          show Wp p e below _ (T_56.setTop (mkF m 136 #[.val (.int (Int32.ofNat cc)), .val (.ref d1), .val (.ref d2), .val (.ref d3), .val (.ref d4), .val (.ref b20), .val (.ref b27), .val (.int (Int32.ofNat vv))] [(.ref b20)]))
                          refine Wp.step (fun t k => XS.aload X_56.here hx rfl (hb hby d4_136) rfl rfl k) ?_
                          show Wp p e below _ (T_56.setTop (mkF m 138 #[.val (.int (Int32.ofNat cc)), .val (.ref d1), .val (.ref d2), .val (.ref d3), .val (.ref d4), .val (.ref b20), .val (.ref b27), .val (.int (Int32.ofNat vv))] [(.ref d4), (.ref b20)]))
                          refine Wp.step (fun t k => XS.iload X_56.here hx rfl (hb hby d4_138) rfl k) ?_
                          show Wp p e below _ (T_56.setTop (mkF m 140 #[.val (.int (Int32.ofNat cc)), .val (.ref d1), .val (.ref d2), .val (.ref d3), .val (.ref d4), .val (.ref b20), .val (.ref b27), .val (.int (Int32.ofNat vv))] [(.int (Int32.ofNat vv)), (.ref d4), (.ref b20)]))
                          obtain ⟨cl59, Ar59, Sz59, Nn59, El59⟩ := id q3_56
                          have hin59 : ¬ ((Int32.ofNat vv) < 0 ∨ cl59.slots.size ≤ ((Int32.ofNat vv)).toNatClampNeg) := inb_of Sz59 (own_inb (by omega) (by omega))
                          have hat59 : cl59.slots[((Int32.ofNat vv)).toNatClampNeg]? = some (.int ((own_stI K cc) ((Int32.ofNat vv)).toNatClampNeg)) := (El59 _ (by have q := Nat.lt_of_not_le fun q => hin59 (Or.inr q); rw [Sz59] at q; exact q)).1
                          rw [show ((own_stI K cc) ((Int32.ofNat vv)).toNatClampNeg) = ((own_stI K cc) vv) from congrArg (own_stI K cc) (own_nat (by omega))] at hat59
                          rw [show ((own_stI K cc) vv) = (Int32.ofNat (own_st K cc vv)) from rfl] at hat59
                          refine Wp.step (X_56.iaload hx (j := (Int32.ofNat vv)) (v := (.int (Int32.ofNat (own_st K cc vv)))) (by rw [eT_56]; exact Ar59.1) (State.isArrayOf_alike hZ.alike Ar59.2.1) Ar59.2.2 hin59 hat59 (g := (mkF m 140 #[.val (.int (Int32.ofNat cc)), .val (.ref d1), .val (.ref d2), .val (.ref d3), .val (.ref d4), .val (.ref b20), .val (.ref b27), .val (.int (Int32.ofNat vv))] [(.int (Int32.ofNat vv)), (.ref d4), (.ref b20)])) rfl rfl (hb hby d4_140)) ?_
                          show Wp p e below _ (T_56.setTop (mkF m 141 #[.val (.int (Int32.ofNat cc)), .val (.ref d1), .val (.ref d2), .val (.ref d3), .val (.ref d4), .val (.ref b20), .val (.ref b27), .val (.int (Int32.ofNat vv))] [(.int (Int32.ofNat (own_st K cc vv))), (.ref b20)]))
                          refine Wp.step (fun t k => XS.aload X_56.here hx rfl (hb hby d4_141) rfl rfl k) ?_
                          show Wp p e below _ (T_56.setTop (mkF m 143 #[.val (.int (Int32.ofNat cc)), .val (.ref d1), .val (.ref d2), .val (.ref d3), .val (.ref d4), .val (.ref b20), .val (.ref b27), .val (.int (Int32.ofNat vv))] [(.ref d4), (.int (Int32.ofNat (own_st K cc vv))), (.ref b20)]))
                          refine Wp.step (fun t k => XS.iload X_56.here hx rfl (hb hby d4_143) rfl k) ?_
                          show Wp p e below _ (T_56.setTop (mkF m 145 #[.val (.int (Int32.ofNat cc)), .val (.ref d1), .val (.ref d2), .val (.ref d3), .val (.ref d4), .val (.ref b20), .val (.ref b27), .val (.int (Int32.ofNat vv))] [(.int (Int32.ofNat vv)), (.ref d4), (.int (Int32.ofNat (own_st K cc vv))), (.ref b20)]))
                          refine Wp.step (fun t k => XS.iconst X_56.here hx rfl (hb hby d4_145) k) ?_
                          show Wp p e below _ (T_56.setTop (mkF m 146 #[.val (.int (Int32.ofNat cc)), .val (.ref d1), .val (.ref d2), .val (.ref d3), .val (.ref d4), .val (.ref b20), .val (.ref b27), .val (.int (Int32.ofNat vv))] [(.int (1 : Int32)), (.int (Int32.ofNat vv)), (.ref d4), (.int (Int32.ofNat (own_st K cc vv))), (.ref b20)]))
                          refine Wp.step (fun t k => XS.iadd X_56.here hx rfl (hb hby d4_146) rfl k) ?_
                          show Wp p e below _ (T_56.setTop (mkF m 147 #[.val (.int (Int32.ofNat cc)), .val (.ref d1), .val (.ref d2), .val (.ref d3), .val (.ref d4), .val (.ref b20), .val (.ref b27), .val (.int (Int32.ofNat vv))] [(.int ((Int32.ofNat vv) + (1 : Int32))), (.ref d4), (.int (Int32.ofNat (own_st K cc vv))), (.ref b20)]))
                          rw [show ((Int32.ofNat vv) + (1 : Int32)) = (Int32.ofNat (vv + 1)) from own_succ _]
                          obtain ⟨cl60, Ar60, Sz60, Nn60, El60⟩ := id q3_56
                          have hin60 : ¬ ((Int32.ofNat (vv + 1)) < 0 ∨ cl60.slots.size ≤ ((Int32.ofNat (vv + 1))).toNatClampNeg) := inb_of Sz60 (own_inb (by omega) (by omega))
                          have hat60 : cl60.slots[((Int32.ofNat (vv + 1))).toNatClampNeg]? = some (.int ((own_stI K cc) ((Int32.ofNat (vv + 1))).toNatClampNeg)) := (El60 _ (by have q := Nat.lt_of_not_le fun q => hin60 (Or.inr q); rw [Sz60] at q; exact q)).1
                          rw [show ((own_stI K cc) ((Int32.ofNat (vv + 1))).toNatClampNeg) = ((own_stI K cc) (vv + 1)) from congrArg (own_stI K cc) (own_nat (by omega))] at hat60
                          rw [show ((own_stI K cc) (vv + 1)) = (Int32.ofNat (own_st K cc (vv + 1))) from rfl] at hat60
                          refine Wp.step (X_56.iaload hx (j := (Int32.ofNat (vv + 1))) (v := (.int (Int32.ofNat (own_st K cc (vv + 1))))) (by rw [eT_56]; exact Ar60.1) (State.isArrayOf_alike hZ.alike Ar60.2.1) Ar60.2.2 hin60 hat60 (g := (mkF m 147 #[.val (.int (Int32.ofNat cc)), .val (.ref d1), .val (.ref d2), .val (.ref d3), .val (.ref d4), .val (.ref b20), .val (.ref b27), .val (.int (Int32.ofNat vv))] [(.int (Int32.ofNat (vv + 1))), (.ref d4), (.int (Int32.ofNat (own_st K cc vv))), (.ref b20)])) rfl rfl (hb hby d4_147)) ?_
                          show Wp p e below _ (T_56.setTop (mkF m 148 #[.val (.int (Int32.ofNat cc)), .val (.ref d1), .val (.ref d2), .val (.ref d3), .val (.ref d4), .val (.ref b20), .val (.ref b27), .val (.int (Int32.ofNat vv))] [(.int (Int32.ofNat (own_st K cc (vv + 1)))), (.int (Int32.ofNat (own_st K cc vv))), (.ref b20)]))
                          obtain ⟨_, _, ⟨T61, L61, k61, n61⟩, -, X61, ⟨Lc61, hQ61, l61, y61, z61⟩, st61⟩ := Jvm.LawKit.callS X_56 hx (y := (⟨"java/util/Arrays", "sort", "([JII)V"⟩ : MethodName)) hown (mvT hZ (hw _ (List.mem_of_getElem? (i := 41) rfl))) (mvT hZ (hw _ (List.mem_of_getElem? (i := 42) rfl))) (mvT hZ (hw _ (List.mem_of_getElem? (i := 31) rfl))) (mvT hZ (hw _ (List.mem_of_getElem? (i := 43) rfl))) (by decide) (backOf (W := 0) (rm7 l Z a0 hw [] b20 (Int32.ofNat (own_st K cc vv)) (Int32.ofNat (own_st K cc (vv + 1))) (own_st K cc vv) (own_st K cc (vv + 1)) cc gb hh_56 n0 (Nat.le_trans Z0 KK_56.1) rfl rfl g_b20 q5_56 (by omega) (by omega) (by omega)) hZ (hw _ (List.mem_of_getElem? (i := 43) rfl)) (hw _ (List.mem_of_getElem? (i := 31) rfl)) (by decide) (by decide)) (g := (mkF m 148 #[.val (.int (Int32.ofNat cc)), .val (.ref d1), .val (.ref d2), .val (.ref d3), .val (.ref d4), .val (.ref b20), .val (.ref b27), .val (.int (Int32.ofNat vv))] [(.int (Int32.ofNat (own_st K cc (vv + 1)))), (.int (Int32.ofNat (own_st K cc vv))), (.ref b20)])) rfl (by rw [hml]; rfl) (argsL := [(.ref b20), (.int (Int32.ofNat (own_st K cc vv))), (.int (Int32.ofNat (own_st K cc (vv + 1))))]) (rest := []) (lenOf pd_285bJII29V rfl) rfl (by show 2 * 0 + _ ≤ _; exact Nat.le_of_eq rfl) (hb hby d4_148) (fun _ _ => ⟨rfl, eT_56, (by decide : 2 + 0 ≤ _), (by decide : 10 + 0 ≤ _)⟩)
                          dsimp only [Pt.U, Pt.locs, Pt.cells, Pt.slots] at X61 l61 y61 z61 st61 hQ61
                          subst l61 y61 z61
                          obtain ⟨h61, e61⟩ : ∃ z, T61.heap = z := ⟨_, rfl⟩
                          rw [e61] at hQ61
                          obtain ⟨rfl, N61q, Kc61, gg61, BB61, UU61⟩ := hQ61
                          have N61 := Fr.app NN_56 N61q
                          have B62 := q0_56.keep Kc61 (ninS ne_d1_b20 nin0)
                          have B63 := q1_56.keep Kc61 (ninS ne_d2_b20 nin0)
                          have B64 := q2_56.keep Kc61 (ninS ne_d3_b20 nin0)
                          have B65 := q3_56.keep Kc61 (ninS ne_d4_b20 nin0)
                          have c66 := q4_56.keep Kc61
                          have B67 := q6_56.keep Kc61 (ninS (Ne.symm ne_b20_b27) nin0)
                          have K61 := KK_56.trans Kc61 (allS (Or.inr sz_b20) all0)
                          refine Wp.step st61 ?_
                          show Wp p e below _ (T61.setTop (mkF m 151 #[.val (.int (Int32.ofNat cc)), .val (.ref d1), .val (.ref d2), .val (.ref d3), .val (.ref d4), .val (.ref b20), .val (.ref b27), .val (.int (Int32.ofNat vv))] []))
                          refine Wp.step (fun t k => XS.iinc X61.here hx rfl (hb hby d4_151) rfl (l' := #[.val (.int (Int32.ofNat cc)), .val (.ref d1), .val (.ref d2), .val (.ref d3), .val (.ref d4), .val (.ref b20), .val (.ref b27), .val (.int ((Int32.ofNat vv) + (1 : Int32)))]) rfl k) ?_
                          show Wp p e below _ (T61.setTop (mkF m 154 #[.val (.int (Int32.ofNat cc)), .val (.ref d1), .val (.ref d2), .val (.ref d3), .val (.ref d4), .val (.ref b20), .val (.ref b27), .val (.int ((Int32.ofNat vv) + (1 : Int32)))] []))
                          rw [show ((Int32.ofNat vv) + (1 : Int32)) = (Int32.ofNat (vv + 1)) from own_succ _]
                          refine Wp.step (fun t k => XS.goto X61.here hx rfl (pc0 := 154) (pc' := 124) rfl (hb hby d4_154) (by decide) (by decide) k) ?_
                          show Wp p e below _ (T61.setTop (mkF m 124 #[.val (.int (Int32.ofNat cc)), .val (.ref d1), .val (.ref d2), .val (.ref d3), .val (.ref d4), .val (.ref b20), .val (.ref b27), .val (.int (Int32.ofNat (vv + 1)))] []))
                          exact ih_56 (vv + 1) gg61 _ _ T61 X61 e61 N61 K61 B62 B63 B64 B65 c66 BB61 B67 (PT.step UU61) (by omega) (by omega)
                        · have hc58n : ¬ ((vv + 1) < (nw + 1)) := fun q => hc58 ((own_lt (by omega) (by omega)).mpr q)
                          refine Wp.step (fun t k => XS.icmpYes X_56.here hx rfl (pc0 := 131) (pc' := 157) rfl (hb hby d4_131) rfl (flt hc58).2.1 (by decide) (by decide) k) ?_
                          show Wp p e below _ (T_56.setTop (mkF m 157 #[.val (.int (Int32.ofNat cc)), .val (.ref d1), .val (.ref d2), .val (.ref d3), .val (.ref d4), .val (.ref b20), .val (.ref b27), .val (.int (Int32.ofNat vv))] []))
                          refine Wp.step (fun t k => XS.aload X_56.here hx rfl (hb hby d4_157) rfl rfl k) ?_
                          show Wp p e below _ (T_56.setTop (mkF m 159 #[.val (.int (Int32.ofNat cc)), .val (.ref d1), .val (.ref d2), .val (.ref d3), .val (.ref d4), .val (.ref b20), .val (.ref b27), .val (.int (Int32.ofNat vv))] [(.ref b20)]))
                          refine Wp.retA X_56 hx Bd.returns rfl (hb hby d4_159) hlk ?_ (by decide) (by decide)
                          show Q4 Z (Int32.ofNat cc) d1 d2 d3 d4 cc nw ln K fa1 fa2 fa3 h0 n0 (some (.ref b20)) T_56.heap _
                          rw [eT_56]
                          exact ⟨b20, gb, rfl, NN_56, KK_56, sz_b20, q5_56, q4_56, q3_56, PT.fin (by omega)⟩
                    exact loop56 (nw + 1) 0 ga _ _ T_34 X_34 eT_34 NN_34 KK_34 q0_34 q1_34 q2_34 q3_34 q4_34 q5_34 q6_34 (own_part.start FL) (Nat.zero_le _) (by omega)
              exact loop34 (cc + 1) 0 _ _ _ T27 X27 e27 N27 K27 B28 B29 B30 B31 c32 B33 BB27 (Nat.zero_le _) (own_fill.zero _ _ _ _) (by omega)
        exact loop10 (nw + 1) 1 _ _ T_1 X_1 eT_1 NN_1 KK_1 q0_1 q1_1 q2_1 Bz2 (Nat.le_refl _) (by omega) (by omega)
  exact loop1 (cc + 1) 0 _ _ s₁ X0 e0 N0 K0 B_d1 B_d2 B_d3 Bz (Nat.zero_le _) (by omega)
theorem d1_0 : decode prog_15_method_1_code 0 = .ok (.aload_n 0, 1) := by decide +kernel
theorem d1_1 : decode prog_15_method_1_code 1 = .ok (.invokespecial 1, 3) := by decide +kernel
theorem d1_4 : decode prog_15_method_1_code 4 = .ok (.aload_n 0, 1) := by decide +kernel
theorem d1_5 : decode prog_15_method_1_code 5 = .ok (.sipush 1024, 3) := by decide +kernel
theorem d1_8 : decode prog_15_method_1_code 8 = .ok (.newarray .int, 2) := by decide +kernel
theorem d1_10 : decode prog_15_method_1_code 10 = .ok (.putfield 7, 3) := by decide +kernel
theorem d1_13 : decode prog_15_method_1_code 13 = .ok (.aload_n 0, 1) := by decide +kernel
theorem d1_14 : decode prog_15_method_1_code 14 = .ok (.sipush 1024, 3) := by decide +kernel
theorem d1_17 : decode prog_15_method_1_code 17 = .ok (.newarray .int, 2) := by decide +kernel
theorem d1_19 : decode prog_15_method_1_code 19 = .ok (.putfield 13, 3) := by decide +kernel
theorem d1_22 : decode prog_15_method_1_code 22 = .ok (.aload_n 0, 1) := by decide +kernel
theorem d1_23 : decode prog_15_method_1_code 23 = .ok (.sipush 1024, 3) := by decide +kernel
theorem d1_26 : decode prog_15_method_1_code 26 = .ok (.newarray .int, 2) := by decide +kernel
theorem d1_28 : decode prog_15_method_1_code 28 = .ok (.putfield 16, 3) := by decide +kernel
theorem d1_31 : decode prog_15_method_1_code 31 = .ok (.return_, 1) := by decide +kernel
theorem ef_1_0 (m : MethodId) (x0 : Addr) : entryFrame m #[(.ref x0)] 1 = mkF m 0 #[.val (.ref x0)] [] := by first | (simp [entryFrame, mkF, argsToLocals, Value.category]; done) | rfl
def Q1 (Z : State) (d0 : Addr) (h0 : Heap) (n0 : Nat) (v : Option Value) (h : Heap) (L : List Loc) : Prop := ∃ b1 b2 b3, v = none ∧ Fr n0 L ∧ Keep h0 h [d0] ∧ h0.size ≤ b1 ∧ h0.size ≤ b2 ∧ h0.size ≤ b3 ∧ b1 ≠ b2 ∧ b1 ≠ b3 ∧ b2 ≠ b3 ∧ own_IA .int Z h b1 (Int32.ofNat 1024) (fun _ => (0 : Int32)) ∧ own_IA .int Z h b2 (Int32.ofNat 1024) (fun _ => (0 : Int32)) ∧ own_IA .int Z h b3 (Int32.ofNat 1024) (fun _ => (0 : Int32)) ∧ Exa Z h d0 "com/example/erotema/erotema/model/ToldEdges" ∧ Fld Z h d0 "com/example/erotema/erotema/model/ToldEdges" "sources" "[I" (.ref b1) ∧ Fld Z h d0 "com/example/erotema/erotema/model/ToldEdges" "properties" "[I" (.ref b2) ∧ Fld Z h d0 "com/example/erotema/erotema/model/ToldEdges" "targets" "[I" (.ref b3) ∧ Fld Z h d0 "com/example/erotema/erotema/model/ToldEdges" "added" "I" (.int (0 : Int32)) ∧ Fld Z h d0 "com/example/erotema/erotema/model/ToldEdges" "bySourceStart" "[I" .null ∧ Fld Z h d0 "com/example/erotema/erotema/model/ToldEdges" "bySource" "[J" .null ∧ Fld Z h d0 "com/example/erotema/erotema/model/ToldEdges" "byTargetStart" "[I" .null ∧ Fld Z h d0 "com/example/erotema/erotema/model/ToldEdges" "byTarget" "[J" .null
set_option maxRecDepth 65536 in
set_option maxHeartbeats 40000000 in
theorem rm1 (l : Launch) (Z : State) (a0 : Array Value) (hw : ∀ d ∈ tables_1, d.before a0 Z = true) (ws : List Jvm.Cond) (d0 : Addr) (h0 : Heap) (n0 : Nat) (Z0 : n0 ≤ h0.size) (g_d0 : n0 ≤ d0) (E_d0 : Exa Z h0 d0 "com/example/erotema/erotema/model/ToldEdges") (F_sources_d0 : Fld Z h0 d0 "com/example/erotema/erotema/model/ToldEdges" "sources" "[I" .null) (F_properties_d0 : Fld Z h0 d0 "com/example/erotema/erotema/model/ToldEdges" "properties" "[I" .null) (F_targets_d0 : Fld Z h0 d0 "com/example/erotema/erotema/model/ToldEdges" "targets" "[I" .null) (F_added_d0 : Fld Z h0 d0 "com/example/erotema/erotema/model/ToldEdges" "added" "I" (.int (0 : Int32))) (F_bySourceStart_d0 : Fld Z h0 d0 "com/example/erotema/erotema/model/ToldEdges" "bySourceStart" "[I" .null) (F_bySource_d0 : Fld Z h0 d0 "com/example/erotema/erotema/model/ToldEdges" "bySource" "[J" .null) (F_byTargetStart_d0 : Fld Z h0 d0 "com/example/erotema/erotema/model/ToldEdges" "byTargetStart" "[I" .null) (F_byTarget_d0 : Fld Z h0 d0 "com/example/erotema/erotema/model/ToldEdges" "byTarget" "[J" .null) :
    MetFree l (⟨"com/example/erotema/erotema/model/ToldEdges", "<init>", "()V"⟩ : MethodName) (head1 (Jvm.Cond.code (⟨"com/example/erotema/erotema/model/ToldEdges", "<init>", "()V"⟩ : MethodName) prog_15_method_1_code 1 none :: ws) ({ frames := 1, cells := 3, slots := 3072, locals := 12 } : Room)) (fun a U => a = #[(.ref d0)] ∧ Z.Warmed39 U.vm ∧ U.heap = h0) (fun _ _ _ _ _ => True) (fun _ U o U' => ∃ v L, o = .returned v ∧ Q1 Z d0 h0 n0 v U'.heap L ∧ FrameEnd U o U' L ({ frames := 1, cells := 3, slots := 3072, locals := 12 } : Room).cells ({ frames := 1, cells := 3, slots := 3072, locals := 12 } : Room).slots) := by
  refine MetFree.of_bodySF (plainFor_of_name pn_com_example_erotema_erotema_model_ToldEdges) hisR ?_
  intro p e s m args below meth c s₁ Bd hml0 hP hK
  obtain ⟨rfl, hZ, hh⟩ := hP
  have hx := Bd.exec
  have hby := Bd.bytes
  have hlk : meth.locks = false := Bd.notSynchronized
  have hml : c.maxLocals = 1 := hml0
  have hown : s.vm.findClass "com/example/erotema/erotema/model/ToldEdges" = some m.cls := findClass_of_methodNamed Bd.named
  have hnm := (name_of_methodNamed Bd.named Bd.method).1
  have X0 : Stand p l e ({ frames := 1, cells := 3, slots := 3072, locals := 12 } : Room) s m #[(.ref d0)] below meth c s₁ [] 0 0 := Stand.of_body Bd
  have e0 : s₁.heap = h0 := by rw [← hh, Bd.state]; rfl
  have N0 := Fr.nil n0
  have K0 : Keep h0 h0 [d0] := Keep.refl h0 _
  show Wp p e below (Out s (Q1 Z d0 h0 n0) ({ frames := 1, cells := 3, slots := 3072, locals := 12 } : Room).cells ({ frames := 1, cells := 3, slots := 3072, locals := 12 } : Room).slots) (s₁.setTop (entryFrame m #[(.ref d0)] 1))
  rw [ef_1_0]
  show Wp p e below _ (s₁.setTop (mkF m 0 #[.val (.ref d0)] []))
  refine Wp.step (fun t k => XS.aloadN X0.here hx rfl (hb hby d1_0) rfl rfl k) ?_
  show Wp p e below _ (s₁.setTop (mkF m 1 #[.val (.ref d0)] [(.ref d0)]))
  obtain ⟨T1, X1, e1, st1⟩ := initO X0 hx hZ hown (hw _ (List.mem_of_getElem? (i := 7) rfl)) (hw _ (List.mem_of_getElem? (i := 8) rfl)) (hw _ (List.mem_of_getElem? (i := 9) rfl)) e0 (g := (mkF m 1 #[.val (.ref d0)] [(.ref d0)])) rfl (by rw [hml]; rfl) rfl (hb hby d1_1) (by decide) (W := 0) (by show 2 * 0 + _ ≤ _; exact Nat.le_of_eq rfl) (by decide)
  refine Wp.step st1 ?_
  show Wp p e below _ (T1.setTop (mkF m 4 #[.val (.ref d0)] []))
  refine Wp.step (fun t k => XS.aloadN X1.here hx rfl (hb hby d1_4) rfl rfl k) ?_
  show Wp p e below _ (T1.setTop (mkF m 5 #[.val (.ref d0)] [(.ref d0)]))
  refine Wp.step (fun t k => XS.sipush X1.here hx rfl (hb hby d1_5) k) ?_
  show Wp p e below _ (T1.setTop (mkF m 8 #[.val (.ref d0)] [(.int (1024 : Int32)), (.ref d0)]))
  obtain ⟨T2, h2, k2, X2, e2, E2, A2, st2⟩ := newP X1 hx hZ (hw _ (List.mem_of_getElem? (i := 0) rfl)) e1 (g := (mkF m 8 #[.val (.ref d0)] [(.int (1024 : Int32)), (.ref d0)])) rfl (hb hby d1_8) rfl (by decide) (cap := 1024) (by decide) (by decide) (by decide) (by decide)
  obtain ⟨b2, g2⟩ : ∃ z, z = h0.size := ⟨_, rfl⟩
  rw [← g2] at A2 st2
  have g_b2 : n0 ≤ b2 := Nat.le_trans (Nat.le_trans Z0 K0.1) (Nat.le_of_eq g2.symm)
  have sz_b2 : h0.size ≤ b2 := Nat.le_trans K0.1 (Nat.le_of_eq g2.symm)
  have ne_d0_b2 : d0 ≠ b2 := Nat.ne_of_lt (Nat.lt_of_lt_of_le E_d0.lt (Nat.le_of_eq g2.symm))
  have c3 := E_d0.ext E2
  have c4 := F_sources_d0.ext E2
  have c5 := F_properties_d0.ext E2
  have c6 := F_targets_d0.ext E2
  have c7 := F_added_d0.ext E2
  have c8 := F_bySourceStart_d0.ext E2
  have c9 := F_bySource_d0.ext E2
  have c10 := F_byTargetStart_d0.ext E2
  have c11 := F_byTarget_d0.ext E2
  have K12 := K0.ext E2
  have Z2 : (newA k2 .int (1024 : Int32)).slots.size = ((1024 : Int32)).toNatClampNeg := sz_new _ _ _
  have nn2 : ¬ (1024 : Int32) < 0 := (by decide)
  refine Wp.step st2 ?_
  have B2 := own_IA.new A2 nn2 rfl
  show Wp p e below _ (T2.setTop (mkF m 10 #[.val (.ref d0)] [(.ref b2), (.ref d0)]))
  obtain ⟨T13, h13, X13, e13, W13, st13⟩ := putF X2 hx hZ hown (host := "") (Or.inl (hw _ (List.mem_of_getElem? (i := 10) rfl))) Via.refl e2 c4 c3 (Or.inl (hw _ (List.mem_of_getElem? (i := 11) rfl))) (hw _ (List.mem_of_getElem? (i := 2) rfl)) (ty := (.array .int)) (by decide) rfl rfl (g := (mkF m 10 #[.val (.ref d0)] [(.ref b2), (.ref d0)])) rfl rfl (hb hby d1_10)
  have c14 := c3.wr W13
  have c15 := c5.other W13 (Or.inr (slot_ne (Or.inl (hw _ (List.mem_of_getElem? (i := 13) rfl))) (Or.inl (hw _ (List.mem_of_getElem? (i := 11) rfl))) (by decide) (t := (.array .int)) (t' := (.array .int)) (by decide) (by decide)))
  have c16 := c6.other W13 (Or.inr (slot_ne (Or.inl (hw _ (List.mem_of_getElem? (i := 15) rfl))) (Or.inl (hw _ (List.mem_of_getElem? (i := 11) rfl))) (by decide) (t := (.array .int)) (t' := (.array .int)) (by decide) (by decide)))
  have c17 := c7.other W13 (Or.inr (slot_ne (Or.inl (hw _ (List.mem_of_getElem? (i := 24) rfl))) (Or.inl (hw _ (List.mem_of_getElem? (i := 11) rfl))) (by decide) (t := .int) (t' := (.array .int)) (by decide) (by decide)))
  have c18 := c8.other W13 (Or.inr (slot_ne (Or.inl (hw _ (List.mem_of_getElem? (i := 22) rfl))) (Or.inl (hw _ (List.mem_of_getElem? (i := 11) rfl))) (by decide) (t := (.array .int)) (t' := (.array .int)) (by decide) (by decide)))
  have c19 := c9.other W13 (Or.inr (slot_ne (Or.inl (hw _ (List.mem_of_getElem? (i := 70) rfl))) (Or.inl (hw _ (List.mem_of_getElem? (i := 11) rfl))) (by decide) (t := (.array .long)) (t' := (.array .int)) (by decide) (by decide)))
  have c20 := c10.other W13 (Or.inr (slot_ne (Or.inl (hw _ (List.mem_of_getElem? (i := 72) rfl))) (Or.inl (hw _ (List.mem_of_getElem? (i := 11) rfl))) (by decide) (t := (.array .int)) (t' := (.array .int)) (by decide) (by decide)))
  have c21 := c11.other W13 (Or.inr (slot_ne (Or.inl (hw _ (List.mem_of_getElem? (i := 74) rfl))) (Or.inl (hw _ (List.mem_of_getElem? (i := 11) rfl))) (by decide) (t := (.array .long)) (t' := (.array .int)) (by decide) (by decide)))
  have B22 := B2.other W13 (Ne.symm ne_d0_b2)
  have c23 := c4.same W13
  have K24 := K12.wr W13 (Or.inl (List.mem_of_getElem? (i := 0) rfl))
  have N13 := Fr.snoc X13 N0 g_d0
  refine Wp.step st13 ?_
  show Wp p e below _ (T13.setTop (mkF m 13 #[.val (.ref d0)] []))
  refine Wp.step (fun t k => XS.aloadN X13.here hx rfl (hb hby d1_13) rfl rfl k) ?_
  show Wp p e below _ (T13.setTop (mkF m 14 #[.val (.ref d0)] [(.ref d0)]))
  refine Wp.step (fun t k => XS.sipush X13.here hx rfl (hb hby d1_14) k) ?_
  show Wp p e below _ (T13.setTop (mkF m 17 #[.val (.ref d0)] [(.int (1024 : Int32)), (.ref d0)]))
  obtain ⟨T25, h25, k25, X25, e25, E25, A25, st25⟩ := newP X13 hx hZ (hw _ (List.mem_of_getElem? (i := 0) rfl)) e13 (g := (mkF m 17 #[.val (.ref d0)] [(.int (1024 : Int32)), (.ref d0)])) rfl (hb hby d1_17) rfl (by decide) (cap := 1024) (by decide) (by decide) (by decide) (by decide)
  obtain ⟨b25, g25⟩ : ∃ z, z = h13.size := ⟨_, rfl⟩
  rw [← g25] at A25 st25
  have g_b25 : n0 ≤ b25 := Nat.le_trans (Nat.le_trans Z0 K24.1) (Nat.le_of_eq g25.symm)
  have sz_b25 : h0.size ≤ b25 := Nat.le_trans K24.1 (Nat.le_of_eq g25.symm)
  have ne_b2_b25 : b2 ≠ b25 := Nat.ne_of_lt (Nat.lt_of_lt_of_le B22.lt (Nat.le_of_eq g25.symm))
  have ne_d0_b25 : d0 ≠ b25 := Nat.ne_of_lt (Nat.lt_of_lt_of_le c14.lt (Nat.le_of_eq g25.symm))
  have c26 := c14.ext E25
  have c27 := c23.ext E25
  have c28 := c15.ext E25
  have c29 := c16.ext E25
  have c30 := c17.ext E25
  have c31 := c18.ext E25
  have c32 := c19.ext E25
  have c33 := c20.ext E25
  have c34 := c21.ext E25
  have B35 := B22.ext E25
  have K36 := K24.ext E25
  have Z25 : (newA k25 .int (1024 : Int32)).slots.size = ((1024 : Int32)).toNatClampNeg := sz_new _ _ _
  have nn25 : ¬ (1024 : Int32) < 0 := (by decide)
  refine Wp.step st25 ?_
  have B25 := own_IA.new A25 nn25 rfl
  show Wp p e below _ (T25.setTop (mkF m 19 #[.val (.ref d0)] [(.ref b25), (.ref d0)]))
  obtain ⟨T37, h37, X37, e37, W37, st37⟩ := putF X25 hx hZ hown (host := "") (Or.inl (hw _ (List.mem_of_getElem? (i := 12) rfl))) Via.refl e25 c28 c26 (Or.inl (hw _ (List.mem_of_getElem? (i := 13) rfl))) (hw _ (List.mem_of_getElem? (i := 2) rfl)) (ty := (.array .int)) (by decide) rfl rfl (g := (mkF m 19 #[.val (.ref d0)] [(.ref b25), (.ref d0)])) rfl rfl (hb hby d1_19)
  have c38 := c26.wr W37
  have c39 := c27.other W37 (Or.inr (slot_ne (Or.inl (hw _ (List.mem_of_getElem? (i := 11) rfl))) (Or.inl (hw _ (List.mem_of_getElem? (i := 13) rfl))) (by decide) (t := (.array .int)) (t' := (.array .int)) (by decide) (by decide)))
  have c40 := c29.other W37 (Or.inr (slot_ne (Or.inl (hw _ (List.mem_of_getElem? (i := 15) rfl))) (Or.inl (hw _ (List.mem_of_getElem? (i := 13) rfl))) (by decide) (t := (.array .int)) (t' := (.array .int)) (by decide) (by decide)))
  have c41 := c30.other W37 (Or.inr (slot_ne (Or.inl (hw _ (List.mem_of_getElem? (i := 24) rfl))) (Or.inl (hw _ (List.mem_of_getElem? (i := 13) rfl))) (by decide) (t := .int) (t' := (.array .int)) (by decide) (by decide)))
  have c42 := c31.other W37 (Or.inr (slot_ne (Or.inl (hw _ (List.mem_of_getElem? (i := 22) rfl))) (Or.inl (hw _ (List.mem_of_getElem? (i := 13) rfl))) (by decide) (t := (.array .int)) (t' := (.array .int)) (by decide) (by decide)))
  have c43 := c32.other W37 (Or.inr (slot_ne (Or.inl (hw _ (List.mem_of_getElem? (i := 70) rfl))) (Or.inl (hw _ (List.mem_of_getElem? (i := 13) rfl))) (by decide) (t := (.array .long)) (t' := (.array .int)) (by decide) (by decide)))
  have c44 := c33.other W37 (Or.inr (slot_ne (Or.inl (hw _ (List.mem_of_getElem? (i := 72) rfl))) (Or.inl (hw _ (List.mem_of_getElem? (i := 13) rfl))) (by decide) (t := (.array .int)) (t' := (.array .int)) (by decide) (by decide)))
  have c45 := c34.other W37 (Or.inr (slot_ne (Or.inl (hw _ (List.mem_of_getElem? (i := 74) rfl))) (Or.inl (hw _ (List.mem_of_getElem? (i := 13) rfl))) (by decide) (t := (.array .long)) (t' := (.array .int)) (by decide) (by decide)))
  have B46 := B35.other W37 (Ne.symm ne_d0_b2)
  have B47 := B25.other W37 (Ne.symm ne_d0_b25)
  have c48 := c28.same W37
  have K49 := K36.wr W37 (Or.inl (List.mem_of_getElem? (i := 0) rfl))
  have N37 := Fr.snoc X37 N13 g_d0
  refine Wp.step st37 ?_
  show Wp p e below _ (T37.setTop (mkF m 22 #[.val (.ref d0)] []))
  refine Wp.step (fun t k => XS.aloadN X37.here hx rfl (hb hby d1_22) rfl rfl k) ?_
  show Wp p e below _ (T37.setTop (mkF m 23 #[.val (.ref d0)] [(.ref d0)]))
  refine Wp.step (fun t k => XS.sipush X37.here hx rfl (hb hby d1_23) k) ?_
  show Wp p e below _ (T37.setTop (mkF m 26 #[.val (.ref d0)] [(.int (1024 : Int32)), (.ref d0)]))
  obtain ⟨T50, h50, k50, X50, e50, E50, A50, st50⟩ := newP X37 hx hZ (hw _ (List.mem_of_getElem? (i := 0) rfl)) e37 (g := (mkF m 26 #[.val (.ref d0)] [(.int (1024 : Int32)), (.ref d0)])) rfl (hb hby d1_26) rfl (by decide) (cap := 1024) (by decide) (by decide) (by decide) (by decide)
  obtain ⟨b50, g50⟩ : ∃ z, z = h37.size := ⟨_, rfl⟩
  rw [← g50] at A50 st50
  have g_b50 : n0 ≤ b50 := Nat.le_trans (Nat.le_trans Z0 K49.1) (Nat.le_of_eq g50.symm)
  have sz_b50 : h0.size ≤ b50 := Nat.le_trans K49.1 (Nat.le_of_eq g50.symm)
  have ne_b2_b50 : b2 ≠ b50 := Nat.ne_of_lt (Nat.lt_of_lt_of_le B46.lt (Nat.le_of_eq g50.symm))
  have ne_b25_b50 : b25 ≠ b50 := Nat.ne_of_lt (Nat.lt_of_lt_of_le B47.lt (Nat.le_of_eq g50.symm))
  have ne_d0_b50 : d0 ≠ b50 := Nat.ne_of_lt (Nat.lt_of_lt_of_le c38.lt (Nat.le_of_eq g50.symm))
  have c51 := c38.ext E50
  have c52 := c39.ext E50
  have c53 := c48.ext E50
  have c54 := c40.ext E50
  have c55 := c41.ext E50
  have c56 := c42.ext E50
  have c57 := c43.ext E50
  have c58 := c44.ext E50
  have c59 := c45.ext E50
  have B60 := B46.ext E50
  have B61 := B47.ext E50
  have K62 := K49.ext E50
  have Z50 : (newA k50 .int (1024 : Int32)).slots.size = ((1024 : Int32)).toNatClampNeg := sz_new _ _ _
  have nn50 : ¬ (1024 : Int32) < 0 := (by decide)
  refine Wp.step st50 ?_
  have B50 := own_IA.new A50 nn50 rfl
  show Wp p e below _ (T50.setTop (mkF m 28 #[.val (.ref d0)] [(.ref b50), (.ref d0)]))
  obtain ⟨T63, h63, X63, e63, W63, st63⟩ := putF X50 hx hZ hown (host := "") (Or.inl (hw _ (List.mem_of_getElem? (i := 14) rfl))) Via.refl e50 c54 c51 (Or.inl (hw _ (List.mem_of_getElem? (i := 15) rfl))) (hw _ (List.mem_of_getElem? (i := 2) rfl)) (ty := (.array .int)) (by decide) rfl rfl (g := (mkF m 28 #[.val (.ref d0)] [(.ref b50), (.ref d0)])) rfl rfl (hb hby d1_28)
  have c64 := c51.wr W63
  have c65 := c52.other W63 (Or.inr (slot_ne (Or.inl (hw _ (List.mem_of_getElem? (i := 11) rfl))) (Or.inl (hw _ (List.mem_of_getElem? (i := 15) rfl))) (by decide) (t := (.array .int)) (t' := (.array .int)) (by decide) (by decide)))
  have c66 := c53.other W63 (Or.inr (slot_ne (Or.inl (hw _ (List.mem_of_getElem? (i := 13) rfl))) (Or.inl (hw _ (List.mem_of_getElem? (i := 15) rfl))) (by decide) (t := (.array .int)) (t' := (.array .int)) (by decide) (by decide)))
  have c67 := c55.other W63 (Or.inr (slot_ne (Or.inl (hw _ (List.mem_of_getElem? (i := 24) rfl))) (Or.inl (hw _ (List.mem_of_getElem? (i := 15) rfl))) (by decide) (t := .int) (t' := (.array .int)) (by decide) (by decide)))
  have c68 := c56.other W63 (Or.inr (slot_ne (Or.inl (hw _ (List.mem_of_getElem? (i := 22) rfl))) (Or.inl (hw _ (List.mem_of_getElem? (i := 15) rfl))) (by decide) (t := (.array .int)) (t' := (.array .int)) (by decide) (by decide)))
  have c69 := c57.other W63 (Or.inr (slot_ne (Or.inl (hw _ (List.mem_of_getElem? (i := 70) rfl))) (Or.inl (hw _ (List.mem_of_getElem? (i := 15) rfl))) (by decide) (t := (.array .long)) (t' := (.array .int)) (by decide) (by decide)))
  have c70 := c58.other W63 (Or.inr (slot_ne (Or.inl (hw _ (List.mem_of_getElem? (i := 72) rfl))) (Or.inl (hw _ (List.mem_of_getElem? (i := 15) rfl))) (by decide) (t := (.array .int)) (t' := (.array .int)) (by decide) (by decide)))
  have c71 := c59.other W63 (Or.inr (slot_ne (Or.inl (hw _ (List.mem_of_getElem? (i := 74) rfl))) (Or.inl (hw _ (List.mem_of_getElem? (i := 15) rfl))) (by decide) (t := (.array .long)) (t' := (.array .int)) (by decide) (by decide)))
  have B72 := B60.other W63 (Ne.symm ne_d0_b2)
  have B73 := B61.other W63 (Ne.symm ne_d0_b25)
  have B74 := B50.other W63 (Ne.symm ne_d0_b50)
  have c75 := c54.same W63
  have K76 := K62.wr W63 (Or.inl (List.mem_of_getElem? (i := 0) rfl))
  have N63 := Fr.snoc X63 N37 g_d0
  refine Wp.step st63 ?_
  show Wp p e below _ (T63.setTop (mkF m 31 #[.val (.ref d0)] []))
  refine Wp.retV X63 hx Bd.returns (hb hby d1_31) hlk ?_ (by decide) (by decide)
  show Q1 Z d0 h0 n0 none T63.heap _
  rw [e63]
  exact ⟨b2, b25, b50, rfl, N63, K76, sz_b2, sz_b25, sz_b50, ne_b2_b25, ne_b2_b50, ne_b25_b50, B72, B73, B74, c64, c65, c66, c75, c67, c68, c69, c70, c71⟩
theorem d14_0 : decode prog_15_method_2_code 0 = .ok (.aload_n 0, 1) := by decide +kernel
theorem d14_1 : decode prog_15_method_2_code 1 = .ok (.getfield 19, 3) := by decide +kernel
theorem d14_4 : decode prog_15_method_2_code 4 = .ok (.aload_n 0, 1) := by decide +kernel
theorem d14_5 : decode prog_15_method_2_code 5 = .ok (.getfield 7, 3) := by decide +kernel
theorem d14_8 : decode prog_15_method_2_code 8 = .ok (.arraylength, 1) := by decide +kernel
theorem d14_9 : decode prog_15_method_2_code 9 = .ok (.if_icmp .ne 54, 3) := by decide +kernel
theorem d14_63 : decode prog_15_method_2_code 63 = .ok (.aload_n 0, 1) := by decide +kernel
theorem d14_64 : decode prog_15_method_2_code 64 = .ok (.getfield 7, 3) := by decide +kernel
theorem d14_67 : decode prog_15_method_2_code 67 = .ok (.aload_n 0, 1) := by decide +kernel
theorem d14_68 : decode prog_15_method_2_code 68 = .ok (.getfield 19, 3) := by decide +kernel
theorem d14_71 : decode prog_15_method_2_code 71 = .ok (.iload_n 1, 1) := by decide +kernel
theorem d14_72 : decode prog_15_method_2_code 72 = .ok (.iastore, 1) := by decide +kernel
theorem d14_73 : decode prog_15_method_2_code 73 = .ok (.aload_n 0, 1) := by decide +kernel
theorem d14_74 : decode prog_15_method_2_code 74 = .ok (.getfield 13, 3) := by decide +kernel
theorem d14_77 : decode prog_15_method_2_code 77 = .ok (.aload_n 0, 1) := by decide +kernel
theorem d14_78 : decode prog_15_method_2_code 78 = .ok (.getfield 19, 3) := by decide +kernel
theorem d14_81 : decode prog_15_method_2_code 81 = .ok (.iload_n 2, 1) := by decide +kernel
theorem d14_82 : decode prog_15_method_2_code 82 = .ok (.iastore, 1) := by decide +kernel
theorem d14_83 : decode prog_15_method_2_code 83 = .ok (.aload_n 0, 1) := by decide +kernel
theorem d14_84 : decode prog_15_method_2_code 84 = .ok (.getfield 16, 3) := by decide +kernel
theorem d14_87 : decode prog_15_method_2_code 87 = .ok (.aload_n 0, 1) := by decide +kernel
theorem d14_88 : decode prog_15_method_2_code 88 = .ok (.getfield 19, 3) := by decide +kernel
theorem d14_91 : decode prog_15_method_2_code 91 = .ok (.iload_n 3, 1) := by decide +kernel
theorem d14_92 : decode prog_15_method_2_code 92 = .ok (.iastore, 1) := by decide +kernel
theorem d14_93 : decode prog_15_method_2_code 93 = .ok (.aload_n 0, 1) := by decide +kernel
theorem d14_94 : decode prog_15_method_2_code 94 = .ok (.dup, 1) := by decide +kernel
theorem d14_95 : decode prog_15_method_2_code 95 = .ok (.getfield 19, 3) := by decide +kernel
theorem d14_98 : decode prog_15_method_2_code 98 = .ok (.iconst 1, 1) := by decide +kernel
theorem d14_99 : decode prog_15_method_2_code 99 = .ok (.iadd, 1) := by decide +kernel
theorem d14_100 : decode prog_15_method_2_code 100 = .ok (.putfield 19, 3) := by decide +kernel
theorem d14_103 : decode prog_15_method_2_code 103 = .ok (.return_, 1) := by decide +kernel
theorem ef_14_0000 (m : MethodId) (x0 : Addr) (x1 : Int32) (x2 : Int32) (x3 : Int32) : entryFrame m #[(.ref x0), (.int x1), (.int x2), (.int x3)] 4 = mkF m 0 #[.val (.ref x0), .val (.int x1), .val (.int x2), .val (.int x3)] [] := by first | (simp [entryFrame, mkF, argsToLocals, Value.category]; done) | rfl
def Q14 (Z : State) (d0 : Addr) (u0 : Int32) (u1 : Int32) (u2 : Int32) (d1 : Addr) (d2 : Addr) (d3 : Addr) (ad : Nat) (fa1 : Nat → Int32) (fa2 : Nat → Int32) (fa3 : Nat → Int32) (h0 : Heap) (n0 : Nat) (v : Option Value) (h : Heap) (L : List Loc) : Prop := v = none ∧ Fr n0 L ∧ Keep h0 h [d0, d1, d2, d3] ∧ Exa Z h d0 "com/example/erotema/erotema/model/ToldEdges" ∧ Fld Z h d0 "com/example/erotema/erotema/model/ToldEdges" "sources" "[I" (.ref d1) ∧ Fld Z h d0 "com/example/erotema/erotema/model/ToldEdges" "properties" "[I" (.ref d2) ∧ Fld Z h d0 "com/example/erotema/erotema/model/ToldEdges" "targets" "[I" (.ref d3) ∧ Fld Z h d0 "com/example/erotema/erotema/model/ToldEdges" "added" "I" (.int (Int32.ofNat (ad + 1))) ∧ Fld Z h d0 "com/example/erotema/erotema/model/ToldEdges" "bySourceStart" "[I" .null ∧ Fld Z h d0 "com/example/erotema/erotema/model/ToldEdges" "bySource" "[J" .null ∧ Fld Z h d0 "com/example/erotema/erotema/model/ToldEdges" "byTargetStart" "[I" .null ∧ Fld Z h d0 "com/example/erotema/erotema/model/ToldEdges" "byTarget" "[J" .null ∧ own_IA .int Z h d1 (Int32.ofNat 1024) (own_upd fa1 ad u0) ∧ own_IA .int Z h d2 (Int32.ofNat 1024) (own_upd fa2 ad u1) ∧ own_IA .int Z h d3 (Int32.ofNat 1024) (own_upd fa3 ad u2)
set_option maxRecDepth 65536 in
set_option maxHeartbeats 40000000 in
theorem rm14 (l : Launch) (Z : State) (a0 : Array Value) (hw : ∀ d ∈ tables_1, d.before a0 Z = true) (ws : List Jvm.Cond) (d0 : Addr) (u0 : Int32) (u1 : Int32) (u2 : Int32) (d1 : Addr) (d2 : Addr) (d3 : Addr) (ad : Nat) (fa1 : Nat → Int32) (fa2 : Nat → Int32) (fa3 : Nat → Int32) (h0 : Heap) (n0 : Nat) (Z0 : n0 ≤ h0.size) (g_d0 : n0 ≤ d0) (E_d0 : Exa Z h0 d0 "com/example/erotema/erotema/model/ToldEdges") (F_sources_d0 : Fld Z h0 d0 "com/example/erotema/erotema/model/ToldEdges" "sources" "[I" (.ref d1)) (F_properties_d0 : Fld Z h0 d0 "com/example/erotema/erotema/model/ToldEdges" "properties" "[I" (.ref d2)) (F_targets_d0 : Fld Z h0 d0 "com/example/erotema/erotema/model/ToldEdges" "targets" "[I" (.ref d3)) (F_added_d0 : Fld Z h0 d0 "com/example/erotema/erotema/model/ToldEdges" "added" "I" (.int (Int32.ofNat ad))) (F_bySourceStart_d0 : Fld Z h0 d0 "com/example/erotema/erotema/model/ToldEdges" "bySourceStart" "[I" .null) (F_bySource_d0 : Fld Z h0 d0 "com/example/erotema/erotema/model/ToldEdges" "bySource" "[J" .null) (F_byTargetStart_d0 : Fld Z h0 d0 "com/example/erotema/erotema/model/ToldEdges" "byTargetStart" "[I" .null) (F_byTarget_d0 : Fld Z h0 d0 "com/example/erotema/erotema/model/ToldEdges" "byTarget" "[J" .null) (g_d1 : n0 ≤ d1) (g_d2 : n0 ≤ d2) (g_d3 : n0 ≤ d3) (ne_d1_d0 : d1 ≠ d0) (ne_d2_d0 : d2 ≠ d0) (ne_d3_d0 : d3 ≠ d0) (ne_d1_d2 : d1 ≠ d2) (ne_d1_d3 : d1 ≠ d3) (ne_d2_d3 : d2 ≠ d3) (B_d1 : own_IA .int Z h0 d1 (Int32.ofNat 1024) fa1) (B_d2 : own_IA .int Z h0 d2 (Int32.ofNat 1024) fa2) (B_d3 : own_IA .int Z h0 d3 (Int32.ofNat 1024) fa3) (had : ad ≤ 9) :
    MetFree l (⟨"com/example/erotema/erotema/model/ToldEdges", "add", "(III)V"⟩ : MethodName) (head1 (Jvm.Cond.code (⟨"com/example/erotema/erotema/model/ToldEdges", "add", "(III)V"⟩ : MethodName) prog_15_method_2_code 4 none :: ws) ({ frames := 0, cells := 0, slots := 0, locals := 0 } : Room)) (fun a U => a = #[(.ref d0), (.int u0), (.int u1), (.int u2)] ∧ Z.Warmed39 U.vm ∧ U.heap = h0) (fun _ _ _ _ _ => True) (fun _ U o U' => ∃ v L, o = .returned v ∧ Q14 Z d0 u0 u1 u2 d1 d2 d3 ad fa1 fa2 fa3 h0 n0 v U'.heap L ∧ FrameEnd U o U' L ({ frames := 0, cells := 0, slots := 0, locals := 0 } : Room).cells ({ frames := 0, cells := 0, slots := 0, locals := 0 } : Room).slots) := by
  refine MetFree.of_bodySF (plainFor_of_name pn_com_example_erotema_erotema_model_ToldEdges) hisR ?_
  intro p e s m args below meth c s₁ Bd hml0 hP hK
  obtain ⟨rfl, hZ, hh⟩ := hP
  have hx := Bd.exec
  have hby := Bd.bytes
  have hlk : meth.locks = false := Bd.notSynchronized
  have hml : c.maxLocals = 4 := hml0
  have hown : s.vm.findClass "com/example/erotema/erotema/model/ToldEdges" = some m.cls := findClass_of_methodNamed Bd.named
  have hnm := (name_of_methodNamed Bd.named Bd.method).1
  have X0 : Stand p l e ({ frames := 0, cells := 0, slots := 0, locals := 0 } : Room) s m #[(.ref d0), (.int u0), (.int u1), (.int u2)] below meth c s₁ [] 0 0 := Stand.of_body Bd
  have e0 : s₁.heap = h0 := by rw [← hh, Bd.state]; rfl
  have N0 := Fr.nil n0
  have K0 : Keep h0 h0 [d0, d1, d2, d3] := Keep.refl h0 _
  show Wp p e below (Out s (Q14 Z d0 u0 u1 u2 d1 d2 d3 ad fa1 fa2 fa3 h0 n0) ({ frames := 0, cells := 0, slots := 0, locals := 0 } : Room).cells ({ frames := 0, cells := 0, slots := 0, locals := 0 } : Room).slots) (s₁.setTop (entryFrame m #[(.ref d0), (.int u0), (.int u1), (.int u2)] 4))
  rw [ef_14_0000]
  show Wp p e below _ (s₁.setTop (mkF m 0 #[.val (.ref d0), .val (.int u0), .val (.int u1), .val (.int u2)] []))
  refine Wp.step (fun t k => XS.aloadN X0.here hx rfl (hb hby d14_0) rfl rfl k) ?_
  show Wp p e below _ (s₁.setTop (mkF m 1 #[.val (.ref d0), .val (.int u0), .val (.int u1), .val (.int u2)] [(.ref d0)]))
  obtain ⟨T1, X1, e1, st1⟩ := getF X0 hx hZ hown (host := "") (Or.inl (hw _ (List.mem_of_getElem? (i := 23) rfl))) Via.refl e0 F_added_d0 (g := (mkF m 1 #[.val (.ref d0), .val (.int u0), .val (.int u1), .val (.int u2)] [(.ref d0)])) rfl rfl (hb hby d14_1)
  refine Wp.step st1 ?_
  show Wp p e below _ (T1.setTop (mkF m 4 #[.val (.ref d0), .val (.int u0), .val (.int u1), .val (.int u2)] [(.int (Int32.ofNat ad))]))
  refine Wp.step (fun t k => XS.aloadN X1.here hx rfl (hb hby d14_4) rfl rfl k) ?_
  show Wp p e below _ (T1.setTop (mkF m 5 #[.val (.ref d0), .val (.int u0), .val (.int u1), .val (.int u2)] [(.ref d0), (.int (Int32.ofNat ad))]))
  obtain ⟨T2, X2, e2, st2⟩ := getF X1 hx hZ hown (host := "") (Or.inl (hw _ (List.mem_of_getElem? (i := 10) rfl))) Via.refl e1 F_sources_d0 (g := (mkF m 5 #[.val (.ref d0), .val (.int u0), .val (.int u1), .val (.int u2)] [(.ref d0), (.int (Int32.ofNat ad))])) rfl rfl (hb hby d14_5)
  refine Wp.step st2 ?_
  show Wp p e below _ (T2.setTop (mkF m 8 #[.val (.ref d0), .val (.int u0), .val (.int u1), .val (.int u2)] [(.ref d1), (.int (Int32.ofNat ad))]))
  obtain ⟨cl3, Ar3, Sz3, Nn3, -⟩ := id B_d1
  refine Wp.step (X2.arraylength hx (by rw [e2]; exact Ar3.1) (State.isArrayOf_alike hZ.alike Ar3.2.1) (g := (mkF m 8 #[.val (.ref d0), .val (.int u0), .val (.int u1), .val (.int u2)] [(.ref d1), (.int (Int32.ofNat ad))])) rfl rfl (hb hby d14_8)) ?_
  rw [len_of Sz3 Nn3]
  show Wp p e below _ (T2.setTop (mkF m 9 #[.val (.ref d0), .val (.int u0), .val (.int u1), .val (.int u2)] [(.int (Int32.ofNat 1024)), (.int (Int32.ofNat ad))]))
  refine Wp.step (fun t k => XS.icmpYes X2.here hx rfl (pc0 := 9) (pc' := 63) rfl (hb hby d14_9) rfl (feq (show ¬ ((Int32.ofNat ad) = (Int32.ofNat 1024)) from fun q => absurd ((own_eq (by omega) (by omega)).mp q) (by omega))).2 (by decide) (by decide) k) ?_
  show Wp p e below _ (T2.setTop (mkF m 63 #[.val (.ref d0), .val (.int u0), .val (.int u1), .val (.int u2)] []))
  refine Wp.step (fun t k => XS.aloadN X2.here hx rfl (hb hby d14_63) rfl rfl k) ?_
  show Wp p e below _ (T2.setTop (mkF m 64 #[.val (.ref d0), .val (.int u0), .val (.int u1), .val (.int u2)] [(.ref d0)]))
  obtain ⟨T5, X5, e5, st5⟩ := getF X2 hx hZ hown (host := "") (Or.inl (hw _ (List.mem_of_getElem? (i := 10) rfl))) Via.refl e2 F_sources_d0 (g := (mkF m 64 #[.val (.ref d0), .val (.int u0), .val (.int u1), .val (.int u2)] [(.ref d0)])) rfl rfl (hb hby d14_64)
  refine Wp.step st5 ?_
  show Wp p e below _ (T5.setTop (mkF m 67 #[.val (.ref d0), .val (.int u0), .val (.int u1), .val (.int u2)] [(.ref d1)]))
  refine Wp.step (fun t k => XS.aloadN X5.here hx rfl (hb hby d14_67) rfl rfl k) ?_
  show Wp p e below _ (T5.setTop (mkF m 68 #[.val (.ref d0), .val (.int u0), .val (.int u1), .val (.int u2)] [(.ref d0), (.ref d1)]))
  obtain ⟨T6, X6, e6, st6⟩ := getF X5 hx hZ hown (host := "") (Or.inl (hw _ (List.mem_of_getElem? (i := 23) rfl))) Via.refl e5 F_added_d0 (g := (mkF m 68 #[.val (.ref d0), .val (.int u0), .val (.int u1), .val (.int u2)] [(.ref d0), (.ref d1)])) rfl rfl (hb hby d14_68)
  refine Wp.step st6 ?_
  show Wp p e below _ (T6.setTop (mkF m 71 #[.val (.ref d0), .val (.int u0), .val (.int u1), .val (.int u2)] [(.int (Int32.ofNat ad)), (.ref d1)]))
  refine Wp.step (fun t k => XS.iloadN X6.here hx rfl (hb hby d14_71) rfl k) ?_
  show Wp p e below _ (T6.setTop (mkF m 72 #[.val (.ref d0), .val (.int u0), .val (.int u1), .val (.int u2)] [(.int u0), (.int (Int32.ofNat ad)), (.ref d1)]))
  obtain ⟨cl7, Ar7, Sz7, Nn7, El7⟩ := id B_d1
  have hin7 : ¬ ((Int32.ofNat ad) < 0 ∨ cl7.slots.size ≤ ((Int32.ofNat ad)).toNatClampNeg) := inb_of Sz7 (own_inb (by omega) (by omega))
  obtain ⟨T7, h7, X7, e7, W7, st7⟩ := stI X6 hx hZ e6 Ar7 (j := (Int32.ofNat ad)) hin7 (g := (mkF m 72 #[.val (.ref d0), .val (.int u0), .val (.int u1), .val (.int u2)] [(.int u0), (.int (Int32.ofNat ad)), (.ref d1)])) rfl rfl (hb hby d14_72)
  have c8 := E_d0.wr W7
  have c9 := F_sources_d0.other W7 (Or.inl (Ne.symm ne_d1_d0))
  have c10 := F_properties_d0.other W7 (Or.inl (Ne.symm ne_d1_d0))
  have c11 := F_targets_d0.other W7 (Or.inl (Ne.symm ne_d1_d0))
  have c12 := F_added_d0.other W7 (Or.inl (Ne.symm ne_d1_d0))
  have c13 := F_bySourceStart_d0.other W7 (Or.inl (Ne.symm ne_d1_d0))
  have c14 := F_bySource_d0.other W7 (Or.inl (Ne.symm ne_d1_d0))
  have c15 := F_byTargetStart_d0.other W7 (Or.inl (Ne.symm ne_d1_d0))
  have c16 := F_byTarget_d0.other W7 (Or.inl (Ne.symm ne_d1_d0))
  have B17 := B_d2.other W7 (Ne.symm ne_d1_d2)
  have B18 := B_d3.other W7 (Ne.symm ne_d1_d3)
  have K19 := K0.wr W7 (Or.inl (List.mem_of_getElem? (i := 1) rfl))
  have N7 := Fr.snoc X7 N0 g_d1
  have B7 := own_IA.set Ar7 Sz7 Nn7 El7 W7 rfl
  rw [own_nat (a := ad) (by omega)] at B7
  refine Wp.step st7 ?_
  show Wp p e below _ (T7.setTop (mkF m 73 #[.val (.ref d0), .val (.int u0), .val (.int u1), .val (.int u2)] []))
  refine Wp.step (fun t k => XS.aloadN X7.here hx rfl (hb hby d14_73) rfl rfl k) ?_
  show Wp p e below _ (T7.setTop (mkF m 74 #[.val (.ref d0), .val (.int u0), .val (.int u1), .val (.int u2)] [(.ref d0)]))
  obtain ⟨T20, X20, e20, st20⟩ := getF X7 hx hZ hown (host := "") (Or.inl (hw _ (List.mem_of_getElem? (i := 12) rfl))) Via.refl e7 c10 (g := (mkF m 74 #[.val (.ref d0), .val (.int u0), .val (.int u1), .val (.int u2)] [(.ref d0)])) rfl rfl (hb hby d14_74)
  refine Wp.step st20 ?_
  show Wp p e below _ (T20.setTop (mkF m 77 #[.val (.ref d0), .val (.int u0), .val (.int u1), .val (.int u2)] [(.ref d2)]))
  refine Wp.step (fun t k => XS.aloadN X20.here hx rfl (hb hby d14_77) rfl rfl k) ?_
  show Wp p e below _ (T20.setTop (mkF m 78 #[.val (.ref d0), .val (.int u0), .val (.int u1), .val (.int u2)] [(.ref d0), (.ref d2)]))
  obtain ⟨T21, X21, e21, st21⟩ := getF X20 hx hZ hown (host := "") (Or.inl (hw _ (List.mem_of_getElem? (i := 23) rfl))) Via.refl e20 c12 (g := (mkF m 78 #[.val (.ref d0), .val (.int u0), .val (.int u1), .val (.int u2)] [(.ref d0), (.ref d2)])) rfl rfl (hb hby d14_78)
  refine Wp.step st21 ?_
  show Wp p e below _ (T21.setTop (mkF m 81 #[.val (.ref d0), .val (.int u0), .val (.int u1), .val (.int u2)] [(.int (Int32.ofNat ad)), (.ref d2)]))
  refine Wp.step (fun t k => XS.iloadN X21.here hx rfl (hb hby d14_81) rfl k) ?_
  show Wp p e below _ (T21.setTop (mkF m 82 #[.val (.ref d0), .val (.int u0), .val (.int u1), .val (.int u2)] [(.int u1), (.int (Int32.ofNat ad)), (.ref d2)]))
  obtain ⟨cl22, Ar22, Sz22, Nn22, El22⟩ := id B17
  have hin22 : ¬ ((Int32.ofNat ad) < 0 ∨ cl22.slots.size ≤ ((Int32.ofNat ad)).toNatClampNeg) := inb_of Sz22 (own_inb (by omega) (by omega))
  obtain ⟨T22, h22, X22, e22, W22, st22⟩ := stI X21 hx hZ e21 Ar22 (j := (Int32.ofNat ad)) hin22 (g := (mkF m 82 #[.val (.ref d0), .val (.int u0), .val (.int u1), .val (.int u2)] [(.int u1), (.int (Int32.ofNat ad)), (.ref d2)])) rfl rfl (hb hby d14_82)
  have c23 := c8.wr W22
  have c24 := c9.other W22 (Or.inl (Ne.symm ne_d2_d0))
  have c25 := c10.other W22 (Or.inl (Ne.symm ne_d2_d0))
  have c26 := c11.other W22 (Or.inl (Ne.symm ne_d2_d0))
  have c27 := c12.other W22 (Or.inl (Ne.symm ne_d2_d0))
  have c28 := c13.other W22 (Or.inl (Ne.symm ne_d2_d0))
  have c29 := c14.other W22 (Or.inl (Ne.symm ne_d2_d0))
  have c30 := c15.other W22 (Or.inl (Ne.symm ne_d2_d0))
  have c31 := c16.other W22 (Or.inl (Ne.symm ne_d2_d0))
  have B32 := B18.other W22 (Ne.symm ne_d2_d3)
  have B33 := B7.other W22 ne_d1_d2
  have K34 := K19.wr W22 (Or.inl (List.mem_of_getElem? (i := 2) rfl))
  have N22 := Fr.snoc X22 N7 g_d2
  have B22 := own_IA.set Ar22 Sz22 Nn22 El22 W22 rfl
  rw [own_nat (a := ad) (by omega)] at B22
  refine Wp.step st22 ?_
  show Wp p e below _ (T22.setTop (mkF m 83 #[.val (.ref d0), .val (.int u0), .val (.int u1), .val (.int u2)] []))
  refine Wp.step (fun t k => XS.aloadN X22.here hx rfl (hb hby d14_83) rfl rfl k) ?_
  show Wp p e below _ (T22.setTop (mkF m 84 #[.val (.ref d0), .val (.int u0), .val (.int u1), .val (.int u2)] [(.ref d0)]))
  obtain ⟨T35, X35, e35, st35⟩ := getF X22 hx hZ hown (host := "") (Or.inl (hw _ (List.mem_of_getElem? (i := 14) rfl))) Via.refl e22 c26 (g := (mkF m 84 #[.val (.ref d0), .val (.int u0), .val (.int u1), .val (.int u2)] [(.ref d0)])) rfl rfl (hb hby d14_84)
  refine Wp.step st35 ?_
  show Wp p e below _ (T35.setTop (mkF m 87 #[.val (.ref d0), .val (.int u0), .val (.int u1), .val (.int u2)] [(.ref d3)]))
  refine Wp.step (fun t k => XS.aloadN X35.here hx rfl (hb hby d14_87) rfl rfl k) ?_
  show Wp p e below _ (T35.setTop (mkF m 88 #[.val (.ref d0), .val (.int u0), .val (.int u1), .val (.int u2)] [(.ref d0), (.ref d3)]))
  obtain ⟨T36, X36, e36, st36⟩ := getF X35 hx hZ hown (host := "") (Or.inl (hw _ (List.mem_of_getElem? (i := 23) rfl))) Via.refl e35 c27 (g := (mkF m 88 #[.val (.ref d0), .val (.int u0), .val (.int u1), .val (.int u2)] [(.ref d0), (.ref d3)])) rfl rfl (hb hby d14_88)
  refine Wp.step st36 ?_
  show Wp p e below _ (T36.setTop (mkF m 91 #[.val (.ref d0), .val (.int u0), .val (.int u1), .val (.int u2)] [(.int (Int32.ofNat ad)), (.ref d3)]))
  refine Wp.step (fun t k => XS.iloadN X36.here hx rfl (hb hby d14_91) rfl k) ?_
  show Wp p e below _ (T36.setTop (mkF m 92 #[.val (.ref d0), .val (.int u0), .val (.int u1), .val (.int u2)] [(.int u2), (.int (Int32.ofNat ad)), (.ref d3)]))
  obtain ⟨cl37, Ar37, Sz37, Nn37, El37⟩ := id B32
  have hin37 : ¬ ((Int32.ofNat ad) < 0 ∨ cl37.slots.size ≤ ((Int32.ofNat ad)).toNatClampNeg) := inb_of Sz37 (own_inb (by omega) (by omega))
  obtain ⟨T37, h37, X37, e37, W37, st37⟩ := stI X36 hx hZ e36 Ar37 (j := (Int32.ofNat ad)) hin37 (g := (mkF m 92 #[.val (.ref d0), .val (.int u0), .val (.int u1), .val (.int u2)] [(.int u2), (.int (Int32.ofNat ad)), (.ref d3)])) rfl rfl (hb hby d14_92)
  have c38 := c23.wr W37
  have c39 := c24.other W37 (Or.inl (Ne.symm ne_d3_d0))
  have c40 := c25.other W37 (Or.inl (Ne.symm ne_d3_d0))
  have c41 := c26.other W37 (Or.inl (Ne.symm ne_d3_d0))
  have c42 := c27.other W37 (Or.inl (Ne.symm ne_d3_d0))
  have c43 := c28.other W37 (Or.inl (Ne.symm ne_d3_d0))
  have c44 := c29.other W37 (Or.inl (Ne.symm ne_d3_d0))
  have c45 := c30.other W37 (Or.inl (Ne.symm ne_d3_d0))
  have c46 := c31.other W37 (Or.inl (Ne.symm ne_d3_d0))
  have B47 := B33.other W37 ne_d1_d3
  have B48 := B22.other W37 ne_d2_d3
  have K49 := K34.wr W37 (Or.inl (List.mem_of_getElem? (i := 3) rfl))
  have N37 := Fr.snoc X37 N22 g_d3
  have B37 := own_IA.set Ar37 Sz37 Nn37 El37 W37 rfl
  rw [own_nat (a := ad) (by omega)] at B37
  refine Wp.step st37 ?_
  show Wp p e below _ (T37.setTop (mkF m 93 #[.val (.ref d0), .val (.int u0), .val (.int u1), .val (.int u2)] []))
  refine Wp.step (fun t k => XS.aloadN X37.here hx rfl (hb hby d14_93) rfl rfl k) ?_
  show Wp p e below _ (T37.setTop (mkF m 94 #[.val (.ref d0), .val (.int u0), .val (.int u1), .val (.int u2)] [(.ref d0)]))
  refine Wp.step (fun t k => XS.dup X37.here hx rfl (hb hby d14_94) rfl rfl k) ?_
  show Wp p e below _ (T37.setTop (mkF m 95 #[.val (.ref d0), .val (.int u0), .val (.int u1), .val (.int u2)] [(.ref d0), (.ref d0)]))
  obtain ⟨T50, X50, e50, st50⟩ := getF X37 hx hZ hown (host := "") (Or.inl (hw _ (List.mem_of_getElem? (i := 23) rfl))) Via.refl e37 c42 (g := (mkF m 95 #[.val (.ref d0), .val (.int u0), .val (.int u1), .val (.int u2)] [(.ref d0), (.ref d0)])) rfl rfl (hb hby d14_95)
  refine Wp.step st50 ?_
  show Wp p e below _ (T50.setTop (mkF m 98 #[.val (.ref d0), .val (.int u0), .val (.int u1), .val (.int u2)] [(.int (Int32.ofNat ad)), (.ref d0)]))
  refine Wp.step (fun t k => XS.iconst X50.here hx rfl (hb hby d14_98) k) ?_
  show Wp p e below _ (T50.setTop (mkF m 99 #[.val (.ref d0), .val (.int u0), .val (.int u1), .val (.int u2)] [(.int (1 : Int32)), (.int (Int32.ofNat ad)), (.ref d0)]))
  refine Wp.step (fun t k => XS.iadd X50.here hx rfl (hb hby d14_99) rfl k) ?_
  show Wp p e below _ (T50.setTop (mkF m 100 #[.val (.ref d0), .val (.int u0), .val (.int u1), .val (.int u2)] [(.int ((Int32.ofNat ad) + (1 : Int32))), (.ref d0)]))
  rw [show ((Int32.ofNat ad) + (1 : Int32)) = (Int32.ofNat (ad + 1)) from own_succ _]
  obtain ⟨T51, h51, X51, e51, W51, st51⟩ := putF X50 hx hZ hown (host := "") (Or.inl (hw _ (List.mem_of_getElem? (i := 23) rfl))) Via.refl e50 c42 c38 (Or.inl (hw _ (List.mem_of_getElem? (i := 24) rfl))) (hw _ (List.mem_of_getElem? (i := 2) rfl)) (ty := .int) (by decide) rfl rfl (g := (mkF m 100 #[.val (.ref d0), .val (.int u0), .val (.int u1), .val (.int u2)] [(.int (Int32.ofNat (ad + 1))), (.ref d0)])) rfl rfl (hb hby d14_100)
  have c52 := c38.wr W51
  have c53 := c39.other W51 (Or.inr (slot_ne (Or.inl (hw _ (List.mem_of_getElem? (i := 11) rfl))) (Or.inl (hw _ (List.mem_of_getElem? (i := 24) rfl))) (by decide) (t := (.array .int)) (t' := .int) (by decide) (by decide)))
  have c54 := c40.other W51 (Or.inr (slot_ne (Or.inl (hw _ (List.mem_of_getElem? (i := 13) rfl))) (Or.inl (hw _ (List.mem_of_getElem? (i := 24) rfl))) (by decide) (t := (.array .int)) (t' := .int) (by decide) (by decide)))
  have c55 := c41.other W51 (Or.inr (slot_ne (Or.inl (hw _ (List.mem_of_getElem? (i := 15) rfl))) (Or.inl (hw _ (List.mem_of_getElem? (i := 24) rfl))) (by decide) (t := (.array .int)) (t' := .int) (by decide) (by decide)))
  have c56 := c43.other W51 (Or.inr (slot_ne (Or.inl (hw _ (List.mem_of_getElem? (i := 22) rfl))) (Or.inl (hw _ (List.mem_of_getElem? (i := 24) rfl))) (by decide) (t := (.array .int)) (t' := .int) (by decide) (by decide)))
  have c57 := c44.other W51 (Or.inr (slot_ne (Or.inl (hw _ (List.mem_of_getElem? (i := 70) rfl))) (Or.inl (hw _ (List.mem_of_getElem? (i := 24) rfl))) (by decide) (t := (.array .long)) (t' := .int) (by decide) (by decide)))
  have c58 := c45.other W51 (Or.inr (slot_ne (Or.inl (hw _ (List.mem_of_getElem? (i := 72) rfl))) (Or.inl (hw _ (List.mem_of_getElem? (i := 24) rfl))) (by decide) (t := (.array .int)) (t' := .int) (by decide) (by decide)))
  have c59 := c46.other W51 (Or.inr (slot_ne (Or.inl (hw _ (List.mem_of_getElem? (i := 74) rfl))) (Or.inl (hw _ (List.mem_of_getElem? (i := 24) rfl))) (by decide) (t := (.array .long)) (t' := .int) (by decide) (by decide)))
  have B60 := B47.other W51 ne_d1_d0
  have B61 := B48.other W51 ne_d2_d0
  have B62 := B37.other W51 ne_d3_d0
  have c63 := c42.same W51
  have K64 := K49.wr W51 (Or.inl (List.mem_of_getElem? (i := 0) rfl))
  have N51 := Fr.snoc X51 N37 g_d0
  refine Wp.step st51 ?_
  show Wp p e below _ (T51.setTop (mkF m 103 #[.val (.ref d0), .val (.int u0), .val (.int u1), .val (.int u2)] []))
  refine Wp.retV X51 hx Bd.returns (hb hby d14_103) hlk ?_ (by decide) (by decide)
  show Q14 Z d0 u0 u1 u2 d1 d2 d3 ad fa1 fa2 fa3 h0 n0 none T51.heap _
  rw [e51]
  exact ⟨rfl, N51, K64, c52, c53, c54, c55, c63, c56, c57, c58, c59, B60, B61, B62⟩
theorem pd_28I5bI5bI5bI5bI295bJ : parseMethodDescriptor "(I[I[I[I[I)[J" = some ⟨[.int, (.array .int), (.array .int), (.array .int), (.array .int)], some (.array .long)⟩ := by decide +kernel
theorem pd_285bJI295bJ : parseMethodDescriptor "([JI)[J" = some ⟨[(.array .long), .int], some (.array .long)⟩ := by decide +kernel
theorem pd_28J29I : parseMethodDescriptor "(J)I" = some ⟨[.long], some .int⟩ := by decide +kernel
theorem d3_0 : decode prog_15_method_3_code 0 = .ok (.aload_n 0, 1) := by decide +kernel
theorem d3_1 : decode prog_15_method_3_code 1 = .ok (.iload_n 1, 1) := by decide +kernel
theorem d3_2 : decode prog_15_method_3_code 2 = .ok (.iconst 1, 1) := by decide +kernel
theorem d3_3 : decode prog_15_method_3_code 3 = .ok (.iadd, 1) := by decide +kernel
theorem d3_4 : decode prog_15_method_3_code 4 = .ok (.newarray .int, 2) := by decide +kernel
theorem d3_6 : decode prog_15_method_3_code 6 = .ok (.putfield 29, 3) := by decide +kernel
theorem d3_9 : decode prog_15_method_3_code 9 = .ok (.aload_n 0, 1) := by decide +kernel
theorem d3_10 : decode prog_15_method_3_code 10 = .ok (.getfield 19, 3) := by decide +kernel
theorem d3_13 : decode prog_15_method_3_code 13 = .ok (.aload_n 0, 1) := by decide +kernel
theorem d3_14 : decode prog_15_method_3_code 14 = .ok (.getfield 7, 3) := by decide +kernel
theorem d3_17 : decode prog_15_method_3_code 17 = .ok (.aload_n 0, 1) := by decide +kernel
theorem d3_18 : decode prog_15_method_3_code 18 = .ok (.getfield 13, 3) := by decide +kernel
theorem d3_21 : decode prog_15_method_3_code 21 = .ok (.aload_n 0, 1) := by decide +kernel
theorem d3_22 : decode prog_15_method_3_code 22 = .ok (.getfield 16, 3) := by decide +kernel
theorem d3_25 : decode prog_15_method_3_code 25 = .ok (.aload_n 0, 1) := by decide +kernel
theorem d3_26 : decode prog_15_method_3_code 26 = .ok (.getfield 29, 3) := by decide +kernel
theorem d3_29 : decode prog_15_method_3_code 29 = .ok (.invokestatic 32, 3) := by decide +kernel
theorem d3_32 : decode prog_15_method_3_code 32 = .ok (.astore_n 2, 1) := by decide +kernel
theorem d3_33 : decode prog_15_method_3_code 33 = .ok (.iconst 0, 1) := by decide +kernel
theorem d3_34 : decode prog_15_method_3_code 34 = .ok (.istore_n 3, 1) := by decide +kernel
theorem d3_35 : decode prog_15_method_3_code 35 = .ok (.iconst 0, 1) := by decide +kernel
theorem d3_36 : decode prog_15_method_3_code 36 = .ok (.istore 4, 2) := by decide +kernel
theorem d3_38 : decode prog_15_method_3_code 38 = .ok (.iload 4, 2) := by decide +kernel
theorem d3_40 : decode prog_15_method_3_code 40 = .ok (.iload_n 1, 1) := by decide +kernel
theorem d3_41 : decode prog_15_method_3_code 41 = .ok (.if_icmp .ge 85, 3) := by decide +kernel
theorem d3_44 : decode prog_15_method_3_code 44 = .ok (.aload_n 0, 1) := by decide +kernel
theorem d3_45 : decode prog_15_method_3_code 45 = .ok (.getfield 29, 3) := by decide +kernel
theorem d3_48 : decode prog_15_method_3_code 48 = .ok (.iload 4, 2) := by decide +kernel
theorem d3_50 : decode prog_15_method_3_code 50 = .ok (.iaload, 1) := by decide +kernel
theorem d3_51 : decode prog_15_method_3_code 51 = .ok (.istore 5, 2) := by decide +kernel
theorem d3_53 : decode prog_15_method_3_code 53 = .ok (.aload_n 0, 1) := by decide +kernel
theorem d3_54 : decode prog_15_method_3_code 54 = .ok (.getfield 29, 3) := by decide +kernel
theorem d3_57 : decode prog_15_method_3_code 57 = .ok (.iload 4, 2) := by decide +kernel
theorem d3_59 : decode prog_15_method_3_code 59 = .ok (.iconst 1, 1) := by decide +kernel
theorem d3_60 : decode prog_15_method_3_code 60 = .ok (.iadd, 1) := by decide +kernel
theorem d3_61 : decode prog_15_method_3_code 61 = .ok (.iaload, 1) := by decide +kernel
theorem d3_62 : decode prog_15_method_3_code 62 = .ok (.istore 6, 2) := by decide +kernel
theorem d3_64 : decode prog_15_method_3_code 64 = .ok (.aload_n 0, 1) := by decide +kernel
theorem d3_65 : decode prog_15_method_3_code 65 = .ok (.getfield 29, 3) := by decide +kernel
theorem d3_68 : decode prog_15_method_3_code 68 = .ok (.iload 4, 2) := by decide +kernel
theorem d3_70 : decode prog_15_method_3_code 70 = .ok (.iload_n 3, 1) := by decide +kernel
theorem d3_71 : decode prog_15_method_3_code 71 = .ok (.iastore, 1) := by decide +kernel
theorem d3_72 : decode prog_15_method_3_code 72 = .ok (.iload 5, 2) := by decide +kernel
theorem d3_74 : decode prog_15_method_3_code 74 = .ok (.istore 7, 2) := by decide +kernel
theorem d3_76 : decode prog_15_method_3_code 76 = .ok (.iload 7, 2) := by decide +kernel
theorem d3_78 : decode prog_15_method_3_code 78 = .ok (.iload 6, 2) := by decide +kernel
theorem d3_80 : decode prog_15_method_3_code 80 = .ok (.if_icmp .ge 40, 3) := by decide +kernel
theorem d3_83 : decode prog_15_method_3_code 83 = .ok (.iload 7, 2) := by decide +kernel
theorem d3_85 : decode prog_15_method_3_code 85 = .ok (.iload 5, 2) := by decide +kernel
theorem d3_87 : decode prog_15_method_3_code 87 = .ok (.if_icmp .eq 17, 3) := by decide +kernel
theorem d3_90 : decode prog_15_method_3_code 90 = .ok (.aload_n 2, 1) := by decide +kernel
theorem d3_91 : decode prog_15_method_3_code 91 = .ok (.iload 7, 2) := by decide +kernel
theorem d3_93 : decode prog_15_method_3_code 93 = .ok (.laload, 1) := by decide +kernel
theorem d3_94 : decode prog_15_method_3_code 94 = .ok (.aload_n 2, 1) := by decide +kernel
theorem d3_95 : decode prog_15_method_3_code 95 = .ok (.iload 7, 2) := by decide +kernel
theorem d3_97 : decode prog_15_method_3_code 97 = .ok (.iconst 1, 1) := by decide +kernel
theorem d3_98 : decode prog_15_method_3_code 98 = .ok (.isub, 1) := by decide +kernel
theorem d3_99 : decode prog_15_method_3_code 99 = .ok (.laload, 1) := by decide +kernel
theorem d3_100 : decode prog_15_method_3_code 100 = .ok (.lcmp, 1) := by decide +kernel
theorem d3_101 : decode prog_15_method_3_code 101 = .ok (.ifCond .eq 13, 3) := by decide +kernel
theorem d3_104 : decode prog_15_method_3_code 104 = .ok (.aload_n 2, 1) := by decide +kernel
theorem d3_105 : decode prog_15_method_3_code 105 = .ok (.iload_n 3, 1) := by decide +kernel
theorem d3_106 : decode prog_15_method_3_code 106 = .ok (.iinc 3 1, 3) := by decide +kernel
theorem d3_109 : decode prog_15_method_3_code 109 = .ok (.aload_n 2, 1) := by decide +kernel
theorem d3_110 : decode prog_15_method_3_code 110 = .ok (.iload 7, 2) := by decide +kernel
theorem d3_112 : decode prog_15_method_3_code 112 = .ok (.laload, 1) := by decide +kernel
theorem d3_113 : decode prog_15_method_3_code 113 = .ok (.lastore, 1) := by decide +kernel
theorem d3_114 : decode prog_15_method_3_code 114 = .ok (.iinc 7 1, 3) := by decide +kernel
theorem d3_117 : decode prog_15_method_3_code 117 = .ok (.goto (-41), 3) := by decide +kernel
theorem d3_120 : decode prog_15_method_3_code 120 = .ok (.iinc 4 1, 3) := by decide +kernel
theorem d3_123 : decode prog_15_method_3_code 123 = .ok (.goto (-85), 3) := by decide +kernel
theorem d3_126 : decode prog_15_method_3_code 126 = .ok (.aload_n 0, 1) := by decide +kernel
theorem d3_127 : decode prog_15_method_3_code 127 = .ok (.getfield 29, 3) := by decide +kernel
theorem d3_130 : decode prog_15_method_3_code 130 = .ok (.iload_n 1, 1) := by decide +kernel
theorem d3_131 : decode prog_15_method_3_code 131 = .ok (.iload_n 3, 1) := by decide +kernel
theorem d3_132 : decode prog_15_method_3_code 132 = .ok (.iastore, 1) := by decide +kernel
theorem d3_133 : decode prog_15_method_3_code 133 = .ok (.aload_n 0, 1) := by decide +kernel
theorem d3_134 : decode prog_15_method_3_code 134 = .ok (.aload_n 2, 1) := by decide +kernel
theorem d3_135 : decode prog_15_method_3_code 135 = .ok (.iload_n 3, 1) := by decide +kernel
theorem d3_136 : decode prog_15_method_3_code 136 = .ok (.invokestatic 36, 3) := by decide +kernel
theorem d3_139 : decode prog_15_method_3_code 139 = .ok (.putfield 39, 3) := by decide +kernel
theorem d3_142 : decode prog_15_method_3_code 142 = .ok (.aload_n 0, 1) := by decide +kernel
theorem d3_143 : decode prog_15_method_3_code 143 = .ok (.aconst_null, 1) := by decide +kernel
theorem d3_144 : decode prog_15_method_3_code 144 = .ok (.putfield 7, 3) := by decide +kernel
theorem d3_147 : decode prog_15_method_3_code 147 = .ok (.aload_n 0, 1) := by decide +kernel
theorem d3_148 : decode prog_15_method_3_code 148 = .ok (.aconst_null, 1) := by decide +kernel
theorem d3_149 : decode prog_15_method_3_code 149 = .ok (.putfield 13, 3) := by decide +kernel
theorem d3_152 : decode prog_15_method_3_code 152 = .ok (.aload_n 0, 1) := by decide +kernel
theorem d3_153 : decode prog_15_method_3_code 153 = .ok (.aconst_null, 1) := by decide +kernel
theorem d3_154 : decode prog_15_method_3_code 154 = .ok (.putfield 16, 3) := by decide +kernel
theorem d3_157 : decode prog_15_method_3_code 157 = .ok (.iload_n 3, 1) := by decide +kernel
theorem d3_158 : decode prog_15_method_3_code 158 = .ok (.newarray .int, 2) := by decide +kernel
theorem d3_160 : decode prog_15_method_3_code 160 = .ok (.astore 4, 2) := by decide +kernel
theorem d3_162 : decode prog_15_method_3_code 162 = .ok (.iload_n 3, 1) := by decide +kernel
theorem d3_163 : decode prog_15_method_3_code 163 = .ok (.newarray .int, 2) := by decide +kernel
theorem d3_165 : decode prog_15_method_3_code 165 = .ok (.astore 5, 2) := by decide +kernel
theorem d3_167 : decode prog_15_method_3_code 167 = .ok (.iload_n 3, 1) := by decide +kernel
theorem d3_168 : decode prog_15_method_3_code 168 = .ok (.newarray .int, 2) := by decide +kernel
theorem d3_170 : decode prog_15_method_3_code 170 = .ok (.astore 6, 2) := by decide +kernel
theorem d3_172 : decode prog_15_method_3_code 172 = .ok (.iconst 0, 1) := by decide +kernel
theorem d3_173 : decode prog_15_method_3_code 173 = .ok (.istore 7, 2) := by decide +kernel
theorem d3_175 : decode prog_15_method_3_code 175 = .ok (.iload 7, 2) := by decide +kernel
theorem d3_177 : decode prog_15_method_3_code 177 = .ok (.iload_n 1, 1) := by decide +kernel
theorem d3_178 : decode prog_15_method_3_code 178 = .ok (.if_icmp .ge 75, 3) := by decide +kernel
theorem d3_181 : decode prog_15_method_3_code 181 = .ok (.aload_n 0, 1) := by decide +kernel
theorem d3_182 : decode prog_15_method_3_code 182 = .ok (.getfield 29, 3) := by decide +kernel
theorem d3_185 : decode prog_15_method_3_code 185 = .ok (.iload 7, 2) := by decide +kernel
theorem d3_187 : decode prog_15_method_3_code 187 = .ok (.iaload, 1) := by decide +kernel
theorem d3_188 : decode prog_15_method_3_code 188 = .ok (.istore 8, 2) := by decide +kernel
theorem d3_190 : decode prog_15_method_3_code 190 = .ok (.iload 8, 2) := by decide +kernel
theorem d3_192 : decode prog_15_method_3_code 192 = .ok (.aload_n 0, 1) := by decide +kernel
theorem d3_193 : decode prog_15_method_3_code 193 = .ok (.getfield 29, 3) := by decide +kernel
theorem d3_196 : decode prog_15_method_3_code 196 = .ok (.iload 7, 2) := by decide +kernel
theorem d3_198 : decode prog_15_method_3_code 198 = .ok (.iconst 1, 1) := by decide +kernel
theorem d3_199 : decode prog_15_method_3_code 199 = .ok (.iadd, 1) := by decide +kernel
theorem d3_200 : decode prog_15_method_3_code 200 = .ok (.iaload, 1) := by decide +kernel
theorem d3_201 : decode prog_15_method_3_code 201 = .ok (.if_icmp .ge 46, 3) := by decide +kernel
theorem d3_204 : decode prog_15_method_3_code 204 = .ok (.aload 4, 2) := by decide +kernel
theorem d3_206 : decode prog_15_method_3_code 206 = .ok (.iload 8, 2) := by decide +kernel
theorem d3_208 : decode prog_15_method_3_code 208 = .ok (.iload 7, 2) := by decide +kernel
theorem d3_210 : decode prog_15_method_3_code 210 = .ok (.iastore, 1) := by decide +kernel
theorem d3_211 : decode prog_15_method_3_code 211 = .ok (.aload 5, 2) := by decide +kernel
theorem d3_213 : decode prog_15_method_3_code 213 = .ok (.iload 8, 2) := by decide +kernel
theorem d3_215 : decode prog_15_method_3_code 215 = .ok (.aload_n 0, 1) := by decide +kernel
theorem d3_216 : decode prog_15_method_3_code 216 = .ok (.getfield 39, 3) := by decide +kernel
theorem d3_219 : decode prog_15_method_3_code 219 = .ok (.iload 8, 2) := by decide +kernel
theorem d3_221 : decode prog_15_method_3_code 221 = .ok (.laload, 1) := by decide +kernel
theorem d3_222 : decode prog_15_method_3_code 222 = .ok (.invokestatic 43, 3) := by decide +kernel
theorem d3_225 : decode prog_15_method_3_code 225 = .ok (.iastore, 1) := by decide +kernel
theorem d3_226 : decode prog_15_method_3_code 226 = .ok (.aload 6, 2) := by decide +kernel
theorem d3_228 : decode prog_15_method_3_code 228 = .ok (.iload 8, 2) := by decide +kernel
theorem d3_230 : decode prog_15_method_3_code 230 = .ok (.aload_n 0, 1) := by decide +kernel
theorem d3_231 : decode prog_15_method_3_code 231 = .ok (.getfield 39, 3) := by decide +kernel
theorem d3_234 : decode prog_15_method_3_code 234 = .ok (.iload 8, 2) := by decide +kernel
theorem d3_236 : decode prog_15_method_3_code 236 = .ok (.laload, 1) := by decide +kernel
theorem d3_237 : decode prog_15_method_3_code 237 = .ok (.invokestatic 47, 3) := by decide +kernel
theorem d3_240 : decode prog_15_method_3_code 240 = .ok (.iastore, 1) := by decide +kernel
theorem d3_241 : decode prog_15_method_3_code 241 = .ok (.iinc 8 1, 3) := by decide +kernel
theorem d3_244 : decode prog_15_method_3_code 244 = .ok (.goto (-54), 3) := by decide +kernel
theorem d3_247 : decode prog_15_method_3_code 247 = .ok (.iinc 7 1, 3) := by decide +kernel
theorem d3_250 : decode prog_15_method_3_code 250 = .ok (.goto (-75), 3) := by decide +kernel
theorem d3_253 : decode prog_15_method_3_code 253 = .ok (.aload_n 0, 1) := by decide +kernel
theorem d3_254 : decode prog_15_method_3_code 254 = .ok (.iload_n 1, 1) := by decide +kernel
theorem d3_255 : decode prog_15_method_3_code 255 = .ok (.iconst 1, 1) := by decide +kernel
theorem d3_256 : decode prog_15_method_3_code 256 = .ok (.iadd, 1) := by decide +kernel
theorem d3_257 : decode prog_15_method_3_code 257 = .ok (.newarray .int, 2) := by decide +kernel
theorem d3_259 : decode prog_15_method_3_code 259 = .ok (.putfield 50, 3) := by decide +kernel
theorem d3_262 : decode prog_15_method_3_code 262 = .ok (.aload_n 0, 1) := by decide +kernel
theorem d3_263 : decode prog_15_method_3_code 263 = .ok (.iload_n 3, 1) := by decide +kernel
theorem d3_264 : decode prog_15_method_3_code 264 = .ok (.aload 6, 2) := by decide +kernel
theorem d3_266 : decode prog_15_method_3_code 266 = .ok (.aload 5, 2) := by decide +kernel
theorem d3_268 : decode prog_15_method_3_code 268 = .ok (.aload 4, 2) := by decide +kernel
theorem d3_270 : decode prog_15_method_3_code 270 = .ok (.aload_n 0, 1) := by decide +kernel
theorem d3_271 : decode prog_15_method_3_code 271 = .ok (.getfield 50, 3) := by decide +kernel
theorem d3_274 : decode prog_15_method_3_code 274 = .ok (.invokestatic 32, 3) := by decide +kernel
theorem d3_277 : decode prog_15_method_3_code 277 = .ok (.putfield 53, 3) := by decide +kernel
theorem d3_280 : decode prog_15_method_3_code 280 = .ok (.return_, 1) := by decide +kernel
theorem ef_3_00 (m : MethodId) (x0 : Addr) (x1 : Int32) : entryFrame m #[(.ref x0), (.int x1)] 9 = mkF m 0 #[.val (.ref x0), .val (.int x1), .unset, .unset, .unset, .unset, .unset, .unset, .unset] [] := by first | (simp [entryFrame, mkF, argsToLocals, Value.category]; done) | rfl
def Q3 (Z : State) (d0 : Addr) (u0 : Int32) (d1 : Addr) (d2 : Addr) (d3 : Addr) (cc : Nat) (nw : Nat) (K : Nat → Nat) (Tg : Nat → Nat) (fa1 : Nat → Int32) (fa2 : Nat → Int32) (fa3 : Nat → Int32) (h0 : Heap) (n0 : Nat) (v : Option Value) (h : Heap) (L : List Loc) : Prop := ∃ (bs bt : Addr) (F : Nat → Nat), v = none ∧ Fr n0 L ∧ Keep h0 h [d0] ∧ Exa Z h d0 "com/example/erotema/erotema/model/ToldEdges" ∧ Fld Z h d0 "com/example/erotema/erotema/model/ToldEdges" "bySourceStart" "[I" (.ref bs) ∧ own_IA .int Z h bs (Int32.ofNat (nw + 1)) (own_DI K (own_W fa2 fa3) cc) ∧ Fld Z h d0 "com/example/erotema/erotema/model/ToldEdges" "byTargetStart" "[I" (.ref bt) ∧ own_IA .int Z h bt (Int32.ofNat (nw + 1)) (fun v => Int32.ofNat (F v)) ∧ (∀ v, v ≤ nw → F v ≤ 4) ∧ ∀ q, q < nw → F (q + 1) = F q + own_D (fun w => own_el w == Int32.ofNat q) K (own_W fa2 fa3) cc nw
set_option maxRecDepth 65536 in
set_option maxHeartbeats 40000000 in
theorem rm3 (l : Launch) (Z : State) (a0 : Array Value) (hw : ∀ d ∈ tables_1, d.before a0 Z = true) (ws : List Jvm.Cond) (d0 : Addr) (u0 : Int32) (d1 : Addr) (d2 : Addr) (d3 : Addr) (cc : Nat) (nw : Nat) (K : Nat → Nat) (Tg : Nat → Nat) (fa1 : Nat → Int32) (fa2 : Nat → Int32) (fa3 : Nat → Int32) (h0 : Heap) (n0 : Nat) (Z0 : n0 ≤ h0.size) (hu0 : u0 = Int32.ofNat nw) (g_d0 : n0 ≤ d0) (E_d0 : Exa Z h0 d0 "com/example/erotema/erotema/model/ToldEdges") (F_sources_d0 : Fld Z h0 d0 "com/example/erotema/erotema/model/ToldEdges" "sources" "[I" (.ref d1)) (F_properties_d0 : Fld Z h0 d0 "com/example/erotema/erotema/model/ToldEdges" "properties" "[I" (.ref d2)) (F_targets_d0 : Fld Z h0 d0 "com/example/erotema/erotema/model/ToldEdges" "targets" "[I" (.ref d3)) (F_added_d0 : Fld Z h0 d0 "com/example/erotema/erotema/model/ToldEdges" "added" "I" (.int (Int32.ofNat cc))) (F_bySourceStart_d0 : Fld Z h0 d0 "com/example/erotema/erotema/model/ToldEdges" "bySourceStart" "[I" .null) (F_bySource_d0 : Fld Z h0 d0 "com/example/erotema/erotema/model/ToldEdges" "bySource" "[J" .null) (F_byTargetStart_d0 : Fld Z h0 d0 "com/example/erotema/erotema/model/ToldEdges" "byTargetStart" "[I" .null) (F_byTarget_d0 : Fld Z h0 d0 "com/example/erotema/erotema/model/ToldEdges" "byTarget" "[J" .null) (ne_d1_d0 : d1 ≠ d0) (ne_d2_d0 : d2 ≠ d0) (ne_d3_d0 : d3 ≠ d0) (B_d1 : own_IA .int Z h0 d1 (Int32.ofNat 1024) fa1) (B_d2 : own_IA .int Z h0 d2 (Int32.ofNat 1024) fa2) (B_d3 : own_IA .int Z h0 d3 (Int32.ofNat 1024) fa3) (hcc : cc ≤ 4) (hnw : nw ≤ 4) (hKK : ∀ i, i < cc → fa1 i = Int32.ofNat (K i) ∧ K i < nw) (hT : ∀ i, i < cc → fa3 i = Int32.ofNat (Tg i) ∧ Tg i < nw) :
    MetFree l (⟨"com/example/erotema/erotema/model/ToldEdges", "index", "(I)V"⟩ : MethodName) (head1 (Jvm.Cond.code (⟨"com/example/erotema/erotema/model/ToldEdges", "index", "(I)V"⟩ : MethodName) prog_15_method_3_code 9 none :: ws) ({ frames := 5, cells := 10, slots := 50, locals := 106 } : Room)) (fun a U => a = #[(.ref d0), (.int u0)] ∧ Z.Warmed39 U.vm ∧ U.heap = h0) (fun _ _ _ _ _ => True) (fun _ U o U' => ∃ v L, o = .returned v ∧ Q3 Z d0 u0 d1 d2 d3 cc nw K Tg fa1 fa2 fa3 h0 n0 v U'.heap L ∧ FrameEnd U o U' L ({ frames := 5, cells := 10, slots := 50, locals := 106 } : Room).cells ({ frames := 5, cells := 10, slots := 50, locals := 106 } : Room).slots) := by
  refine MetFree.of_bodySF (plainFor_of_name pn_com_example_erotema_erotema_model_ToldEdges) hisR ?_
  intro p e s m args below meth c s₁ Bd hml0 hP hK
  obtain ⟨rfl, hZ, hh⟩ := hP
  have hx := Bd.exec
  have hby := Bd.bytes
  have hlk : meth.locks = false := Bd.notSynchronized
  have hml : c.maxLocals = 9 := hml0
  have hown : s.vm.findClass "com/example/erotema/erotema/model/ToldEdges" = some m.cls := findClass_of_methodNamed Bd.named
  have hnm := (name_of_methodNamed Bd.named Bd.method).1
  have X0 : Stand p l e ({ frames := 5, cells := 10, slots := 50, locals := 106 } : Room) s m #[(.ref d0), (.int u0)] below meth c s₁ [] 0 0 := Stand.of_body Bd
  have e0 : s₁.heap = h0 := by rw [← hh, Bd.state]; rfl
  have N0 := Fr.nil n0
  have K0 : Keep h0 h0 [d0] := Keep.refl h0 _
  show Wp p e below (Out s (Q3 Z d0 u0 d1 d2 d3 cc nw K Tg fa1 fa2 fa3 h0 n0) ({ frames := 5, cells := 10, slots := 50, locals := 106 } : Room).cells ({ frames := 5, cells := 10, slots := 50, locals := 106 } : Room).slots) (s₁.setTop (entryFrame m #[(.ref d0), (.int u0)] 9))
  rw [ef_3_00]
  subst hu0
  have hKn : ∀ i, i < cc → K i < nw := fun i hi => (hKK i hi).2
  show Wp p e below _ (s₁.setTop (mkF m 0 #[.val (.ref d0), .val (.int (Int32.ofNat nw)), .unset, .unset, .unset, .unset, .unset, .unset, .unset] []))
  refine Wp.step (fun t k => XS.aloadN X0.here hx rfl (hb hby d3_0) rfl rfl k) ?_
  show Wp p e below _ (s₁.setTop (mkF m 1 #[.val (.ref d0), .val (.int (Int32.ofNat nw)), .unset, .unset, .unset, .unset, .unset, .unset, .unset] [(.ref d0)]))
  refine Wp.step (fun t k => XS.iloadN X0.here hx rfl (hb hby d3_1) rfl k) ?_
  show Wp p e below _ (s₁.setTop (mkF m 2 #[.val (.ref d0), .val (.int (Int32.ofNat nw)), .unset, .unset, .unset, .unset, .unset, .unset, .unset] [(.int (Int32.ofNat nw)), (.ref d0)]))
  refine Wp.step (fun t k => XS.iconst X0.here hx rfl (hb hby d3_2) k) ?_
  show Wp p e below _ (s₁.setTop (mkF m 3 #[.val (.ref d0), .val (.int (Int32.ofNat nw)), .unset, .unset, .unset, .unset, .unset, .unset, .unset] [(.int (1 : Int32)), (.int (Int32.ofNat nw)), (.ref d0)]))
  refine Wp.step (fun t k => XS.iadd X0.here hx rfl (hb hby d3_3) rfl k) ?_
  show Wp p e below _ (s₁.setTop (mkF m 4 #[.val (.ref d0), .val (.int (Int32.ofNat nw)), .unset, .unset, .unset, .unset, .unset, .unset, .unset] [(.int ((Int32.ofNat nw) + (1 : Int32))), (.ref d0)]))
  rw [show ((Int32.ofNat nw) + (1 : Int32)) = (Int32.ofNat (nw + 1)) from own_succ _]
  obtain ⟨T1, h1, k1, X1, e1, E1, A1, st1⟩ := newP X0 hx hZ (hw _ (List.mem_of_getElem? (i := 0) rfl)) e0 (g := (mkF m 4 #[.val (.ref d0), .val (.int (Int32.ofNat nw)), .unset, .unset, .unset, .unset, .unset, .unset, .unset] [(.int (Int32.ofNat (nw + 1))), (.ref d0)])) rfl (hb hby d3_4) rfl (own_nn (by omega)) (cap := 5) (by rw [own_nat (by omega)]; omega) (by decide) (by decide) (by decide)
  obtain ⟨b1, g1⟩ : ∃ z, z = h0.size := ⟨_, rfl⟩
  rw [← g1] at A1 st1
  have g_b1 : n0 ≤ b1 := Nat.le_trans (Nat.le_trans Z0 K0.1) (Nat.le_of_eq g1.symm)
  have sz_b1 : h0.size ≤ b1 := Nat.le_trans K0.1 (Nat.le_of_eq g1.symm)
  have ne_d0_b1 : d0 ≠ b1 := Nat.ne_of_lt (Nat.lt_of_lt_of_le E_d0.lt (Nat.le_of_eq g1.symm))
  have ne_d1_b1 : d1 ≠ b1 := Nat.ne_of_lt (Nat.lt_of_lt_of_le B_d1.lt (Nat.le_of_eq g1.symm))
  have ne_d2_b1 : d2 ≠ b1 := Nat.ne_of_lt (Nat.lt_of_lt_of_le B_d2.lt (Nat.le_of_eq g1.symm))
  have ne_d3_b1 : d3 ≠ b1 := Nat.ne_of_lt (Nat.lt_of_lt_of_le B_d3.lt (Nat.le_of_eq g1.symm))
  have c2 := E_d0.ext E1
  have c3 := F_sources_d0.ext E1
  have c4 := F_properties_d0.ext E1
  have c5 := F_targets_d0.ext E1
  have c6 := F_added_d0.ext E1
  have c7 := F_bySourceStart_d0.ext E1
  have c8 := F_bySource_d0.ext E1
  have c9 := F_byTargetStart_d0.ext E1
  have c10 := F_byTarget_d0.ext E1
  have B11 := B_d1.ext E1
  have B12 := B_d2.ext E1
  have B13 := B_d3.ext E1
  have K14 := K0.ext E1
  have Z1 : (newA k1 .int (Int32.ofNat (nw + 1))).slots.size = ((Int32.ofNat (nw + 1))).toNatClampNeg := sz_new _ _ _
  have nn1 : ¬ (Int32.ofNat (nw + 1)) < 0 := (own_nn (by omega))
  refine Wp.step st1 ?_
  have B1 := own_IA.new A1 nn1 rfl
  show Wp p e below _ (T1.setTop (mkF m 6 #[.val (.ref d0), .val (.int (Int32.ofNat nw)), .unset, .unset, .unset, .unset, .unset, .unset, .unset] [(.ref b1), (.ref d0)]))
  obtain ⟨T15, h15, X15, e15, W15, st15⟩ := putF X1 hx hZ hown (host := "") (Or.inl (hw _ (List.mem_of_getElem? (i := 21) rfl))) Via.refl e1 c7 c2 (Or.inl (hw _ (List.mem_of_getElem? (i := 22) rfl))) (hw _ (List.mem_of_getElem? (i := 2) rfl)) (ty := (.array .int)) (by decide) rfl rfl (g := (mkF m 6 #[.val (.ref d0), .val (.int (Int32.ofNat nw)), .unset, .unset, .unset, .unset, .unset, .unset, .unset] [(.ref b1), (.ref d0)])) rfl rfl (hb hby d3_6)
  have c16 := c2.wr W15
  have c17 := c3.other W15 (Or.inr (slot_ne (Or.inl (hw _ (List.mem_of_getElem? (i := 11) rfl))) (Or.inl (hw _ (List.mem_of_getElem? (i := 22) rfl))) (by decide) (t := (.array .int)) (t' := (.array .int)) (by decide) (by decide)))
  have c18 := c4.other W15 (Or.inr (slot_ne (Or.inl (hw _ (List.mem_of_getElem? (i := 13) rfl))) (Or.inl (hw _ (List.mem_of_getElem? (i := 22) rfl))) (by decide) (t := (.array .int)) (t' := (.array .int)) (by decide) (by decide)))
  have c19 := c5.other W15 (Or.inr (slot_ne (Or.inl (hw _ (List.mem_of_getElem? (i := 15) rfl))) (Or.inl (hw _ (List.mem_of_getElem? (i := 22) rfl))) (by decide) (t := (.array .int)) (t' := (.array .int)) (by decide) (by decide)))
  have c20 := c6.other W15 (Or.inr (slot_ne (Or.inl (hw _ (List.mem_of_getElem? (i := 24) rfl))) (Or.inl (hw _ (List.mem_of_getElem? (i := 22) rfl))) (by decide) (t := .int) (t' := (.array .int)) (by decide) (by decide)))
  have c21 := c8.other W15 (Or.inr (slot_ne (Or.inl (hw _ (List.mem_of_getElem? (i := 70) rfl))) (Or.inl (hw _ (List.mem_of_getElem? (i := 22) rfl))) (by decide) (t := (.array .long)) (t' := (.array .int)) (by decide) (by decide)))
  have c22 := c9.other W15 (Or.inr (slot_ne (Or.inl (hw _ (List.mem_of_getElem? (i := 72) rfl))) (Or.inl (hw _ (List.mem_of_getElem? (i := 22) rfl))) (by decide) (t := (.array .int)) (t' := (.array .int)) (by decide) (by decide)))
  have c23 := c10.other W15 (Or.inr (slot_ne (Or.inl (hw _ (List.mem_of_getElem? (i := 74) rfl))) (Or.inl (hw _ (List.mem_of_getElem? (i := 22) rfl))) (by decide) (t := (.array .long)) (t' := (.array .int)) (by decide) (by decide)))
  have B24 := B11.other W15 ne_d1_d0
  have B25 := B12.other W15 ne_d2_d0
  have B26 := B13.other W15 ne_d3_d0
  have B27 := B1.other W15 (Ne.symm ne_d0_b1)
  have c28 := c7.same W15
  have K29 := K14.wr W15 (Or.inl (List.mem_of_getElem? (i := 0) rfl))
  have N15 := Fr.snoc X15 N0 g_d0
  refine Wp.step st15 ?_
  show Wp p e below _ (T15.setTop (mkF m 9 #[.val (.ref d0), .val (.int (Int32.ofNat nw)), .unset, .unset, .unset, .unset, .unset, .unset, .unset] []))
  refine Wp.step (fun t k => XS.aloadN X15.here hx rfl (hb hby d3_9) rfl rfl k) ?_
  show Wp p e below _ (T15.setTop (mkF m 10 #[.val (.ref d0), .val (.int (Int32.ofNat nw)), .unset, .unset, .unset, .unset, .unset, .unset, .unset] [(.ref d0)]))
  obtain ⟨T30, X30, e30, st30⟩ := getF X15 hx hZ hown (host := "") (Or.inl (hw _ (List.mem_of_getElem? (i := 23) rfl))) Via.refl e15 c20 (g := (mkF m 10 #[.val (.ref d0), .val (.int (Int32.ofNat nw)), .unset, .unset, .unset, .unset, .unset, .unset, .unset] [(.ref d0)])) rfl rfl (hb hby d3_10)
  refine Wp.step st30 ?_
  show Wp p e below _ (T30.setTop (mkF m 13 #[.val (.ref d0), .val (.int (Int32.ofNat nw)), .unset, .unset, .unset, .unset, .unset, .unset, .unset] [(.int (Int32.ofNat cc))]))
  refine Wp.step (fun t k => XS.aloadN X30.here hx rfl (hb hby d3_13) rfl rfl k) ?_
  show Wp p e below _ (T30.setTop (mkF m 14 #[.val (.ref d0), .val (.int (Int32.ofNat nw)), .unset, .unset, .unset, .unset, .unset, .unset, .unset] [(.ref d0), (.int (Int32.ofNat cc))]))
  obtain ⟨T31, X31, e31, st31⟩ := getF X30 hx hZ hown (host := "") (Or.inl (hw _ (List.mem_of_getElem? (i := 10) rfl))) Via.refl e30 c17 (g := (mkF m 14 #[.val (.ref d0), .val (.int (Int32.ofNat nw)), .unset, .unset, .unset, .unset, .unset, .unset, .unset] [(.ref d0), (.int (Int32.ofNat cc))])) rfl rfl (hb hby d3_14)
  refine Wp.step st31 ?_
  show Wp p e below _ (T31.setTop (mkF m 17 #[.val (.ref d0), .val (.int (Int32.ofNat nw)), .unset, .unset, .unset, .unset, .unset, .unset, .unset] [(.ref d1), (.int (Int32.ofNat cc))]))
  refine Wp.step (fun t k => XS.aloadN X31.here hx rfl (hb hby d3_17) rfl rfl k) ?_
  show Wp p e below _ (T31.setTop (mkF m 18 #[.val (.ref d0), .val (.int (Int32.ofNat nw)), .unset, .unset, .unset, .unset, .unset, .unset, .unset] [(.ref d0), (.ref d1), (.int (Int32.ofNat cc))]))
  obtain ⟨T32, X32, e32, st32⟩ := getF X31 hx hZ hown (host := "") (Or.inl (hw _ (List.mem_of_getElem? (i := 12) rfl))) Via.refl e31 c18 (g := (mkF m 18 #[.val (.ref d0), .val (.int (Int32.ofNat nw)), .unset, .unset, .unset, .unset, .unset, .unset, .unset] [(.ref d0), (.ref d1), (.int (Int32.ofNat cc))])) rfl rfl (hb hby d3_18)
  refine Wp.step st32 ?_
  show Wp p e below _ (T32.setTop (mkF m 21 #[.val (.ref d0), .val (.int (Int32.ofNat nw)), .unset, .unset, .unset, .unset, .unset, .unset, .unset] [(.ref d2), (.ref d1), (.int (Int32.ofNat cc))]))
  refine Wp.step (fun t k => XS.aloadN X32.here hx rfl (hb hby d3_21) rfl rfl k) ?_
  show Wp p e below _ (T32.setTop (mkF m 22 #[.val (.ref d0), .val (.int (Int32.ofNat nw)), .unset, .unset, .unset, .unset, .unset, .unset, .unset] [(.ref d0), (.ref d2), (.ref d1), (.int (Int32.ofNat cc))]))
  obtain ⟨T33, X33, e33, st33⟩ := getF X32 hx hZ hown (host := "") (Or.inl (hw _ (List.mem_of_getElem? (i := 14) rfl))) Via.refl e32 c19 (g := (mkF m 22 #[.val (.ref d0), .val (.int (Int32.ofNat nw)), .unset, .unset, .unset, .unset, .unset, .unset, .unset] [(.ref d0), (.ref d2), (.ref d1), (.int (Int32.ofNat cc))])) rfl rfl (hb hby d3_22)
  refine Wp.step st33 ?_
  show Wp p e below _ (T33.setTop (mkF m 25 #[.val (.ref d0), .val (.int (Int32.ofNat nw)), .unset, .unset, .unset, .unset, .unset, .unset, .unset] [(.ref d3), (.ref d2), (.ref d1), (.int (Int32.ofNat cc))]))
  refine Wp.step (fun t k => XS.aloadN X33.here hx rfl (hb hby d3_25) rfl rfl k) ?_
  show Wp p e below _ (T33.setTop (mkF m 26 #[.val (.ref d0), .val (.int (Int32.ofNat nw)), .unset, .unset, .unset, .unset, .unset, .unset, .unset] [(.ref d0), (.ref d3), (.ref d2), (.ref d1), (.int (Int32.ofNat cc))]))
  obtain ⟨T34, X34, e34, st34⟩ := getF X33 hx hZ hown (host := "") (Or.inl (hw _ (List.mem_of_getElem? (i := 21) rfl))) Via.refl e33 c28 (g := (mkF m 26 #[.val (.ref d0), .val (.int (Int32.ofNat nw)), .unset, .unset, .unset, .unset, .unset, .unset, .unset] [(.ref d0), (.ref d3), (.ref d2), (.ref d1), (.int (Int32.ofNat cc))])) rfl rfl (hb hby d3_26)
  refine Wp.step st34 ?_
  show Wp p e below _ (T34.setTop (mkF m 29 #[.val (.ref d0), .val (.int (Int32.ofNat nw)), .unset, .unset, .unset, .unset, .unset, .unset, .unset] [(.ref b1), (.ref d3), (.ref d2), (.ref d1), (.int (Int32.ofNat cc))]))
  obtain ⟨_, _, ⟨T35, L35, k35, n35⟩, -, X35, ⟨Lc35, hQ35, l35, y35, z35⟩, st35⟩ := Jvm.LawKit.callS X34 hx (y := (⟨"com/example/erotema/erotema/model/ToldEdges", "sort", "(I[I[I[I[I)[J"⟩ : MethodName)) hown (mvT hZ (hw _ (List.mem_of_getElem? (i := 25) rfl))) (mvT hZ (hw _ (List.mem_of_getElem? (i := 26) rfl))) (mvT hZ (hw _ (List.mem_of_getElem? (i := 3) rfl))) (mvT hZ (hw _ (List.mem_of_getElem? (i := 27) rfl))) (by decide) (backOf (W := 0) (rm4 l Z a0 hw [] (Int32.ofNat cc) d1 d2 d3 b1 cc nw 1024 K fa1 fa2 fa3 h15 n0 (Nat.le_trans Z0 K29.1) rfl B24 B25 B26 B27 g_b1 ne_d1_b1 ne_d2_b1 ne_d3_b1 (by omega) (by omega) (by omega) (by omega) hKK) hZ (hw _ (List.mem_of_getElem? (i := 27) rfl)) (hw _ (List.mem_of_getElem? (i := 3) rfl)) (by decide) (by decide)) (g := (mkF m 29 #[.val (.ref d0), .val (.int (Int32.ofNat nw)), .unset, .unset, .unset, .unset, .unset, .unset, .unset] [(.ref b1), (.ref d3), (.ref d2), (.ref d1), (.int (Int32.ofNat cc))])) rfl (by rw [hml]; rfl) (argsL := [(.int (Int32.ofNat cc)), (.ref d1), (.ref d2), (.ref d3), (.ref b1)]) (rest := []) (lenOf pd_28I5bI5bI5bI5bI295bJ rfl) rfl (by show 2 * 0 + _ ≤ _; exact Nat.le_of_eq rfl) (hb hby d3_29) (fun _ _ => ⟨rfl, e34, (by decide : 1 + 2 ≤ _), (by decide : 5 + 10 ≤ _)⟩)
  dsimp only [Pt.U, Pt.locs, Pt.cells, Pt.slots] at X35 l35 y35 z35 st35 hQ35
  subst l35 y35 z35
  obtain ⟨h35, e35⟩ : ∃ z, T35.heap = z := ⟨_, rfl⟩
  rw [e35] at hQ35
  obtain ⟨b35, gg35, rfl, N35q, Kc35, zz35, BB35, EE35, BS35, FIN35⟩ := hQ35
  have N35 := Fr.app N15 N35q
  have g_b35 : n0 ≤ b35 := Nat.le_trans (Nat.le_trans Z0 K29.1) zz35
  have sz_b35 : h0.size ≤ b35 := Nat.le_trans K29.1 zz35
  have ne_b1_b35 : b1 ≠ b35 := Nat.ne_of_lt (Nat.lt_of_lt_of_le B27.lt zz35)
  have ne_d0_b35 : d0 ≠ b35 := Nat.ne_of_lt (Nat.lt_of_lt_of_le c16.lt zz35)
  have ne_d1_b35 : d1 ≠ b35 := Nat.ne_of_lt (Nat.lt_of_lt_of_le B24.lt zz35)
  have ne_d2_b35 : d2 ≠ b35 := Nat.ne_of_lt (Nat.lt_of_lt_of_le B25.lt zz35)
  have ne_d3_b35 : d3 ≠ b35 := Nat.ne_of_lt (Nat.lt_of_lt_of_le B26.lt zz35)
  have c36 := c16.keep Kc35
  have c37 := c17.keep Kc35 (ninS ne_d0_b1 nin0)
  have c38 := c18.keep Kc35 (ninS ne_d0_b1 nin0)
  have c39 := c19.keep Kc35 (ninS ne_d0_b1 nin0)
  have c40 := c20.keep Kc35 (ninS ne_d0_b1 nin0)
  have c41 := c28.keep Kc35 (ninS ne_d0_b1 nin0)
  have c42 := c21.keep Kc35 (ninS ne_d0_b1 nin0)
  have c43 := c22.keep Kc35 (ninS ne_d0_b1 nin0)
  have c44 := c23.keep Kc35 (ninS ne_d0_b1 nin0)
  have B45 := B24.keep Kc35 (ninS ne_d1_b1 nin0)
  have B46 := B25.keep Kc35 (ninS ne_d2_b1 nin0)
  have B47 := B26.keep Kc35 (ninS ne_d3_b1 nin0)
  have K35 := K29.trans Kc35 (allS (Or.inr sz_b1) all0)
  refine Wp.step st35 ?_
  show Wp p e below _ (T35.setTop (mkF m 32 #[.val (.ref d0), .val (.int (Int32.ofNat nw)), .unset, .unset, .unset, .unset, .unset, .unset, .unset] [(.ref b35)]))
  refine Wp.step (fun t k => XS.astoreN X35.here hx rfl (hb hby d3_32) rfl rfl (l' := #[.val (.ref d0), .val (.int (Int32.ofNat nw)), .val (.ref b35), .unset, .unset, .unset, .unset, .unset, .unset]) rfl k) ?_
  show Wp p e below _ (T35.setTop (mkF m 33 #[.val (.ref d0), .val (.int (Int32.ofNat nw)), .val (.ref b35), .unset, .unset, .unset, .unset, .unset, .unset] []))
  refine Wp.step (fun t k => XS.iconst X35.here hx rfl (hb hby d3_33) k) ?_
  show Wp p e below _ (T35.setTop (mkF m 34 #[.val (.ref d0), .val (.int (Int32.ofNat nw)), .val (.ref b35), .unset, .unset, .unset, .unset, .unset, .unset] [(.int (0 : Int32))]))
  refine Wp.step (fun t k => XS.istoreN X35.here hx rfl (hb hby d3_34) rfl (l' := #[.val (.ref d0), .val (.int (Int32.ofNat nw)), .val (.ref b35), .val (.int (0 : Int32)), .unset, .unset, .unset, .unset, .unset]) rfl k) ?_
  show Wp p e below _ (T35.setTop (mkF m 35 #[.val (.ref d0), .val (.int (Int32.ofNat nw)), .val (.ref b35), .val (.int (0 : Int32)), .unset, .unset, .unset, .unset, .unset] []))
  refine Wp.step (fun t k => XS.iconst X35.here hx rfl (hb hby d3_35) k) ?_
  show Wp p e below _ (T35.setTop (mkF m 36 #[.val (.ref d0), .val (.int (Int32.ofNat nw)), .val (.ref b35), .val (.int (0 : Int32)), .unset, .unset, .unset, .unset, .unset] [(.int (0 : Int32))]))
  refine Wp.step (fun t k => XS.istore X35.here hx rfl (hb hby d3_36) rfl (l' := #[.val (.ref d0), .val (.int (Int32.ofNat nw)), .val (.ref b35), .val (.int (0 : Int32)), .val (.int (0 : Int32)), .unset, .unset, .unset, .unset]) rfl k) ?_
  show Wp p e below _ (T35.setTop (mkF m 38 #[.val (.ref d0), .val (.int (Int32.ofNat nw)), .val (.ref b35), .val (.int (0 : Int32)), .val (.int (0 : Int32)), .unset, .unset, .unset, .unset] []))
  rw [← own_f3_zero gg35] at BS35
  have loop49 : ∀ (f : Nat) (vv : Nat) (kk : Nat) (ga : Nat → Int64) (sl5 : Slot) (sl6 : Slot) (sl7 : Slot) (hh_49 : Heap) (locs_49 : List Loc) (T_49 : State) (X_49 : Stand p l e ({ frames := 5, cells := 10, slots := 50, locals := 106 } : Room) s m #[(.ref d0), (.int (Int32.ofNat nw))] below meth c T_49 locs_49 3 15) (eT_49 : T_49.heap = hh_49) (NN_49 : Fr n0 locs_49) (KK_49 : Keep h0 hh_49 [d0]) (q0_49 : Exa Z hh_49 d0 "com/example/erotema/erotema/model/ToldEdges") (q1_49 : Fld Z hh_49 d0 "com/example/erotema/erotema/model/ToldEdges" "sources" "[I" (.ref d1)) (q2_49 : Fld Z hh_49 d0 "com/example/erotema/erotema/model/ToldEdges" "properties" "[I" (.ref d2)) (q3_49 : Fld Z hh_49 d0 "com/example/erotema/erotema/model/ToldEdges" "targets" "[I" (.ref d3)) (q4_49 : Fld Z hh_49 d0 "com/example/erotema/erotema/model/ToldEdges" "added" "I" (.int (Int32.ofNat cc))) (q5_49 : Fld Z hh_49 d0 "com/example/erotema/erotema/model/ToldEdges" "bySourceStart" "[I" (.ref b1)) (q6_49 : Fld Z hh_49 d0 "com/example/erotema/erotema/model/ToldEdges" "bySource" "[J" .null) (q7_49 : Fld Z hh_49 d0 "com/example/erotema/erotema/model/ToldEdges" "byTargetStart" "[I" .null) (q8_49 : Fld Z hh_49 d0 "com/example/erotema/erotema/model/ToldEdges" "byTarget" "[J" .null) (q9_49 : own_IA .int Z hh_49 d1 (Int32.ofNat 1024) fa1) (q10_49 : own_IA .int Z hh_49 d2 (Int32.ofNat 1024) fa2) (q11_49 : own_IA .int Z hh_49 d3 (Int32.ofNat 1024) fa3) (q12_49 : own_IA .int Z hh_49 b1 (Int32.ofNat (nw + 1)) (own_f3 gg35 K cc vv)) (q13_49 : own_JA Z hh_49 b35 (Int32.ofNat cc) ga) (q14_49 : Exa Z hh_49 b35 "[J") (hvv : vv ≤ nw) (DD : own_ded gg35 K cc vv 0 kk ga) (O5 : One sl5) (O6 : One sl6) (O7 : One sl7) (hm : nw - vv < f), Wp p e below (Out s (Q3 Z d0 (Int32.ofNat nw) d1 d2 d3 cc nw K Tg fa1 fa2 fa3 h0 n0) ({ frames := 5, cells := 10, slots := 50, locals := 106 } : Room).cells ({ frames := 5, cells := 10, slots := 50, locals := 106 } : Room).slots) (T_49.setTop (mkF m 38 #[.val (.ref d0), .val (.int (Int32.ofNat nw)), .val (.ref b35), .val (.int (Int32.ofNat kk)), .val (.int (Int32.ofNat vv)), sl5, sl6, sl7, .unset] [])) := by
    intro f
    induction f with
    | zero => intros; rename_i hm; exact absurd hm (Nat.not_lt_zero _)
    | succ f ih_49 =>
      intro vv kk ga sl5 sl6 sl7 hh_49 locs_49 T_49 X_49 eT_49 NN_49 KK_49 q0_49 q1_49 q2_49 q3_49 q4_49 q5_49 q6_49 q7_49 q8_49 q9_49 q10_49 q11_49 q12_49 q13_49 q14_49 hvv DD O5 O6 O7 hm
      have hle := own_st_le hKn hvv
      have hkl := DD.2.1
      have hDl := DD.len
      show Wp p e below _ (T_49.setTop (mkF m 38 #[.val (.ref d0), .val (.int (Int32.ofNat nw)), .val (.ref b35), .val (.int (Int32.ofNat kk)), .val (.int (Int32.ofNat vv)), sl5, sl6, sl7, .unset] []))
      refine Wp.step (fun t k => XS.iload X_49.here hx rfl (hb hby d3_38) rfl k) ?_
      show Wp p e below _ (T_49.setTop (mkF m 40 #[.val (.ref d0), .val (.int (Int32.ofNat nw)), .val (.ref b35), .val (.int (Int32.ofNat kk)), .val (.int (Int32.ofNat vv)), sl5, sl6, sl7, .unset] [(.int (Int32.ofNat vv))]))
      refine Wp.step (fun t k => XS.iloadN X_49.here hx rfl (hb hby d3_40) rfl k) ?_
      show Wp p e below _ (T_49.setTop (mkF m 41 #[.val (.ref d0), .val (.int (Int32.ofNat nw)), .val (.ref b35), .val (.int (Int32.ofNat kk)), .val (.int (Int32.ofNat vv)), sl5, sl6, sl7, .unset] [(.int (Int32.ofNat nw)), (.int (Int32.ofNat vv))]))
      by_cases hc50 : (Int32.ofNat vv) < (Int32.ofNat nw)
      · have hc50n : vv < nw := (own_lt (by omega) (by omega)).mp hc50
        have hst : own_st K cc (vv + 1) = own_st K cc vv + own_tot K vv cc := rfl
        have hle2 := own_st_le hKn (show vv + 1 ≤ nw by omega)
        refine Wp.step (fun t k => XS.icmpNo X_49.here hx rfl (hb hby d3_41) rfl (tlt hc50).2.1 k) ?_
        show Wp p e below _ (T_49.setTop (mkF m 44 #[.val (.ref d0), .val (.int (Int32.ofNat nw)), .val (.ref b35), .val (.int (Int32.ofNat kk)), .val (.int (Int32.ofNat vv)), sl5, sl6, sl7, .unset] []))
        refine Wp.step (fun t k => XS.aloadN X_49.here hx rfl (hb hby d3_44) rfl rfl k) ?_
        show Wp p e below _ (T_49.setTop (mkF m 45 #[.val (.ref d0), .val (.int (Int32.ofNat nw)), .val (.ref b35), .val (.int (Int32.ofNat kk)), .val (.int (Int32.ofNat vv)), sl5, sl6, sl7, .unset] [(.ref d0)]))
        obtain ⟨T51, X51, e51, st51⟩ := getF X_49 hx hZ hown (host := "") (Or.inl (hw _ (List.mem_of_getElem? (i := 21) rfl))) Via.refl eT_49 q5_49 (g := (mkF m 45 #[.val (.ref d0), .val (.int (Int32.ofNat nw)), .val (.ref b35), .val (.int (Int32.ofNat kk)), .val (.int (Int32.ofNat vv)), sl5, sl6, sl7, .unset] [(.ref d0)])) rfl rfl (hb hby d3_45)
        refine Wp.step st51 ?_
        show Wp p e below _ (T51.setTop (mkF m 48 #[.val (.ref d0), .val (.int (Int32.ofNat nw)), .val (.ref b35), .val (.int (Int32.ofNat kk)), .val (.int (Int32.ofNat vv)), sl5, sl6, sl7, .unset] [(.ref b1)]))
        refine Wp.step (fun t k => XS.iload X51.here hx rfl (hb hby d3_48) rfl k) ?_
        show Wp p e below _ (T51.setTop (mkF m 50 #[.val (.ref d0), .val (.int (Int32.ofNat nw)), .val (.ref b35), .val (.int (Int32.ofNat kk)), .val (.int (Int32.ofNat vv)), sl5, sl6, sl7, .unset] [(.int (Int32.ofNat vv)), (.ref b1)]))
        obtain ⟨cl52, Ar52, Sz52, Nn52, El52⟩ := id q12_49
        have hin52 : ¬ ((Int32.ofNat vv) < 0 ∨ cl52.slots.size ≤ ((Int32.ofNat vv)).toNatClampNeg) := inb_of Sz52 (own_inb (by omega) (by omega))
        have hat52 : cl52.slots[((Int32.ofNat vv)).toNatClampNeg]? = some (.int ((own_f3 gg35 K cc vv) ((Int32.ofNat vv)).toNatClampNeg)) := (El52 _ (by have q := Nat.lt_of_not_le fun q => hin52 (Or.inr q); rw [Sz52] at q; exact q)).1
        rw [show ((own_f3 gg35 K cc vv) ((Int32.ofNat vv)).toNatClampNeg) = ((own_f3 gg35 K cc vv) vv) from congrArg (own_f3 gg35 K cc vv) (own_nat (by omega))] at hat52
        rw [show ((own_f3 gg35 K cc vv) vv) = (Int32.ofNat (own_st K cc vv)) from own_f3_at (by omega)] at hat52
        refine Wp.step (X51.iaload hx (j := (Int32.ofNat vv)) (v := (.int (Int32.ofNat (own_st K cc vv)))) (by rw [e51]; exact Ar52.1) (State.isArrayOf_alike hZ.alike Ar52.2.1) Ar52.2.2 hin52 hat52 (g := (mkF m 50 #[.val (.ref d0), .val (.int (Int32.ofNat nw)), .val (.ref b35), .val (.int (Int32.ofNat kk)), .val (.int (Int32.ofNat vv)), sl5, sl6, sl7, .unset] [(.int (Int32.ofNat vv)), (.ref b1)])) rfl rfl (hb hby d3_50)) ?_
        show Wp p e below _ (T51.setTop (mkF m 51 #[.val (.ref d0), .val (.int (Int32.ofNat nw)), .val (.ref b35), .val (.int (Int32.ofNat kk)), .val (.int (Int32.ofNat vv)), sl5, sl6, sl7, .unset] [(.int (Int32.ofNat (own_st K cc vv)))]))
        refine Wp.step (fun t k => XS.istore X51.here hx rfl (hb hby d3_51) rfl (l' := #[.val (.ref d0), .val (.int (Int32.ofNat nw)), .val (.ref b35), .val (.int (Int32.ofNat kk)), .val (.int (Int32.ofNat vv)), .val (.int (Int32.ofNat (own_st K cc vv))), sl6, sl7, .unset]) (XS.store1 (o := sl5) rfl O5 rfl) k) ?_
        show Wp p e below _ (T51.setTop (mkF m 53 #[.val (.ref d0), .val (.int (Int32.ofNat nw)), .val (.ref b35), .val (.int (Int32.ofNat kk)), .val (.int (Int32.ofNat vv)), .val (.int (Int32.ofNat (own_st K cc vv))), sl6, sl7, .unset] []))
        refine Wp.step (fun t k => XS.aloadN X51.here hx rfl (hb hby d3_53) rfl rfl k) ?_
        show Wp p e below _ (T51.setTop (mkF m 54 #[.val (.ref d0), .val (.int (Int32.ofNat nw)), .val (.ref b35), .val (.int (Int32.ofNat kk)), .val (.int (Int32.ofNat vv)), .val (.int (Int32.ofNat (own_st K cc vv))), sl6, sl7, .unset] [(.ref d0)]))
        obtain ⟨T53, X53, e53, st53⟩ := getF X51 hx hZ hown (host := "") (Or.inl (hw _ (List.mem_of_getElem? (i := 21) rfl))) Via.refl e51 q5_49 (g := (mkF m 54 #[.val (.ref d0), .val (.int (Int32.ofNat nw)), .val (.ref b35), .val (.int (Int32.ofNat kk)), .val (.int (Int32.ofNat vv)), .val (.int (Int32.ofNat (own_st K cc vv))), sl6, sl7, .unset] [(.ref d0)])) rfl rfl (hb hby d3_54)
        refine Wp.step st53 ?_
        show Wp p e below _ (T53.setTop (mkF m 57 #[.val (.ref d0), .val (.int (Int32.ofNat nw)), .val (.ref b35), .val (.int (Int32.ofNat kk)), .val (.int (Int32.ofNat vv)), .val (.int (Int32.ofNat (own_st K cc vv))), sl6, sl7, .unset] [(.ref b1)]))
        refine Wp.step (fun t k => XS.iload X53.here hx rfl (hb hby d3_57) rfl k) ?_
        show Wp p e below _ (T53.setTop (mkF m 59 #[.val (.ref d0), .val (.int (Int32.ofNat nw)), .val (.ref b35), .val (.int (Int32.ofNat kk)), .val (.int (Int32.ofNat vv)), .val (.int (Int32.ofNat (own_st K cc vv))), sl6, sl7, .unset] [(.int (Int32.ofNat vv)), (.ref b1)]))
        refine Wp.step (fun t k => XS.iconst X53.here hx rfl (hb hby d3_59) k) ?_
        show Wp p e below _ (T53.setTop (mkF m 60 #[.val (.ref d0), .val (.int (Int32.ofNat nw)), .val (.ref b35), .val (.int (Int32.ofNat kk)), .val (.int (Int32.ofNat vv)), .val (.int (Int32.ofNat (own_st K cc vv))), sl6, sl7, .unset] [(.int (1 : Int32)), (.int (Int32.ofNat vv)), (.ref b1)]))
        refine Wp.step (fun t k => XS.iadd X53.here hx rfl (hb hby d3_60) rfl k) ?_
        show Wp p e below _ (T53.setTop (mkF m 61 #[.val (.ref d0), .val (.int (Int32.ofNat nw)), .val (.ref b35), .val (.int (Int32.ofNat kk)), .val (.int (Int32.ofNat vv)), .val (.int (Int32.ofNat (own_st K cc vv))), sl6, sl7, .unset] [(.int ((Int32.ofNat vv) + (1 : Int32))), (.ref b1)]))
        rw [show ((Int32.ofNat vv) + (1 : Int32)) = (Int32.ofNat (vv + 1)) from own_succ _]
        obtain ⟨cl54, Ar54, Sz54, Nn54, El54⟩ := id q12_49
        have hin54 : ¬ ((Int32.ofNat (vv + 1)) < 0 ∨ cl54.slots.size ≤ ((Int32.ofNat (vv + 1))).toNatClampNeg) := inb_of Sz54 (own_inb (by omega) (by omega))
        have hat54 : cl54.slots[((Int32.ofNat (vv + 1))).toNatClampNeg]? = some (.int ((own_f3 gg35 K cc vv) ((Int32.ofNat (vv + 1))).toNatClampNeg)) := (El54 _ (by have q := Nat.lt_of_not_le fun q => hin54 (Or.inr q); rw [Sz54] at q; exact q)).1
        rw [show ((own_f3 gg35 K cc vv) ((Int32.ofNat (vv + 1))).toNatClampNeg) = ((own_f3 gg35 K cc vv) (vv + 1)) from congrArg (own_f3 gg35 K cc vv) (own_nat (by omega))] at hat54
        rw [show ((own_f3 gg35 K cc vv) (vv + 1)) = (Int32.ofNat (own_st K cc (vv + 1))) from own_f3_at (by omega)] at hat54
        refine Wp.step (X53.iaload hx (j := (Int32.ofNat (vv + 1))) (v := (.int (Int32.ofNat (own_st K cc (vv + 1))))) (by rw [e53]; exact Ar54.1) (State.isArrayOf_alike hZ.alike Ar54.2.1) Ar54.2.2 hin54 hat54 (g := (mkF m 61 #[.val (.ref d0), .val (.int (Int32.ofNat nw)), .val (.ref b35), .val (.int (Int32.ofNat kk)), .val (.int (Int32.ofNat vv)), .val (.int (Int32.ofNat (own_st K cc vv))), sl6, sl7, .unset] [(.int (Int32.ofNat (vv + 1))), (.ref b1)])) rfl rfl (hb hby d3_61)) ?_
        show Wp p e below _ (T53.setTop (mkF m 62 #[.val (.ref d0), .val (.int (Int32.ofNat nw)), .val (.ref b35), .val (.int (Int32.ofNat kk)), .val (.int (Int32.ofNat vv)), .val (.int (Int32.ofNat (own_st K cc vv))), sl6, sl7, .unset] [(.int (Int32.ofNat (own_st K cc (vv + 1))))]))
        refine Wp.step (fun t k => XS.istore X53.here hx rfl (hb hby d3_62) rfl (l' := #[.val (.ref d0), .val (.int (Int32.ofNat nw)), .val (.ref b35), .val (.int (Int32.ofNat kk)), .val (.int (Int32.ofNat vv)), .val (.int (Int32.ofNat (own_st K cc vv))), .val (.int (Int32.ofNat (own_st K cc (vv + 1)))), sl7, .unset]) (XS.store1 (o := sl6) rfl O6 rfl) k) ?_
        show Wp p e below _ (T53.setTop (mkF m 64 #[.val (.ref d0), .val (.int (Int32.ofNat nw)), .val (.ref b35), .val (.int (Int32.ofNat kk)), .val (.int (Int32.ofNat vv)), .val (.int (Int32.ofNat (own_st K cc vv))), .val (.int (Int32.ofNat (own_st K cc (vv + 1)))), sl7, .unset] []))
        refine Wp.step (fun t k => XS.aloadN X53.here hx rfl (hb hby d3_64) rfl rfl k) ?_
        show Wp p e below _ (T53.setTop (mkF m 65 #[.val (.ref d0), .val (.int (Int32.ofNat nw)), .val (.ref b35), .val (.int (Int32.ofNat kk)), .val (.int (Int32.ofNat vv)), .val (.int (Int32.ofNat (own_st K cc vv))), .val (.int (Int32.ofNat (own_st K cc (vv + 1)))), sl7, .unset] [(.ref d0)]))
        obtain ⟨T55, X55, e55, st55⟩ := getF X53 hx hZ hown (host := "") (Or.inl (hw _ (List.mem_of_getElem? (i := 21) rfl))) Via.refl e53 q5_49 (g := (mkF m 65 #[.val (.ref d0), .val (.int (Int32.ofNat nw)), .val (.ref b35), .val (.int (Int32.ofNat kk)), .val (.int (Int32.ofNat vv)), .val (.int (Int32.ofNat (own_st K cc vv))), .val (.int (Int32.ofNat (own_st K cc (vv + 1)))), sl7, .unset] [(.ref d0)])) rfl rfl (hb hby d3_65)
        refine Wp.step st55 ?_
        show Wp p e below _ (T55.setTop (mkF m 68 #[.val (.ref d0), .val (.int (Int32.ofNat nw)), .val (.ref b35), .val (.int (Int32.ofNat kk)), .val (.int (Int32.ofNat vv)), .val (.int (Int32.ofNat (own_st K cc vv))), .val (.int (Int32.ofNat (own_st K cc (vv + 1)))), sl7, .unset] [(.ref b1)]))
        refine Wp.step (fun t k => XS.iload X55.here hx rfl (hb hby d3_68) rfl k) ?_
        show Wp p e below _ (T55.setTop (mkF m 70 #[.val (.ref d0), .val (.int (Int32.ofNat nw)), .val (.ref b35), .val (.int (Int32.ofNat kk)), .val (.int (Int32.ofNat vv)), .val (.int (Int32.ofNat (own_st K cc vv))), .val (.int (Int32.ofNat (own_st K cc (vv + 1)))), sl7, .unset] [(.int (Int32.ofNat vv)), (.ref b1)]))
        refine Wp.step (fun t k => XS.iloadN X55.here hx rfl (hb hby d3_70) rfl k) ?_
        show Wp p e below _ (T55.setTop (mkF m 71 #[.val (.ref d0), .val (.int (Int32.ofNat nw)), .val (.ref b35), .val (.int (Int32.ofNat kk)), .val (.int (Int32.ofNat vv)), .val (.int (Int32.ofNat (own_st K cc vv))), .val (.int (Int32.ofNat (own_st K cc (vv + 1)))), sl7, .unset] [(.int (Int32.ofNat kk)), (.int (Int32.ofNat vv)), (.ref b1)]))
        obtain ⟨cl56, Ar56, Sz56, Nn56, El56⟩ := id q12_49
        have hin56 : ¬ ((Int32.ofNat vv) < 0 ∨ cl56.slots.size ≤ ((Int32.ofNat vv)).toNatClampNeg) := inb_of Sz56 (own_inb (by omega) (by omega))
        obtain ⟨T56, h56, X56, e56, W56, st56⟩ := stI X55 hx hZ e55 Ar56 (j := (Int32.ofNat vv)) hin56 (g := (mkF m 71 #[.val (.ref d0), .val (.int (Int32.ofNat nw)), .val (.ref b35), .val (.int (Int32.ofNat kk)), .val (.int (Int32.ofNat vv)), .val (.int (Int32.ofNat (own_st K cc vv))), .val (.int (Int32.ofNat (own_st K cc (vv + 1)))), sl7, .unset] [(.int (Int32.ofNat kk)), (.int (Int32.ofNat vv)), (.ref b1)])) rfl rfl (hb hby d3_71)
        have c57 := q0_49.wr W56
        have c58 := q1_49.other W56 (Or.inl ne_d0_b1)
        have c59 := q2_49.other W56 (Or.inl ne_d0_b1)
        have c60 := q3_49.other W56 (Or.inl ne_d0_b1)
        have c61 := q4_49.other W56 (Or.inl ne_d0_b1)
        have c62 := q5_49.other W56 (Or.inl ne_d0_b1)
        have c63 := q6_49.other W56 (Or.inl ne_d0_b1)
        have c64 := q7_49.other W56 (Or.inl ne_d0_b1)
        have c65 := q8_49.other W56 (Or.inl ne_d0_b1)
        have B66 := q9_49.other W56 ne_d1_b1
        have B67 := q10_49.other W56 ne_d2_b1
        have B68 := q11_49.other W56 ne_d3_b1
        have B69 := q13_49.other W56 (Ne.symm ne_b1_b35)
        have c70 := q14_49.wr W56
        have K71 := KK_49.wr W56 (Or.inr sz_b1)
        have N56 := Fr.snoc X56 NN_49 g_b1
        have B56 := own_IA.set Ar56 Sz56 Nn56 El56 W56 rfl
        rw [own_nat (a := vv) (by omega)] at B56
        rw [own_f3_step hDl] at B56
        refine Wp.step st56 ?_
        show Wp p e below _ (T56.setTop (mkF m 72 #[.val (.ref d0), .val (.int (Int32.ofNat nw)), .val (.ref b35), .val (.int (Int32.ofNat kk)), .val (.int (Int32.ofNat vv)), .val (.int (Int32.ofNat (own_st K cc vv))), .val (.int (Int32.ofNat (own_st K cc (vv + 1)))), sl7, .unset] []))
        refine Wp.step (fun t k => XS.iload X56.here hx rfl (hb hby d3_72) rfl k) ?_
        show Wp p e below _ (T56.setTop (mkF m 74 #[.val (.ref d0), .val (.int (Int32.ofNat nw)), .val (.ref b35), .val (.int (Int32.ofNat kk)), .val (.int (Int32.ofNat vv)), .val (.int (Int32.ofNat (own_st K cc vv))), .val (.int (Int32.ofNat (own_st K cc (vv + 1)))), sl7, .unset] [(.int (Int32.ofNat (own_st K cc vv)))]))
        refine Wp.step (fun t k => XS.istore X56.here hx rfl (hb hby d3_74) rfl (l' := #[.val (.ref d0), .val (.int (Int32.ofNat nw)), .val (.ref b35), .val (.int (Int32.ofNat kk)), .val (.int (Int32.ofNat vv)), .val (.int (Int32.ofNat (own_st K cc vv))), .val (.int (Int32.ofNat (own_st K cc (vv + 1)))), .val (.int (Int32.ofNat (own_st K cc vv))), .unset]) (XS.store1 (o := sl7) rfl O7 rfl) k) ?_
        show Wp p e below _ (T56.setTop (mkF m 76 #[.val (.ref d0), .val (.int (Int32.ofNat nw)), .val (.ref b35), .val (.int (Int32.ofNat kk)), .val (.int (Int32.ofNat vv)), .val (.int (Int32.ofNat (own_st K cc vv))), .val (.int (Int32.ofNat (own_st K cc (vv + 1)))), .val (.int (Int32.ofNat (own_st K cc vv))), .unset] []))
        have loop72 : ∀ (f : Nat) (dd : Nat) (ki : Nat) (gi : Nat → Int64) (hh_72 : Heap) (locs_72 : List Loc) (T_72 : State) (X_72 : Stand p l e ({ frames := 5, cells := 10, slots := 50, locals := 106 } : Room) s m #[(.ref d0), (.int (Int32.ofNat nw))] below meth c T_72 locs_72 3 15) (eT_72 : T_72.heap = hh_72) (NN_72 : Fr n0 locs_72) (KK_72 : Keep h0 hh_72 [d0]) (q0_72 : Exa Z hh_72 d0 "com/example/erotema/erotema/model/ToldEdges") (q1_72 : Fld Z hh_72 d0 "com/example/erotema/erotema/model/ToldEdges" "sources" "[I" (.ref d1)) (q2_72 : Fld Z hh_72 d0 "com/example/erotema/erotema/model/ToldEdges" "properties" "[I" (.ref d2)) (q3_72 : Fld Z hh_72 d0 "com/example/erotema/erotema/model/ToldEdges" "targets" "[I" (.ref d3)) (q4_72 : Fld Z hh_72 d0 "com/example/erotema/erotema/model/ToldEdges" "added" "I" (.int (Int32.ofNat cc))) (q5_72 : Fld Z hh_72 d0 "com/example/erotema/erotema/model/ToldEdges" "bySourceStart" "[I" (.ref b1)) (q6_72 : Fld Z hh_72 d0 "com/example/erotema/erotema/model/ToldEdges" "bySource" "[J" .null) (q7_72 : Fld Z hh_72 d0 "com/example/erotema/erotema/model/ToldEdges" "byTargetStart" "[I" .null) (q8_72 : Fld Z hh_72 d0 "com/example/erotema/erotema/model/ToldEdges" "byTarget" "[J" .null) (q9_72 : own_IA .int Z hh_72 d1 (Int32.ofNat 1024) fa1) (q10_72 : own_IA .int Z hh_72 d2 (Int32.ofNat 1024) fa2) (q11_72 : own_IA .int Z hh_72 d3 (Int32.ofNat 1024) fa3) (q12_72 : own_JA Z hh_72 b35 (Int32.ofNat cc) gi) (q13_72 : Exa Z hh_72 b35 "[J") (q14_72 : own_IA .int Z hh_72 b1 (Int32.ofNat (nw + 1)) (own_f3 gg35 K cc (vv + 1))) (hdd : dd ≤ own_tot K vv cc) (DI : own_ded gg35 K cc vv dd ki gi) (hm : own_tot K vv cc - dd < f), Wp p e below (Out s (Q3 Z d0 (Int32.ofNat nw) d1 d2 d3 cc nw K Tg fa1 fa2 fa3 h0 n0) ({ frames := 5, cells := 10, slots := 50, locals := 106 } : Room).cells ({ frames := 5, cells := 10, slots := 50, locals := 106 } : Room).slots) (T_72.setTop (mkF m 76 #[.val (.ref d0), .val (.int (Int32.ofNat nw)), .val (.ref b35), .val (.int (Int32.ofNat ki)), .val (.int (Int32.ofNat vv)), .val (.int (Int32.ofNat (own_st K cc vv))), .val (.int (Int32.ofNat (own_st K cc (vv + 1)))), .val (.int (Int32.ofNat (own_st K cc vv + dd))), .unset] [])) := by
          intro f
          induction f with
          | zero => intros; rename_i hm; exact absurd hm (Nat.not_lt_zero _)
          | succ f ih_72 =>
            intro dd ki gi hh_72 locs_72 T_72 X_72 eT_72 NN_72 KK_72 q0_72 q1_72 q2_72 q3_72 q4_72 q5_72 q6_72 q7_72 q8_72 q9_72 q10_72 q11_72 q12_72 q13_72 q14_72 hdd DI hm
            have hki := DI.2.1
            show Wp p e below _ (T_72.setTop (mkF m 76 #[.val (.ref d0), .val (.int (Int32.ofNat nw)), .val (.ref b35), .val (.int (Int32.ofNat ki)), .val (.int (Int32.ofNat vv)), .val (.int (Int32.ofNat (own_st K cc vv))), .val (.int (Int32.ofNat (own_st K cc (vv + 1)))), .val (.int (Int32.ofNat (own_st K cc vv + dd))), .unset] []))
            refine Wp.step (fun t k => XS.iload X_72.here hx rfl (hb hby d3_76) rfl k) ?_
            show Wp p e below _ (T_72.setTop (mkF m 78 #[.val (.ref d0), .val (.int (Int32.ofNat nw)), .val (.ref b35), .val (.int (Int32.ofNat ki)), .val (.int (Int32.ofNat vv)), .val (.int (Int32.ofNat (own_st K cc vv))), .val (.int (Int32.ofNat (own_st K cc (vv + 1)))), .val (.int (Int32.ofNat (own_st K cc vv + dd))), .unset] [(.int (Int32.ofNat (own_st K cc vv + dd)))]))
            refine Wp.step (fun t k => XS.iload X_72.here hx rfl (hb hby d3_78) rfl k) ?_
            show Wp p e below _ (T_72.setTop (mkF m 80 #[.val (.ref d0), .val (.int (Int32.ofNat nw)), .val (.ref b35), .val (.int (Int32.ofNat ki)), .val (.int (Int32.ofNat vv)), .val (.int (Int32.ofNat (own_st K cc vv))), .val (.int (Int32.ofNat (own_st K cc (vv + 1)))), .val (.int (Int32.ofNat (own_st K cc vv + dd))), .unset] [(.int (Int32.ofNat (own_st K cc (vv + 1)))), (.int (Int32.ofNat (own_st K cc vv + dd)))]))
            by_cases hc73 : (Int32.ofNat (own_st K cc vv + dd)) < (Int32.ofNat (own_st K cc (vv + 1)))
            · have hc73n : (own_st K cc vv + dd) < (own_st K cc (vv + 1)) := (own_lt (by omega) (by omega)).mp hc73
              refine Wp.step (fun t k => XS.icmpNo X_72.here hx rfl (hb hby d3_80) rfl (tlt hc73).2.1 k) ?_
              show Wp p e below _ (T_72.setTop (mkF m 83 #[.val (.ref d0), .val (.int (Int32.ofNat nw)), .val (.ref b35), .val (.int (Int32.ofNat ki)), .val (.int (Int32.ofNat vv)), .val (.int (Int32.ofNat (own_st K cc vv))), .val (.int (Int32.ofNat (own_st K cc (vv + 1)))), .val (.int (Int32.ofNat (own_st K cc vv + dd))), .unset] []))
              refine Wp.step (fun t k => XS.iload X_72.here hx rfl (hb hby d3_83) rfl k) ?_
              show Wp p e below _ (T_72.setTop (mkF m 85 #[.val (.ref d0), .val (.int (Int32.ofNat nw)), .val (.ref b35), .val (.int (Int32.ofNat ki)), .val (.int (Int32.ofNat vv)), .val (.int (Int32.ofNat (own_st K cc vv))), .val (.int (Int32.ofNat (own_st K cc (vv + 1)))), .val (.int (Int32.ofNat (own_st K cc vv + dd))), .unset] [(.int (Int32.ofNat (own_st K cc vv + dd)))]))
              refine Wp.step (fun t k => XS.iload X_72.here hx rfl (hb hby d3_85) rfl k) ?_
              show Wp p e below _ (T_72.setTop (mkF m 87 #[.val (.ref d0), .val (.int (Int32.ofNat nw)), .val (.ref b35), .val (.int (Int32.ofNat ki)), .val (.int (Int32.ofNat vv)), .val (.int (Int32.ofNat (own_st K cc vv))), .val (.int (Int32.ofNat (own_st K cc (vv + 1)))), .val (.int (Int32.ofNat (own_st K cc vv + dd))), .unset] [(.int (Int32.ofNat (own_st K cc vv))), (.int (Int32.ofNat (own_st K cc vv + dd)))]))
              by_cases hc74 : (Int32.ofNat (own_st K cc vv + dd)) = (Int32.ofNat (own_st K cc vv))
              · have hc74n : (own_st K cc vv + dd) = (own_st K cc vv) := (own_eq (by omega) (by omega)).mp hc74
                refine Wp.step (fun t k => XS.icmpYes X_72.here hx rfl (pc0 := 87) (pc' := 104) rfl (hb hby d3_87) rfl (teq hc74).1 (by decide) (by decide) k) ?_
                show Wp p e below _ (T_72.setTop (mkF m 104 #[.val (.ref d0), .val (.int (Int32.ofNat nw)), .val (.ref b35), .val (.int (Int32.ofNat ki)), .val (.int (Int32.ofNat vv)), .val (.int (Int32.ofNat (own_st K cc vv))), .val (.int (Int32.ofNat (own_st K cc (vv + 1)))), .val (.int (Int32.ofNat (own_st K cc vv + dd))), .unset] []))
                refine Wp.step (fun t k => XS.aloadN X_72.here hx rfl (hb hby d3_104) rfl rfl k) ?_
                show Wp p e below _ (T_72.setTop (mkF m 105 #[.val (.ref d0), .val (.int (Int32.ofNat nw)), .val (.ref b35), .val (.int (Int32.ofNat ki)), .val (.int (Int32.ofNat vv)), .val (.int (Int32.ofNat (own_st K cc vv))), .val (.int (Int32.ofNat (own_st K cc (vv + 1)))), .val (.int (Int32.ofNat (own_st K cc vv + dd))), .unset] [(.ref b35)]))
                refine Wp.step (fun t k => XS.iloadN X_72.here hx rfl (hb hby d3_105) rfl k) ?_
                show Wp p e below _ (T_72.setTop (mkF m 106 #[.val (.ref d0), .val (.int (Int32.ofNat nw)), .val (.ref b35), .val (.int (Int32.ofNat ki)), .val (.int (Int32.ofNat vv)), .val (.int (Int32.ofNat (own_st K cc vv))), .val (.int (Int32.ofNat (own_st K cc (vv + 1)))), .val (.int (Int32.ofNat (own_st K cc vv + dd))), .unset] [(.int (Int32.ofNat ki)), (.ref b35)]))
                refine Wp.step (fun t k => XS.iinc X_72.here hx rfl (hb hby d3_106) rfl (l' := #[.val (.ref d0), .val (.int (Int32.ofNat nw)), .val (.ref b35), .val (.int ((Int32.ofNat ki) + (1 : Int32))), .val (.int (Int32.ofNat vv)), .val (.int (Int32.ofNat (own_st K cc vv))), .val (.int (Int32.ofNat (own_st K cc (vv + 1)))), .val (.int (Int32.ofNat (own_st K cc vv + dd))), .unset]) rfl k) ?_
                show Wp p e below _ (T_72.setTop (mkF m 109 #[.val (.ref d0), .val (.int (Int32.ofNat nw)), .val (.ref b35), .val (.int ((Int32.ofNat ki) + (1 : Int32))), .val (.int (Int32.ofNat vv)), .val (.int (Int32.ofNat (own_st K cc vv))), .val (.int (Int32.ofNat (own_st K cc (vv + 1)))), .val (.int (Int32.ofNat (own_st K cc vv + dd))), .unset] [(.int (Int32.ofNat ki)), (.ref b35)]))
                rw [show ((Int32.ofNat ki) + (1 : Int32)) = (Int32.ofNat (ki + 1)) from own_succ _]
                refine Wp.step (fun t k => XS.aloadN X_72.here hx rfl (hb hby d3_109) rfl rfl k) ?_
                show Wp p e below _ (T_72.setTop (mkF m 110 #[.val (.ref d0), .val (.int (Int32.ofNat nw)), .val (.ref b35), .val (.int (Int32.ofNat (ki + 1))), .val (.int (Int32.ofNat vv)), .val (.int (Int32.ofNat (own_st K cc vv))), .val (.int (Int32.ofNat (own_st K cc (vv + 1)))), .val (.int (Int32.ofNat (own_st K cc vv + dd))), .unset] [(.ref b35), (.int (Int32.ofNat ki)), (.ref b35)]))
                refine Wp.step (fun t k => XS.iload X_72.here hx rfl (hb hby d3_110) rfl k) ?_
                show Wp p e below _ (T_72.setTop (mkF m 112 #[.val (.ref d0), .val (.int (Int32.ofNat nw)), .val (.ref b35), .val (.int (Int32.ofNat (ki + 1))), .val (.int (Int32.ofNat vv)), .val (.int (Int32.ofNat (own_st K cc vv))), .val (.int (Int32.ofNat (own_st K cc (vv + 1)))), .val (.int (Int32.ofNat (own_st K cc vv + dd))), .unset] [(.int (Int32.ofNat (own_st K cc vv + dd))), (.ref b35), (.int (Int32.ofNat ki)), (.ref b35)]))
                obtain ⟨cl75, Ar75, Sz75, Nn75, El75⟩ := id q12_72
                have hin75 : ¬ ((Int32.ofNat (own_st K cc vv + dd)) < 0 ∨ cl75.slots.size ≤ ((Int32.ofNat (own_st K cc vv + dd))).toNatClampNeg) := inb_of Sz75 (own_inb (by omega) (by omega))
                have hat75 : cl75.slots[((Int32.ofNat (own_st K cc vv + dd))).toNatClampNeg]? = some (.long (gi ((Int32.ofNat (own_st K cc vv + dd))).toNatClampNeg)) := (El75 _ (by have q := Nat.lt_of_not_le fun q => hin75 (Or.inr q); rw [Sz75] at q; exact q))
                rw [show (gi ((Int32.ofNat (own_st K cc vv + dd))).toNatClampNeg) = (gi (own_st K cc vv + dd)) from congrArg gi (own_nat (by omega))] at hat75
                refine Wp.step (X_72.laload hx (j := (Int32.ofNat (own_st K cc vv + dd))) (v := (.long (gi (own_st K cc vv + dd)))) (by rw [eT_72]; exact Ar75.1) (State.isArrayOf_alike hZ.alike Ar75.2.1) Ar75.2.2 hin75 hat75 (g := (mkF m 112 #[.val (.ref d0), .val (.int (Int32.ofNat nw)), .val (.ref b35), .val (.int (Int32.ofNat (ki + 1))), .val (.int (Int32.ofNat vv)), .val (.int (Int32.ofNat (own_st K cc vv))), .val (.int (Int32.ofNat (own_st K cc (vv + 1)))), .val (.int (Int32.ofNat (own_st K cc vv + dd))), .unset] [(.int (Int32.ofNat (own_st K cc vv + dd))), (.ref b35), (.int (Int32.ofNat ki)), (.ref b35)])) rfl rfl (hb hby d3_112)) ?_
                show Wp p e below _ (T_72.setTop (mkF m 113 #[.val (.ref d0), .val (.int (Int32.ofNat nw)), .val (.ref b35), .val (.int (Int32.ofNat (ki + 1))), .val (.int (Int32.ofNat vv)), .val (.int (Int32.ofNat (own_st K cc vv))), .val (.int (Int32.ofNat (own_st K cc (vv + 1)))), .val (.int (Int32.ofNat (own_st K cc vv + dd))), .unset] [(.long (gi (own_st K cc vv + dd))), (.int (Int32.ofNat ki)), (.ref b35)]))
                obtain ⟨cl76, Ar76, Sz76, Nn76, El76⟩ := id q12_72
                have hin76 : ¬ ((Int32.ofNat ki) < 0 ∨ cl76.slots.size ≤ ((Int32.ofNat ki)).toNatClampNeg) := inb_of Sz76 (own_inb (by omega) (by omega))
                obtain ⟨T76, h76, X76, e76, W76, st76⟩ := stJ X_72 hx hZ eT_72 Ar76 (j := (Int32.ofNat ki)) hin76 (g := (mkF m 113 #[.val (.ref d0), .val (.int (Int32.ofNat nw)), .val (.ref b35), .val (.int (Int32.ofNat (ki + 1))), .val (.int (Int32.ofNat vv)), .val (.int (Int32.ofNat (own_st K cc vv))), .val (.int (Int32.ofNat (own_st K cc (vv + 1)))), .val (.int (Int32.ofNat (own_st K cc vv + dd))), .unset] [(.long (gi (own_st K cc vv + dd))), (.int (Int32.ofNat ki)), (.ref b35)])) rfl rfl (hb hby d3_113)
                have c77 := q0_72.wr W76
                have c78 := q1_72.other W76 (Or.inl ne_d0_b35)
                have c79 := q2_72.other W76 (Or.inl ne_d0_b35)
                have c80 := q3_72.other W76 (Or.inl ne_d0_b35)
                have c81 := q4_72.other W76 (Or.inl ne_d0_b35)
                have c82 := q5_72.other W76 (Or.inl ne_d0_b35)
                have c83 := q6_72.other W76 (Or.inl ne_d0_b35)
                have c84 := q7_72.other W76 (Or.inl ne_d0_b35)
                have c85 := q8_72.other W76 (Or.inl ne_d0_b35)
                have B86 := q9_72.other W76 ne_d1_b35
                have B87 := q10_72.other W76 ne_d2_b35
                have B88 := q11_72.other W76 ne_d3_b35
                have c89 := q13_72.wr W76
                have B90 := q14_72.other W76 ne_b1_b35
                have K91 := KK_72.wr W76 (Or.inr sz_b35)
                have N76 := Fr.snoc X76 NN_72 g_b35
                have B76 := own_JA.set Ar76 Sz76 Nn76 El76 W76
                rw [own_nat (a := ki) (by omega)] at B76
                refine Wp.step st76 ?_
                show Wp p e below _ (T76.setTop (mkF m 114 #[.val (.ref d0), .val (.int (Int32.ofNat nw)), .val (.ref b35), .val (.int (Int32.ofNat (ki + 1))), .val (.int (Int32.ofNat vv)), .val (.int (Int32.ofNat (own_st K cc vv))), .val (.int (Int32.ofNat (own_st K cc (vv + 1)))), .val (.int (Int32.ofNat (own_st K cc vv + dd))), .unset] []))
                refine Wp.step (fun t k => XS.iinc X76.here hx rfl (hb hby d3_114) rfl (l' := #[.val (.ref d0), .val (.int (Int32.ofNat nw)), .val (.ref b35), .val (.int (Int32.ofNat (ki + 1))), .val (.int (Int32.ofNat vv)), .val (.int (Int32.ofNat (own_st K cc vv))), .val (.int (Int32.ofNat (own_st K cc (vv + 1)))), .val (.int ((Int32.ofNat (own_st K cc vv + dd)) + (1 : Int32))), .unset]) rfl k) ?_
                show Wp p e below _ (T76.setTop (mkF m 117 #[.val (.ref d0), .val (.int (Int32.ofNat nw)), .val (.ref b35), .val (.int (Int32.ofNat (ki + 1))), .val (.int (Int32.ofNat vv)), .val (.int (Int32.ofNat (own_st K cc vv))), .val (.int (Int32.ofNat (own_st K cc (vv + 1)))), .val (.int ((Int32.ofNat (own_st K cc vv + dd)) + (1 : Int32))), .unset] []))
                rw [show ((Int32.ofNat (own_st K cc vv + dd)) + (1 : Int32)) = (Int32.ofNat ((own_st K cc vv + dd) + 1)) from own_succ _]
                refine Wp.step (fun t k => XS.goto X76.here hx rfl (pc0 := 117) (pc' := 76) rfl (hb hby d3_117) (by decide) (by decide) k) ?_
                show Wp p e below _ (T76.setTop (mkF m 76 #[.val (.ref d0), .val (.int (Int32.ofNat nw)), .val (.ref b35), .val (.int (Int32.ofNat (ki + 1))), .val (.int (Int32.ofNat vv)), .val (.int (Int32.ofNat (own_st K cc vv))), .val (.int (Int32.ofNat (own_st K cc (vv + 1)))), .val (.int (Int32.ofNat ((own_st K cc vv + dd) + 1))), .unset] []))
                exact ih_72 (dd + 1) (ki + 1) (own_updJ gi ki (gi (own_st K cc vv + dd))) _ _ T76 X76 e76 N76 K91 c77 c78 c79 c80 c81 c82 c83 c84 c85 B86 B87 B88 B76 c89 B90 (by omega) (DI.keep (Or.inl hc74n)) (by omega)
              · have hc74n : ¬ ((own_st K cc vv + dd) = (own_st K cc vv)) := fun q => hc74 ((own_eq (by omega) (by omega)).mpr q)
                refine Wp.step (fun t k => XS.icmpNo X_72.here hx rfl (hb hby d3_87) rfl (feq hc74).1 k) ?_
                show Wp p e below _ (T_72.setTop (mkF m 90 #[.val (.ref d0), .val (.int (Int32.ofNat nw)), .val (.ref b35), .val (.int (Int32.ofNat ki)), .val (.int (Int32.ofNat vv)), .val (.int (Int32.ofNat (own_st K cc vv))), .val (.int (Int32.ofNat (own_st K cc (vv + 1)))), .val (.int (Int32.ofNat (own_st K cc vv + dd))), .unset] []))
                refine Wp.step (fun t k => XS.aloadN X_72.here hx rfl (hb hby d3_90) rfl rfl k) ?_
                show Wp p e below _ (T_72.setTop (mkF m 91 #[.val (.ref d0), .val (.int (Int32.ofNat nw)), .val (.ref b35), .val (.int (Int32.ofNat ki)), .val (.int (Int32.ofNat vv)), .val (.int (Int32.ofNat (own_st K cc vv))), .val (.int (Int32.ofNat (own_st K cc (vv + 1)))), .val (.int (Int32.ofNat (own_st K cc vv + dd))), .unset] [(.ref b35)]))
                refine Wp.step (fun t k => XS.iload X_72.here hx rfl (hb hby d3_91) rfl k) ?_
                show Wp p e below _ (T_72.setTop (mkF m 93 #[.val (.ref d0), .val (.int (Int32.ofNat nw)), .val (.ref b35), .val (.int (Int32.ofNat ki)), .val (.int (Int32.ofNat vv)), .val (.int (Int32.ofNat (own_st K cc vv))), .val (.int (Int32.ofNat (own_st K cc (vv + 1)))), .val (.int (Int32.ofNat (own_st K cc vv + dd))), .unset] [(.int (Int32.ofNat (own_st K cc vv + dd))), (.ref b35)]))
                obtain ⟨cl92, Ar92, Sz92, Nn92, El92⟩ := id q12_72
                have hin92 : ¬ ((Int32.ofNat (own_st K cc vv + dd)) < 0 ∨ cl92.slots.size ≤ ((Int32.ofNat (own_st K cc vv + dd))).toNatClampNeg) := inb_of Sz92 (own_inb (by omega) (by omega))
                have hat92 : cl92.slots[((Int32.ofNat (own_st K cc vv + dd))).toNatClampNeg]? = some (.long (gi ((Int32.ofNat (own_st K cc vv + dd))).toNatClampNeg)) := (El92 _ (by have q := Nat.lt_of_not_le fun q => hin92 (Or.inr q); rw [Sz92] at q; exact q))
                rw [show (gi ((Int32.ofNat (own_st K cc vv + dd))).toNatClampNeg) = (gi (own_st K cc vv + dd)) from congrArg gi (own_nat (by omega))] at hat92
                refine Wp.step (X_72.laload hx (j := (Int32.ofNat (own_st K cc vv + dd))) (v := (.long (gi (own_st K cc vv + dd)))) (by rw [eT_72]; exact Ar92.1) (State.isArrayOf_alike hZ.alike Ar92.2.1) Ar92.2.2 hin92 hat92 (g := (mkF m 93 #[.val (.ref d0), .val (.int (Int32.ofNat nw)), .val (.ref b35), .val (.int (Int32.ofNat ki)), .val (.int (Int32.ofNat vv)), .val (.int (Int32.ofNat (own_st K cc vv))), .val (.int (Int32.ofNat (own_st K cc (vv + 1)))), .val (.int (Int32.ofNat (own_st K cc vv + dd))), .unset] [(.int (Int32.ofNat (own_st K cc vv + dd))), (.ref b35)])) rfl rfl (hb hby d3_93)) ?_
                show Wp p e below _ (T_72.setTop (mkF m 94 #[.val (.ref d0), .val (.int (Int32.ofNat nw)), .val (.ref b35), .val (.int (Int32.ofNat ki)), .val (.int (Int32.ofNat vv)), .val (.int (Int32.ofNat (own_st K cc vv))), .val (.int (Int32.ofNat (own_st K cc (vv + 1)))), .val (.int (Int32.ofNat (own_st K cc vv + dd))), .unset] [(.long (gi (own_st K cc vv + dd)))]))
                refine Wp.step (fun t k => XS.aloadN X_72.here hx rfl (hb hby d3_94) rfl rfl k) ?_
                show Wp p e below _ (T_72.setTop (mkF m 95 #[.val (.ref d0), .val (.int (Int32.ofNat nw)), .val (.ref b35), .val (.int (Int32.ofNat ki)), .val (.int (Int32.ofNat vv)), .val (.int (Int32.ofNat (own_st K cc vv))), .val (.int (Int32.ofNat (own_st K cc (vv + 1)))), .val (.int (Int32.ofNat (own_st K cc vv + dd))), .unset] [(.ref b35), (.long (gi (own_st K cc vv + dd)))]))
                refine Wp.step (fun t k => XS.iload X_72.here hx rfl (hb hby d3_95) rfl k) ?_
                show Wp p e below _ (T_72.setTop (mkF m 97 #[.val (.ref d0), .val (.int (Int32.ofNat nw)), .val (.ref b35), .val (.int (Int32.ofNat ki)), .val (.int (Int32.ofNat vv)), .val (.int (Int32.ofNat (own_st K cc vv))), .val (.int (Int32.ofNat (own_st K cc (vv + 1)))), .val (.int (Int32.ofNat (own_st K cc vv + dd))), .unset] [(.int (Int32.ofNat (own_st K cc vv + dd))), (.ref b35), (.long (gi (own_st K cc vv + dd)))]))
                refine Wp.step (fun t k => XS.iconst X_72.here hx rfl (hb hby d3_97) k) ?_
                show Wp p e below _ (T_72.setTop (mkF m 98 #[.val (.ref d0), .val (.int (Int32.ofNat nw)), .val (.ref b35), .val (.int (Int32.ofNat ki)), .val (.int (Int32.ofNat vv)), .val (.int (Int32.ofNat (own_st K cc vv))), .val (.int (Int32.ofNat (own_st K cc (vv + 1)))), .val (.int (Int32.ofNat (own_st K cc vv + dd))), .unset] [(.int (1 : Int32)), (.int (Int32.ofNat (own_st K cc vv + dd))), (.ref b35), (.long (gi (own_st K cc vv + dd)))]))
                refine Wp.step (fun t k => XS.isub X_72.here hx rfl (hb hby d3_98) rfl k) ?_
                show Wp p e below _ (T_72.setTop (mkF m 99 #[.val (.ref d0), .val (.int (Int32.ofNat nw)), .val (.ref b35), .val (.int (Int32.ofNat ki)), .val (.int (Int32.ofNat vv)), .val (.int (Int32.ofNat (own_st K cc vv))), .val (.int (Int32.ofNat (own_st K cc (vv + 1)))), .val (.int (Int32.ofNat (own_st K cc vv + dd))), .unset] [(.int ((Int32.ofNat (own_st K cc vv + dd)) - (1 : Int32))), (.ref b35), (.long (gi (own_st K cc vv + dd)))]))
                rw [show ((Int32.ofNat (own_st K cc vv + dd)) - (1 : Int32)) = (Int32.ofNat ((own_st K cc vv + dd) - 1)) from own_pred (by omega)]
                obtain ⟨cl93, Ar93, Sz93, Nn93, El93⟩ := id q12_72
                have hin93 : ¬ ((Int32.ofNat ((own_st K cc vv + dd) - 1)) < 0 ∨ cl93.slots.size ≤ ((Int32.ofNat ((own_st K cc vv + dd) - 1))).toNatClampNeg) := inb_of Sz93 (own_inb (by omega) (by omega))
                have hat93 : cl93.slots[((Int32.ofNat ((own_st K cc vv + dd) - 1))).toNatClampNeg]? = some (.long (gi ((Int32.ofNat ((own_st K cc vv + dd) - 1))).toNatClampNeg)) := (El93 _ (by have q := Nat.lt_of_not_le fun q => hin93 (Or.inr q); rw [Sz93] at q; exact q))
                rw [show (gi ((Int32.ofNat ((own_st K cc vv + dd) - 1))).toNatClampNeg) = (gi ((own_st K cc vv + dd) - 1)) from congrArg gi (own_nat (by omega))] at hat93
                refine Wp.step (X_72.laload hx (j := (Int32.ofNat ((own_st K cc vv + dd) - 1))) (v := (.long (gi ((own_st K cc vv + dd) - 1)))) (by rw [eT_72]; exact Ar93.1) (State.isArrayOf_alike hZ.alike Ar93.2.1) Ar93.2.2 hin93 hat93 (g := (mkF m 99 #[.val (.ref d0), .val (.int (Int32.ofNat nw)), .val (.ref b35), .val (.int (Int32.ofNat ki)), .val (.int (Int32.ofNat vv)), .val (.int (Int32.ofNat (own_st K cc vv))), .val (.int (Int32.ofNat (own_st K cc (vv + 1)))), .val (.int (Int32.ofNat (own_st K cc vv + dd))), .unset] [(.int (Int32.ofNat ((own_st K cc vv + dd) - 1))), (.ref b35), (.long (gi (own_st K cc vv + dd)))])) rfl rfl (hb hby d3_99)) ?_
                show Wp p e below _ (T_72.setTop (mkF m 100 #[.val (.ref d0), .val (.int (Int32.ofNat nw)), .val (.ref b35), .val (.int (Int32.ofNat ki)), .val (.int (Int32.ofNat vv)), .val (.int (Int32.ofNat (own_st K cc vv))), .val (.int (Int32.ofNat (own_st K cc (vv + 1)))), .val (.int (Int32.ofNat (own_st K cc vv + dd))), .unset] [(.long (gi ((own_st K cc vv + dd) - 1))), (.long (gi (own_st K cc vv + dd)))]))
                refine Wp.step (fun t k => XS.lcmp X_72.here hx rfl (hb hby d3_100) rfl k) ?_
                show Wp p e below _ (T_72.setTop (mkF m 101 #[.val (.ref d0), .val (.int (Int32.ofNat nw)), .val (.ref b35), .val (.int (Int32.ofNat ki)), .val (.int (Int32.ofNat vv)), .val (.int (Int32.ofNat (own_st K cc vv))), .val (.int (Int32.ofNat (own_st K cc (vv + 1)))), .val (.int (Int32.ofNat (own_st K cc vv + dd))), .unset] [(.int (lcmpW (gi (own_st K cc vv + dd)) (gi ((own_st K cc vv + dd) - 1))))]))
                by_cases hc94 : (lcmpW (gi (own_st K cc vv + dd)) (gi ((own_st K cc vv + dd) - 1))) = (0 : Int32)
                · have hc94n := (lw_eq _ _).mp hc94
                  refine Wp.step (fun t k => XS.ifYes X_72.here hx rfl (pc0 := 101) (pc' := 114) rfl (hb hby d3_101) rfl ((if0 _ _).trans (teq hc94).1) (by decide) (by decide) k) ?_
                  show Wp p e below _ (T_72.setTop (mkF m 114 #[.val (.ref d0), .val (.int (Int32.ofNat nw)), .val (.ref b35), .val (.int (Int32.ofNat ki)), .val (.int (Int32.ofNat vv)), .val (.int (Int32.ofNat (own_st K cc vv))), .val (.int (Int32.ofNat (own_st K cc (vv + 1)))), .val (.int (Int32.ofNat (own_st K cc vv + dd))), .unset] []))
                  refine Wp.step (fun t k => XS.iinc X_72.here hx rfl (hb hby d3_114) rfl (l' := #[.val (.ref d0), .val (.int (Int32.ofNat nw)), .val (.ref b35), .val (.int (Int32.ofNat ki)), .val (.int (Int32.ofNat vv)), .val (.int (Int32.ofNat (own_st K cc vv))), .val (.int (Int32.ofNat (own_st K cc (vv + 1)))), .val (.int ((Int32.ofNat (own_st K cc vv + dd)) + (1 : Int32))), .unset]) rfl k) ?_
                  show Wp p e below _ (T_72.setTop (mkF m 117 #[.val (.ref d0), .val (.int (Int32.ofNat nw)), .val (.ref b35), .val (.int (Int32.ofNat ki)), .val (.int (Int32.ofNat vv)), .val (.int (Int32.ofNat (own_st K cc vv))), .val (.int (Int32.ofNat (own_st K cc (vv + 1)))), .val (.int ((Int32.ofNat (own_st K cc vv + dd)) + (1 : Int32))), .unset] []))
                  rw [show ((Int32.ofNat (own_st K cc vv + dd)) + (1 : Int32)) = (Int32.ofNat ((own_st K cc vv + dd) + 1)) from own_succ _]
                  refine Wp.step (fun t k => XS.goto X_72.here hx rfl (pc0 := 117) (pc' := 76) rfl (hb hby d3_117) (by decide) (by decide) k) ?_
                  show Wp p e below _ (T_72.setTop (mkF m 76 #[.val (.ref d0), .val (.int (Int32.ofNat nw)), .val (.ref b35), .val (.int (Int32.ofNat ki)), .val (.int (Int32.ofNat vv)), .val (.int (Int32.ofNat (own_st K cc vv))), .val (.int (Int32.ofNat (own_st K cc (vv + 1)))), .val (.int (Int32.ofNat ((own_st K cc vv + dd) + 1))), .unset] []))
                  exact ih_72 (dd + 1) ki gi _ _ T_72 X_72 eT_72 NN_72 KK_72 q0_72 q1_72 q2_72 q3_72 q4_72 q5_72 q6_72 q7_72 q8_72 q9_72 q10_72 q11_72 q12_72 q13_72 q14_72 (by omega) (DI.skip hc74n hc94n) (by omega)
                · have hc94n := fun q => hc94 ((lw_eq _ _).mpr q)
                  refine Wp.step (fun t k => XS.ifNo X_72.here hx rfl (hb hby d3_101) rfl ((if0 _ _).trans (feq hc94).1) k) ?_
                  show Wp p e below _ (T_72.setTop (mkF m 104 #[.val (.ref d0), .val (.int (Int32.ofNat nw)), .val (.ref b35), .val (.int (Int32.ofNat ki)), .val (.int (Int32.ofNat vv)), .val (.int (Int32.ofNat (own_st K cc vv))), .val (.int (Int32.ofNat (own_st K cc (vv + 1)))), .val (.int (Int32.ofNat (own_st K cc vv + dd))), .unset] []))
                  refine Wp.step (fun t k => XS.aloadN X_72.here hx rfl (hb hby d3_104) rfl rfl k) ?_
                  show Wp p e below _ (T_72.setTop (mkF m 105 #[.val (.ref d0), .val (.int (Int32.ofNat nw)), .val (.ref b35), .val (.int (Int32.ofNat ki)), .val (.int (Int32.ofNat vv)), .val (.int (Int32.ofNat (own_st K cc vv))), .val (.int (Int32.ofNat (own_st K cc (vv + 1)))), .val (.int (Int32.ofNat (own_st K cc vv + dd))), .unset] [(.ref b35)]))
                  refine Wp.step (fun t k => XS.iloadN X_72.here hx rfl (hb hby d3_105) rfl k) ?_
                  show Wp p e below _ (T_72.setTop (mkF m 106 #[.val (.ref d0), .val (.int (Int32.ofNat nw)), .val (.ref b35), .val (.int (Int32.ofNat ki)), .val (.int (Int32.ofNat vv)), .val (.int (Int32.ofNat (own_st K cc vv))), .val (.int (Int32.ofNat (own_st K cc (vv + 1)))), .val (.int (Int32.ofNat (own_st K cc vv + dd))), .unset] [(.int (Int32.ofNat ki)), (.ref b35)]))
                  refine Wp.step (fun t k => XS.iinc X_72.here hx rfl (hb hby d3_106) rfl (l' := #[.val (.ref d0), .val (.int (Int32.ofNat nw)), .val (.ref b35), .val (.int ((Int32.ofNat ki) + (1 : Int32))), .val (.int (Int32.ofNat vv)), .val (.int (Int32.ofNat (own_st K cc vv))), .val (.int (Int32.ofNat (own_st K cc (vv + 1)))), .val (.int (Int32.ofNat (own_st K cc vv + dd))), .unset]) rfl k) ?_
                  show Wp p e below _ (T_72.setTop (mkF m 109 #[.val (.ref d0), .val (.int (Int32.ofNat nw)), .val (.ref b35), .val (.int ((Int32.ofNat ki) + (1 : Int32))), .val (.int (Int32.ofNat vv)), .val (.int (Int32.ofNat (own_st K cc vv))), .val (.int (Int32.ofNat (own_st K cc (vv + 1)))), .val (.int (Int32.ofNat (own_st K cc vv + dd))), .unset] [(.int (Int32.ofNat ki)), (.ref b35)]))
                  rw [show ((Int32.ofNat ki) + (1 : Int32)) = (Int32.ofNat (ki + 1)) from own_succ _]
                  refine Wp.step (fun t k => XS.aloadN X_72.here hx rfl (hb hby d3_109) rfl rfl k) ?_
                  show Wp p e below _ (T_72.setTop (mkF m 110 #[.val (.ref d0), .val (.int (Int32.ofNat nw)), .val (.ref b35), .val (.int (Int32.ofNat (ki + 1))), .val (.int (Int32.ofNat vv)), .val (.int (Int32.ofNat (own_st K cc vv))), .val (.int (Int32.ofNat (own_st K cc (vv + 1)))), .val (.int (Int32.ofNat (own_st K cc vv + dd))), .unset] [(.ref b35), (.int (Int32.ofNat ki)), (.ref b35)]))
                  refine Wp.step (fun t k => XS.iload X_72.here hx rfl (hb hby d3_110) rfl k) ?_
                  show Wp p e below _ (T_72.setTop (mkF m 112 #[.val (.ref d0), .val (.int (Int32.ofNat nw)), .val (.ref b35), .val (.int (Int32.ofNat (ki + 1))), .val (.int (Int32.ofNat vv)), .val (.int (Int32.ofNat (own_st K cc vv))), .val (.int (Int32.ofNat (own_st K cc (vv + 1)))), .val (.int (Int32.ofNat (own_st K cc vv + dd))), .unset] [(.int (Int32.ofNat (own_st K cc vv + dd))), (.ref b35), (.int (Int32.ofNat ki)), (.ref b35)]))
                  obtain ⟨cl95, Ar95, Sz95, Nn95, El95⟩ := id q12_72
                  have hin95 : ¬ ((Int32.ofNat (own_st K cc vv + dd)) < 0 ∨ cl95.slots.size ≤ ((Int32.ofNat (own_st K cc vv + dd))).toNatClampNeg) := inb_of Sz95 (own_inb (by omega) (by omega))
                  have hat95 : cl95.slots[((Int32.ofNat (own_st K cc vv + dd))).toNatClampNeg]? = some (.long (gi ((Int32.ofNat (own_st K cc vv + dd))).toNatClampNeg)) := (El95 _ (by have q := Nat.lt_of_not_le fun q => hin95 (Or.inr q); rw [Sz95] at q; exact q))
                  rw [show (gi ((Int32.ofNat (own_st K cc vv + dd))).toNatClampNeg) = (gi (own_st K cc vv + dd)) from congrArg gi (own_nat (by omega))] at hat95
                  refine Wp.step (X_72.laload hx (j := (Int32.ofNat (own_st K cc vv + dd))) (v := (.long (gi (own_st K cc vv + dd)))) (by rw [eT_72]; exact Ar95.1) (State.isArrayOf_alike hZ.alike Ar95.2.1) Ar95.2.2 hin95 hat95 (g := (mkF m 112 #[.val (.ref d0), .val (.int (Int32.ofNat nw)), .val (.ref b35), .val (.int (Int32.ofNat (ki + 1))), .val (.int (Int32.ofNat vv)), .val (.int (Int32.ofNat (own_st K cc vv))), .val (.int (Int32.ofNat (own_st K cc (vv + 1)))), .val (.int (Int32.ofNat (own_st K cc vv + dd))), .unset] [(.int (Int32.ofNat (own_st K cc vv + dd))), (.ref b35), (.int (Int32.ofNat ki)), (.ref b35)])) rfl rfl (hb hby d3_112)) ?_
                  show Wp p e below _ (T_72.setTop (mkF m 113 #[.val (.ref d0), .val (.int (Int32.ofNat nw)), .val (.ref b35), .val (.int (Int32.ofNat (ki + 1))), .val (.int (Int32.ofNat vv)), .val (.int (Int32.ofNat (own_st K cc vv))), .val (.int (Int32.ofNat (own_st K cc (vv + 1)))), .val (.int (Int32.ofNat (own_st K cc vv + dd))), .unset] [(.long (gi (own_st K cc vv + dd))), (.int (Int32.ofNat ki)), (.ref b35)]))
                  obtain ⟨cl96, Ar96, Sz96, Nn96, El96⟩ := id q12_72
                  have hin96 : ¬ ((Int32.ofNat ki) < 0 ∨ cl96.slots.size ≤ ((Int32.ofNat ki)).toNatClampNeg) := inb_of Sz96 (own_inb (by omega) (by omega))
                  obtain ⟨T96, h96, X96, e96, W96, st96⟩ := stJ X_72 hx hZ eT_72 Ar96 (j := (Int32.ofNat ki)) hin96 (g := (mkF m 113 #[.val (.ref d0), .val (.int (Int32.ofNat nw)), .val (.ref b35), .val (.int (Int32.ofNat (ki + 1))), .val (.int (Int32.ofNat vv)), .val (.int (Int32.ofNat (own_st K cc vv))), .val (.int (Int32.ofNat (own_st K cc (vv + 1)))), .val (.int (Int32.ofNat (own_st K cc vv + dd))), .unset] [(.long (gi (own_st K cc vv + dd))), (.int (Int32.ofNat ki)), (.ref b35)])) rfl rfl (hb hby d3_113)
                  have c97 := q0_72.wr W96
                  have c98 := q1_72.other W96 (Or.inl ne_d0_b35)
                  have c99 := q2_72.other W96 (Or.inl ne_d0_b35)
                  have c100 := q3_72.other W96 (Or.inl ne_d0_b35)
                  have c101 := q4_72.other W96 (Or.inl ne_d0_b35)
                  have c102 := q5_72.other W96 (Or.inl ne_d0_b35)
                  have c103 := q6_72.other W96 (Or.inl ne_d0_b35)
                  have c104 := q7_72.other W96 (Or.inl ne_d0_b35)
                  have c105 := q8_72.other W96 (Or.inl ne_d0_b35)
                  have B106 := q9_72.other W96 ne_d1_b35
                  have B107 := q10_72.other W96 ne_d2_b35
                  have B108 := q11_72.other W96 ne_d3_b35
                  have c109 := q13_72.wr W96
                  have B110 := q14_72.other W96 ne_b1_b35
                  have K111 := KK_72.wr W96 (Or.inr sz_b35)
                  have N96 := Fr.snoc X96 NN_72 g_b35
                  have B96 := own_JA.set Ar96 Sz96 Nn96 El96 W96
                  rw [own_nat (a := ki) (by omega)] at B96
                  refine Wp.step st96 ?_
                  show Wp p e below _ (T96.setTop (mkF m 114 #[.val (.ref d0), .val (.int (Int32.ofNat nw)), .val (.ref b35), .val (.int (Int32.ofNat (ki + 1))), .val (.int (Int32.ofNat vv)), .val (.int (Int32.ofNat (own_st K cc vv))), .val (.int (Int32.ofNat (own_st K cc (vv + 1)))), .val (.int (Int32.ofNat (own_st K cc vv + dd))), .unset] []))
                  refine Wp.step (fun t k => XS.iinc X96.here hx rfl (hb hby d3_114) rfl (l' := #[.val (.ref d0), .val (.int (Int32.ofNat nw)), .val (.ref b35), .val (.int (Int32.ofNat (ki + 1))), .val (.int (Int32.ofNat vv)), .val (.int (Int32.ofNat (own_st K cc vv))), .val (.int (Int32.ofNat (own_st K cc (vv + 1)))), .val (.int ((Int32.ofNat (own_st K cc vv + dd)) + (1 : Int32))), .unset]) rfl k) ?_
                  show Wp p e below _ (T96.setTop (mkF m 117 #[.val (.ref d0), .val (.int (Int32.ofNat nw)), .val (.ref b35), .val (.int (Int32.ofNat (ki + 1))), .val (.int (Int32.ofNat vv)), .val (.int (Int32.ofNat (own_st K cc vv))), .val (.int (Int32.ofNat (own_st K cc (vv + 1)))), .val (.int ((Int32.ofNat (own_st K cc vv + dd)) + (1 : Int32))), .unset] []))
                  rw [show ((Int32.ofNat (own_st K cc vv + dd)) + (1 : Int32)) = (Int32.ofNat ((own_st K cc vv + dd) + 1)) from own_succ _]
                  refine Wp.step (fun t k => XS.goto X96.here hx rfl (pc0 := 117) (pc' := 76) rfl (hb hby d3_117) (by decide) (by decide) k) ?_
                  show Wp p e below _ (T96.setTop (mkF m 76 #[.val (.ref d0), .val (.int (Int32.ofNat nw)), .val (.ref b35), .val (.int (Int32.ofNat (ki + 1))), .val (.int (Int32.ofNat vv)), .val (.int (Int32.ofNat (own_st K cc vv))), .val (.int (Int32.ofNat (own_st K cc (vv + 1)))), .val (.int (Int32.ofNat ((own_st K cc vv + dd) + 1))), .unset] []))
                  exact ih_72 (dd + 1) (ki + 1) (own_updJ gi ki (gi (own_st K cc vv + dd))) _ _ T96 X96 e96 N96 K111 c97 c98 c99 c100 c101 c102 c103 c104 c105 B106 B107 B108 B96 c109 B110 (by omega) (DI.keep (Or.inr ⟨hc74n, hc94n⟩)) (by omega)
            · have hc73n : ¬ ((own_st K cc vv + dd) < (own_st K cc (vv + 1))) := fun q => hc73 ((own_lt (by omega) (by omega)).mpr q)
              refine Wp.step (fun t k => XS.icmpYes X_72.here hx rfl (pc0 := 80) (pc' := 120) rfl (hb hby d3_80) rfl (flt hc73).2.1 (by decide) (by decide) k) ?_
              show Wp p e below _ (T_72.setTop (mkF m 120 #[.val (.ref d0), .val (.int (Int32.ofNat nw)), .val (.ref b35), .val (.int (Int32.ofNat ki)), .val (.int (Int32.ofNat vv)), .val (.int (Int32.ofNat (own_st K cc vv))), .val (.int (Int32.ofNat (own_st K cc (vv + 1)))), .val (.int (Int32.ofNat (own_st K cc vv + dd))), .unset] []))
              refine Wp.step (fun t k => XS.iinc X_72.here hx rfl (hb hby d3_120) rfl (l' := #[.val (.ref d0), .val (.int (Int32.ofNat nw)), .val (.ref b35), .val (.int (Int32.ofNat ki)), .val (.int ((Int32.ofNat vv) + (1 : Int32))), .val (.int (Int32.ofNat (own_st K cc vv))), .val (.int (Int32.ofNat (own_st K cc (vv + 1)))), .val (.int (Int32.ofNat (own_st K cc vv + dd))), .unset]) rfl k) ?_
              show Wp p e below _ (T_72.setTop (mkF m 123 #[.val (.ref d0), .val (.int (Int32.ofNat nw)), .val (.ref b35), .val (.int (Int32.ofNat ki)), .val (.int ((Int32.ofNat vv) + (1 : Int32))), .val (.int (Int32.ofNat (own_st K cc vv))), .val (.int (Int32.ofNat (own_st K cc (vv + 1)))), .val (.int (Int32.ofNat (own_st K cc vv + dd))), .unset] []))
              rw [show ((Int32.ofNat vv) + (1 : Int32)) = (Int32.ofNat (vv + 1)) from own_succ _]
              refine Wp.step (fun t k => XS.goto X_72.here hx rfl (pc0 := 123) (pc' := 38) rfl (hb hby d3_123) (by decide) (by decide) k) ?_
              show Wp p e below _ (T_72.setTop (mkF m 38 #[.val (.ref d0), .val (.int (Int32.ofNat nw)), .val (.ref b35), .val (.int (Int32.ofNat ki)), .val (.int (Int32.ofNat (vv + 1))), .val (.int (Int32.ofNat (own_st K cc vv))), .val (.int (Int32.ofNat (own_st K cc (vv + 1)))), .val (.int (Int32.ofNat (own_st K cc vv + dd))), .unset] []))
              exact ih_49 (vv + 1) ki gi (.val (.int (Int32.ofNat (own_st K cc vv)))) (.val (.int (Int32.ofNat (own_st K cc (vv + 1))))) (.val (.int (Int32.ofNat (own_st K cc vv + dd)))) _ _ T_72 X_72 eT_72 NN_72 KK_72 q0_72 q1_72 q2_72 q3_72 q4_72 q5_72 q6_72 q7_72 q8_72 q9_72 q10_72 q11_72 q14_72 q12_72 q13_72 (by omega) (DI.next (by omega)) (One.val rfl) (One.val rfl) (One.val rfl) (by omega)
        exact loop72 (own_tot K vv cc + 1) 0 kk ga _ _ T56 X56 e56 N56 K71 c57 c58 c59 c60 c61 c62 c63 c64 c65 B66 B67 B68 B69 c70 B56 (Nat.zero_le _) DD (by omega)
      · have hc50n : ¬ (vv < nw) := fun q => hc50 ((own_lt (by omega) (by omega)).mpr q)
        have hve : vv = nw := by omega
        rw [hve] at DD hDl hkl hle
        refine Wp.step (fun t k => XS.icmpYes X_49.here hx rfl (pc0 := 41) (pc' := 126) rfl (hb hby d3_41) rfl (flt hc50).2.1 (by decide) (by decide) k) ?_
        show Wp p e below _ (T_49.setTop (mkF m 126 #[.val (.ref d0), .val (.int (Int32.ofNat nw)), .val (.ref b35), .val (.int (Int32.ofNat kk)), .val (.int (Int32.ofNat vv)), sl5, sl6, sl7, .unset] []))
        refine Wp.step (fun t k => XS.aloadN X_49.here hx rfl (hb hby d3_126) rfl rfl k) ?_
        show Wp p e below _ (T_49.setTop (mkF m 127 #[.val (.ref d0), .val (.int (Int32.ofNat nw)), .val (.ref b35), .val (.int (Int32.ofNat kk)), .val (.int (Int32.ofNat vv)), sl5, sl6, sl7, .unset] [(.ref d0)]))
        obtain ⟨T112, X112, e112, st112⟩ := getF X_49 hx hZ hown (host := "") (Or.inl (hw _ (List.mem_of_getElem? (i := 21) rfl))) Via.refl eT_49 q5_49 (g := (mkF m 127 #[.val (.ref d0), .val (.int (Int32.ofNat nw)), .val (.ref b35), .val (.int (Int32.ofNat kk)), .val (.int (Int32.ofNat vv)), sl5, sl6, sl7, .unset] [(.ref d0)])) rfl rfl (hb hby d3_127)
        refine Wp.step st112 ?_
        show Wp p e below _ (T112.setTop (mkF m 130 #[.val (.ref d0), .val (.int (Int32.ofNat nw)), .val (.ref b35), .val (.int (Int32.ofNat kk)), .val (.int (Int32.ofNat vv)), sl5, sl6, sl7, .unset] [(.ref b1)]))
        refine Wp.step (fun t k => XS.iloadN X112.here hx rfl (hb hby d3_130) rfl k) ?_
        show Wp p e below _ (T112.setTop (mkF m 131 #[.val (.ref d0), .val (.int (Int32.ofNat nw)), .val (.ref b35), .val (.int (Int32.ofNat kk)), .val (.int (Int32.ofNat vv)), sl5, sl6, sl7, .unset] [(.int (Int32.ofNat nw)), (.ref b1)]))
        refine Wp.step (fun t k => XS.iloadN X112.here hx rfl (hb hby d3_131) rfl k) ?_
        show Wp p e below _ (T112.setTop (mkF m 132 #[.val (.ref d0), .val (.int (Int32.ofNat nw)), .val (.ref b35), .val (.int (Int32.ofNat kk)), .val (.int (Int32.ofNat vv)), sl5, sl6, sl7, .unset] [(.int (Int32.ofNat kk)), (.int (Int32.ofNat nw)), (.ref b1)]))
        obtain ⟨cl113, Ar113, Sz113, Nn113, El113⟩ := id q12_49
        have hin113 : ¬ ((Int32.ofNat nw) < 0 ∨ cl113.slots.size ≤ ((Int32.ofNat nw)).toNatClampNeg) := inb_of Sz113 (own_inb (by omega) (by omega))
        obtain ⟨T113, h113, X113, e113, W113, st113⟩ := stI X112 hx hZ e112 Ar113 (j := (Int32.ofNat nw)) hin113 (g := (mkF m 132 #[.val (.ref d0), .val (.int (Int32.ofNat nw)), .val (.ref b35), .val (.int (Int32.ofNat kk)), .val (.int (Int32.ofNat vv)), sl5, sl6, sl7, .unset] [(.int (Int32.ofNat kk)), (.int (Int32.ofNat nw)), (.ref b1)])) rfl rfl (hb hby d3_132)
        have c114 := q0_49.wr W113
        have c115 := q1_49.other W113 (Or.inl ne_d0_b1)
        have c116 := q2_49.other W113 (Or.inl ne_d0_b1)
        have c117 := q3_49.other W113 (Or.inl ne_d0_b1)
        have c118 := q4_49.other W113 (Or.inl ne_d0_b1)
        have c119 := q5_49.other W113 (Or.inl ne_d0_b1)
        have c120 := q6_49.other W113 (Or.inl ne_d0_b1)
        have c121 := q7_49.other W113 (Or.inl ne_d0_b1)
        have c122 := q8_49.other W113 (Or.inl ne_d0_b1)
        have B123 := q9_49.other W113 ne_d1_b1
        have B124 := q10_49.other W113 ne_d2_b1
        have B125 := q11_49.other W113 ne_d3_b1
        have B126 := q13_49.other W113 (Ne.symm ne_b1_b35)
        have c127 := q14_49.wr W113
        have K128 := KK_49.wr W113 (Or.inr sz_b1)
        have N113 := Fr.snoc X113 NN_49 g_b1
        have B113 := own_IA.set Ar113 Sz113 Nn113 El113 W113 rfl
        rw [own_nat (a := nw) (by omega)] at B113
        rw [hve, own_f3_step hDl] at B113
        have BDI := own_IA.cong (g' := own_DI K (own_W fa2 fa3) cc) B113 (fun v hv => own_f3_end FIN35 (by rw [own_nat (by omega)] at hv; exact hv))
        have hkc : kk ≤ cc := by omega
        refine Wp.step st113 ?_
        show Wp p e below _ (T113.setTop (mkF m 133 #[.val (.ref d0), .val (.int (Int32.ofNat nw)), .val (.ref b35), .val (.int (Int32.ofNat kk)), .val (.int (Int32.ofNat vv)), sl5, sl6, sl7, .unset] []))
        refine Wp.step (fun t k => XS.aloadN X113.here hx rfl (hb hby d3_133) rfl rfl k) ?_
        show Wp p e below _ (T113.setTop (mkF m 134 #[.val (.ref d0), .val (.int (Int32.ofNat nw)), .val (.ref b35), .val (.int (Int32.ofNat kk)), .val (.int (Int32.ofNat vv)), sl5, sl6, sl7, .unset] [(.ref d0)]))
        refine Wp.step (fun t k => XS.aloadN X113.here hx rfl (hb hby d3_134) rfl rfl k) ?_
        show Wp p e below _ (T113.setTop (mkF m 135 #[.val (.ref d0), .val (.int (Int32.ofNat nw)), .val (.ref b35), .val (.int (Int32.ofNat kk)), .val (.int (Int32.ofNat vv)), sl5, sl6, sl7, .unset] [(.ref b35), (.ref d0)]))
        refine Wp.step (fun t k => XS.iloadN X113.here hx rfl (hb hby d3_135) rfl k) ?_
        show Wp p e below _ (T113.setTop (mkF m 136 #[.val (.ref d0), .val (.int (Int32.ofNat nw)), .val (.ref b35), .val (.int (Int32.ofNat kk)), .val (.int (Int32.ofNat vv)), sl5, sl6, sl7, .unset] [(.int (Int32.ofNat kk)), (.ref b35), (.ref d0)]))
        obtain ⟨_, _, ⟨T129, L129, k129, n129⟩, -, X129, ⟨Lc129, hQ129, l129, y129, z129⟩, st129⟩ := Jvm.LawKit.callS X113 hx (y := (⟨"java/util/Arrays", "copyOf", "([JI)[J"⟩ : MethodName)) hown (mvT hZ (hw _ (List.mem_of_getElem? (i := 57) rfl))) (mvT hZ (hw _ (List.mem_of_getElem? (i := 58) rfl))) (mvT hZ (hw _ (List.mem_of_getElem? (i := 31) rfl))) (mvT hZ (hw _ (List.mem_of_getElem? (i := 59) rfl))) (by decide) (backOf (W := 1) (rm12 l Z a0 hw [] b35 (Int32.ofNat kk) kk cc ga h113 n0 (Nat.le_trans Z0 K128.1) rfl B126 (by omega) (by omega) c127) hZ (hw _ (List.mem_of_getElem? (i := 59) rfl)) (hw _ (List.mem_of_getElem? (i := 31) rfl)) (by decide) (by decide)) (g := (mkF m 136 #[.val (.ref d0), .val (.int (Int32.ofNat nw)), .val (.ref b35), .val (.int (Int32.ofNat kk)), .val (.int (Int32.ofNat vv)), sl5, sl6, sl7, .unset] [(.int (Int32.ofNat kk)), (.ref b35), (.ref d0)])) rfl (by rw [hml]; rfl) (argsL := [(.ref b35), (.int (Int32.ofNat kk))]) (rest := [(.ref d0)]) (lenOf pd_285bJI295bJ rfl) rfl (by show 2 * 0 + _ ≤ _; exact Nat.le_of_eq rfl) (hb hby d3_136) (fun _ _ => ⟨rfl, e113, (by decide : 3 + 1 ≤ _), (by decide : 15 + 5 ≤ _)⟩)
        dsimp only [Pt.U, Pt.locs, Pt.cells, Pt.slots] at X129 l129 y129 z129 st129 hQ129
        subst l129 y129 z129
        obtain ⟨h129, e129⟩ : ∃ z, T129.heap = z := ⟨_, rfl⟩
        rw [e129] at hQ129
        obtain ⟨b129, rfl, N129q, Kc129, zz129, BB129⟩ := hQ129
        have N129 := Fr.app N113 N129q
        have g_b129 : n0 ≤ b129 := Nat.le_trans (Nat.le_trans Z0 K128.1) zz129
        have sz_b129 : h0.size ≤ b129 := Nat.le_trans K128.1 zz129
        have ne_b1_b129 : b1 ≠ b129 := Nat.ne_of_lt (Nat.lt_of_lt_of_le BDI.lt zz129)
        have ne_b35_b129 : b35 ≠ b129 := Nat.ne_of_lt (Nat.lt_of_lt_of_le c127.lt zz129)
        have ne_d0_b129 : d0 ≠ b129 := Nat.ne_of_lt (Nat.lt_of_lt_of_le c114.lt zz129)
        have ne_d1_b129 : d1 ≠ b129 := Nat.ne_of_lt (Nat.lt_of_lt_of_le B123.lt zz129)
        have ne_d2_b129 : d2 ≠ b129 := Nat.ne_of_lt (Nat.lt_of_lt_of_le B124.lt zz129)
        have ne_d3_b129 : d3 ≠ b129 := Nat.ne_of_lt (Nat.lt_of_lt_of_le B125.lt zz129)
        have c130 := c114.keep Kc129
        have c131 := c115.keep Kc129 nin0
        have c132 := c116.keep Kc129 nin0
        have c133 := c117.keep Kc129 nin0
        have c134 := c118.keep Kc129 nin0
        have c135 := c119.keep Kc129 nin0
        have c136 := c120.keep Kc129 nin0
        have c137 := c121.keep Kc129 nin0
        have c138 := c122.keep Kc129 nin0
        have B139 := B123.keep Kc129 nin0
        have B140 := B124.keep Kc129 nin0
        have B141 := B125.keep Kc129 nin0
        have B142 := B126.keep Kc129 nin0
        have c143 := c127.keep Kc129
        have B144 := BDI.keep Kc129 nin0
        have K129 := K128.trans Kc129 all0
        refine Wp.step st129 ?_
        show Wp p e below _ (T129.setTop (mkF m 139 #[.val (.ref d0), .val (.int (Int32.ofNat nw)), .val (.ref b35), .val (.int (Int32.ofNat kk)), .val (.int (Int32.ofNat vv)), sl5, sl6, sl7, .unset] [(.ref b129), (.ref d0)]))
        obtain ⟨T145, h145, X145, e145, W145, st145⟩ := putF X129 hx hZ hown (host := "") (Or.inl (hw _ (List.mem_of_getElem? (i := 69) rfl))) Via.refl e129 c136 c130 (Or.inl (hw _ (List.mem_of_getElem? (i := 70) rfl))) (hw _ (List.mem_of_getElem? (i := 2) rfl)) (ty := (.array .long)) (by decide) rfl rfl (g := (mkF m 139 #[.val (.ref d0), .val (.int (Int32.ofNat nw)), .val (.ref b35), .val (.int (Int32.ofNat kk)), .val (.int (Int32.ofNat vv)), sl5, sl6, sl7, .unset] [(.ref b129), (.ref d0)])) rfl rfl (hb hby d3_139)
        have c146 := c130.wr W145
        have c147 := c131.other W145 (Or.inr (slot_ne (Or.inl (hw _ (List.mem_of_getElem? (i := 11) rfl))) (Or.inl (hw _ (List.mem_of_getElem? (i := 70) rfl))) (by decide) (t := (.array .int)) (t' := (.array .long)) (by decide) (by decide)))
        have c148 := c132.other W145 (Or.inr (slot_ne (Or.inl (hw _ (List.mem_of_getElem? (i := 13) rfl))) (Or.inl (hw _ (List.mem_of_getElem? (i := 70) rfl))) (by decide) (t := (.array .int)) (t' := (.array .long)) (by decide) (by decide)))
        have c149 := c133.other W145 (Or.inr (slot_ne (Or.inl (hw _ (List.mem_of_getElem? (i := 15) rfl))) (Or.inl (hw _ (List.mem_of_getElem? (i := 70) rfl))) (by decide) (t := (.array .int)) (t' := (.array .long)) (by decide) (by decide)))
        have c150 := c134.other W145 (Or.inr (slot_ne (Or.inl (hw _ (List.mem_of_getElem? (i := 24) rfl))) (Or.inl (hw _ (List.mem_of_getElem? (i := 70) rfl))) (by decide) (t := .int) (t' := (.array .long)) (by decide) (by decide)))
        have c151 := c135.other W145 (Or.inr (slot_ne (Or.inl (hw _ (List.mem_of_getElem? (i := 22) rfl))) (Or.inl (hw _ (List.mem_of_getElem? (i := 70) rfl))) (by decide) (t := (.array .int)) (t' := (.array .long)) (by decide) (by decide)))
        have c152 := c137.other W145 (Or.inr (slot_ne (Or.inl (hw _ (List.mem_of_getElem? (i := 72) rfl))) (Or.inl (hw _ (List.mem_of_getElem? (i := 70) rfl))) (by decide) (t := (.array .int)) (t' := (.array .long)) (by decide) (by decide)))
        have c153 := c138.other W145 (Or.inr (slot_ne (Or.inl (hw _ (List.mem_of_getElem? (i := 74) rfl))) (Or.inl (hw _ (List.mem_of_getElem? (i := 70) rfl))) (by decide) (t := (.array .long)) (t' := (.array .long)) (by decide) (by decide)))
        have B154 := B139.other W145 ne_d1_d0
        have B155 := B140.other W145 ne_d2_d0
        have B156 := B141.other W145 ne_d3_d0
        have B157 := B142.other W145 (Ne.symm ne_d0_b35)
        have c158 := c143.wr W145
        have B159 := B144.other W145 (Ne.symm ne_d0_b1)
        have B160 := BB129.other W145 (Ne.symm ne_d0_b129)
        have c161 := c136.same W145
        have K162 := K129.wr W145 (Or.inl (List.mem_of_getElem? (i := 0) rfl))
        have N145 := Fr.snoc X145 N129 g_d0
        refine Wp.step st145 ?_
        show Wp p e below _ (T145.setTop (mkF m 142 #[.val (.ref d0), .val (.int (Int32.ofNat nw)), .val (.ref b35), .val (.int (Int32.ofNat kk)), .val (.int (Int32.ofNat vv)), sl5, sl6, sl7, .unset] []))
        refine Wp.step (fun t k => XS.aloadN X145.here hx rfl (hb hby d3_142) rfl rfl k) ?_
        show Wp p e below _ (T145.setTop (mkF m 143 #[.val (.ref d0), .val (.int (Int32.ofNat nw)), .val (.ref b35), .val (.int (Int32.ofNat kk)), .val (.int (Int32.ofNat vv)), sl5, sl6, sl7, .unset] [(.ref d0)]))
        refine Wp.step (fun t k => XS.aconstNull X145.here hx rfl (hb hby d3_143) k) ?_
        show Wp p e below _ (T145.setTop (mkF m 144 #[.val (.ref d0), .val (.int (Int32.ofNat nw)), .val (.ref b35), .val (.int (Int32.ofNat kk)), .val (.int (Int32.ofNat vv)), sl5, sl6, sl7, .unset] [.null, (.ref d0)]))
        obtain ⟨T163, h163, X163, e163, W163, st163⟩ := putF X145 hx hZ hown (host := "") (Or.inl (hw _ (List.mem_of_getElem? (i := 10) rfl))) Via.refl e145 c147 c146 (Or.inl (hw _ (List.mem_of_getElem? (i := 11) rfl))) (hw _ (List.mem_of_getElem? (i := 2) rfl)) (ty := (.array .int)) (by decide) rfl rfl (g := (mkF m 144 #[.val (.ref d0), .val (.int (Int32.ofNat nw)), .val (.ref b35), .val (.int (Int32.ofNat kk)), .val (.int (Int32.ofNat vv)), sl5, sl6, sl7, .unset] [.null, (.ref d0)])) rfl rfl (hb hby d3_144)
        have c164 := c146.wr W163
        have c165 := c148.other W163 (Or.inr (slot_ne (Or.inl (hw _ (List.mem_of_getElem? (i := 13) rfl))) (Or.inl (hw _ (List.mem_of_getElem? (i := 11) rfl))) (by decide) (t := (.array .int)) (t' := (.array .int)) (by decide) (by decide)))
        have c166 := c149.other W163 (Or.inr (slot_ne (Or.inl (hw _ (List.mem_of_getElem? (i := 15) rfl))) (Or.inl (hw _ (List.mem_of_getElem? (i := 11) rfl))) (by decide) (t := (.array .int)) (t' := (.array .int)) (by decide) (by decide)))
        have c167 := c150.other W163 (Or.inr (slot_ne (Or.inl (hw _ (List.mem_of_getElem? (i := 24) rfl))) (Or.inl (hw _ (List.mem_of_getElem? (i := 11) rfl))) (by decide) (t := .int) (t' := (.array .int)) (by decide) (by decide)))
        have c168 := c151.other W163 (Or.inr (slot_ne (Or.inl (hw _ (List.mem_of_getElem? (i := 22) rfl))) (Or.inl (hw _ (List.mem_of_getElem? (i := 11) rfl))) (by decide) (t := (.array .int)) (t' := (.array .int)) (by decide) (by decide)))
        have c169 := c161.other W163 (Or.inr (slot_ne (Or.inl (hw _ (List.mem_of_getElem? (i := 70) rfl))) (Or.inl (hw _ (List.mem_of_getElem? (i := 11) rfl))) (by decide) (t := (.array .long)) (t' := (.array .int)) (by decide) (by decide)))
        have c170 := c152.other W163 (Or.inr (slot_ne (Or.inl (hw _ (List.mem_of_getElem? (i := 72) rfl))) (Or.inl (hw _ (List.mem_of_getElem? (i := 11) rfl))) (by decide) (t := (.array .int)) (t' := (.array .int)) (by decide) (by decide)))
        have c171 := c153.other W163 (Or.inr (slot_ne (Or.inl (hw _ (List.mem_of_getElem? (i := 74) rfl))) (Or.inl (hw _ (List.mem_of_getElem? (i := 11) rfl))) (by decide) (t := (.array .long)) (t' := (.array .int)) (by decide) (by decide)))
        have B172 := B154.other W163 ne_d1_d0
        have B173 := B155.other W163 ne_d2_d0
        have B174 := B156.other W163 ne_d3_d0
        have B175 := B157.other W163 (Ne.symm ne_d0_b35)
        have c176 := c158.wr W163
        have B177 := B159.other W163 (Ne.symm ne_d0_b1)
        have B178 := B160.other W163 (Ne.symm ne_d0_b129)
        have c179 := c147.same W163
        have K180 := K162.wr W163 (Or.inl (List.mem_of_getElem? (i := 0) rfl))
        have N163 := Fr.snoc X163 N145 g_d0
        refine Wp.step st163 ?_
        show Wp p e below _ (T163.setTop (mkF m 147 #[.val (.ref d0), .val (.int (Int32.ofNat nw)), .val (.ref b35), .val (.int (Int32.ofNat kk)), .val (.int (Int32.ofNat vv)), sl5, sl6, sl7, .unset] []))
        refine Wp.step (fun t k => XS.aloadN X163.here hx rfl (hb hby d3_147) rfl rfl k) ?_
        show Wp p e below _ (T163.setTop (mkF m 148 #[.val (.ref d0), .val (.int (Int32.ofNat nw)), .val (.ref b35), .val (.int (Int32.ofNat kk)), .val (.int (Int32.ofNat vv)), sl5, sl6, sl7, .unset] [(.ref d0)]))
        refine Wp.step (fun t k => XS.aconstNull X163.here hx rfl (hb hby d3_148) k) ?_
        show Wp p e below _ (T163.setTop (mkF m 149 #[.val (.ref d0), .val (.int (Int32.ofNat nw)), .val (.ref b35), .val (.int (Int32.ofNat kk)), .val (.int (Int32.ofNat vv)), sl5, sl6, sl7, .unset] [.null, (.ref d0)]))
        obtain ⟨T181, h181, X181, e181, W181, st181⟩ := putF X163 hx hZ hown (host := "") (Or.inl (hw _ (List.mem_of_getElem? (i := 12) rfl))) Via.refl e163 c165 c164 (Or.inl (hw _ (List.mem_of_getElem? (i := 13) rfl))) (hw _ (List.mem_of_getElem? (i := 2) rfl)) (ty := (.array .int)) (by decide) rfl rfl (g := (mkF m 149 #[.val (.ref d0), .val (.int (Int32.ofNat nw)), .val (.ref b35), .val (.int (Int32.ofNat kk)), .val (.int (Int32.ofNat vv)), sl5, sl6, sl7, .unset] [.null, (.ref d0)])) rfl rfl (hb hby d3_149)
        have c182 := c164.wr W181
        have c183 := c179.other W181 (Or.inr (slot_ne (Or.inl (hw _ (List.mem_of_getElem? (i := 11) rfl))) (Or.inl (hw _ (List.mem_of_getElem? (i := 13) rfl))) (by decide) (t := (.array .int)) (t' := (.array .int)) (by decide) (by decide)))
        have c184 := c166.other W181 (Or.inr (slot_ne (Or.inl (hw _ (List.mem_of_getElem? (i := 15) rfl))) (Or.inl (hw _ (List.mem_of_getElem? (i := 13) rfl))) (by decide) (t := (.array .int)) (t' := (.array .int)) (by decide) (by decide)))
        have c185 := c167.other W181 (Or.inr (slot_ne (Or.inl (hw _ (List.mem_of_getElem? (i := 24) rfl))) (Or.inl (hw _ (List.mem_of_getElem? (i := 13) rfl))) (by decide) (t := .int) (t' := (.array .int)) (by decide) (by decide)))
        have c186 := c168.other W181 (Or.inr (slot_ne (Or.inl (hw _ (List.mem_of_getElem? (i := 22) rfl))) (Or.inl (hw _ (List.mem_of_getElem? (i := 13) rfl))) (by decide) (t := (.array .int)) (t' := (.array .int)) (by decide) (by decide)))
        have c187 := c169.other W181 (Or.inr (slot_ne (Or.inl (hw _ (List.mem_of_getElem? (i := 70) rfl))) (Or.inl (hw _ (List.mem_of_getElem? (i := 13) rfl))) (by decide) (t := (.array .long)) (t' := (.array .int)) (by decide) (by decide)))
        have c188 := c170.other W181 (Or.inr (slot_ne (Or.inl (hw _ (List.mem_of_getElem? (i := 72) rfl))) (Or.inl (hw _ (List.mem_of_getElem? (i := 13) rfl))) (by decide) (t := (.array .int)) (t' := (.array .int)) (by decide) (by decide)))
        have c189 := c171.other W181 (Or.inr (slot_ne (Or.inl (hw _ (List.mem_of_getElem? (i := 74) rfl))) (Or.inl (hw _ (List.mem_of_getElem? (i := 13) rfl))) (by decide) (t := (.array .long)) (t' := (.array .int)) (by decide) (by decide)))
        have B190 := B172.other W181 ne_d1_d0
        have B191 := B173.other W181 ne_d2_d0
        have B192 := B174.other W181 ne_d3_d0
        have B193 := B175.other W181 (Ne.symm ne_d0_b35)
        have c194 := c176.wr W181
        have B195 := B177.other W181 (Ne.symm ne_d0_b1)
        have B196 := B178.other W181 (Ne.symm ne_d0_b129)
        have c197 := c165.same W181
        have K198 := K180.wr W181 (Or.inl (List.mem_of_getElem? (i := 0) rfl))
        have N181 := Fr.snoc X181 N163 g_d0
        refine Wp.step st181 ?_
        show Wp p e below _ (T181.setTop (mkF m 152 #[.val (.ref d0), .val (.int (Int32.ofNat nw)), .val (.ref b35), .val (.int (Int32.ofNat kk)), .val (.int (Int32.ofNat vv)), sl5, sl6, sl7, .unset] []))
        refine Wp.step (fun t k => XS.aloadN X181.here hx rfl (hb hby d3_152) rfl rfl k) ?_
        show Wp p e below _ (T181.setTop (mkF m 153 #[.val (.ref d0), .val (.int (Int32.ofNat nw)), .val (.ref b35), .val (.int (Int32.ofNat kk)), .val (.int (Int32.ofNat vv)), sl5, sl6, sl7, .unset] [(.ref d0)]))
        refine Wp.step (fun t k => XS.aconstNull X181.here hx rfl (hb hby d3_153) k) ?_
        show Wp p e below _ (T181.setTop (mkF m 154 #[.val (.ref d0), .val (.int (Int32.ofNat nw)), .val (.ref b35), .val (.int (Int32.ofNat kk)), .val (.int (Int32.ofNat vv)), sl5, sl6, sl7, .unset] [.null, (.ref d0)]))
        obtain ⟨T199, h199, X199, e199, W199, st199⟩ := putF X181 hx hZ hown (host := "") (Or.inl (hw _ (List.mem_of_getElem? (i := 14) rfl))) Via.refl e181 c184 c182 (Or.inl (hw _ (List.mem_of_getElem? (i := 15) rfl))) (hw _ (List.mem_of_getElem? (i := 2) rfl)) (ty := (.array .int)) (by decide) rfl rfl (g := (mkF m 154 #[.val (.ref d0), .val (.int (Int32.ofNat nw)), .val (.ref b35), .val (.int (Int32.ofNat kk)), .val (.int (Int32.ofNat vv)), sl5, sl6, sl7, .unset] [.null, (.ref d0)])) rfl rfl (hb hby d3_154)
        have c200 := c182.wr W199
        have c201 := c183.other W199 (Or.inr (slot_ne (Or.inl (hw _ (List.mem_of_getElem? (i := 11) rfl))) (Or.inl (hw _ (List.mem_of_getElem? (i := 15) rfl))) (by decide) (t := (.array .int)) (t' := (.array .int)) (by decide) (by decide)))
        have c202 := c197.other W199 (Or.inr (slot_ne (Or.inl (hw _ (List.mem_of_getElem? (i := 13) rfl))) (Or.inl (hw _ (List.mem_of_getElem? (i := 15) rfl))) (by decide) (t := (.array .int)) (t' := (.array .int)) (by decide) (by decide)))
        have c203 := c185.other W199 (Or.inr (slot_ne (Or.inl (hw _ (List.mem_of_getElem? (i := 24) rfl))) (Or.inl (hw _ (List.mem_of_getElem? (i := 15) rfl))) (by decide) (t := .int) (t' := (.array .int)) (by decide) (by decide)))
        have c204 := c186.other W199 (Or.inr (slot_ne (Or.inl (hw _ (List.mem_of_getElem? (i := 22) rfl))) (Or.inl (hw _ (List.mem_of_getElem? (i := 15) rfl))) (by decide) (t := (.array .int)) (t' := (.array .int)) (by decide) (by decide)))
        have c205 := c187.other W199 (Or.inr (slot_ne (Or.inl (hw _ (List.mem_of_getElem? (i := 70) rfl))) (Or.inl (hw _ (List.mem_of_getElem? (i := 15) rfl))) (by decide) (t := (.array .long)) (t' := (.array .int)) (by decide) (by decide)))
        have c206 := c188.other W199 (Or.inr (slot_ne (Or.inl (hw _ (List.mem_of_getElem? (i := 72) rfl))) (Or.inl (hw _ (List.mem_of_getElem? (i := 15) rfl))) (by decide) (t := (.array .int)) (t' := (.array .int)) (by decide) (by decide)))
        have c207 := c189.other W199 (Or.inr (slot_ne (Or.inl (hw _ (List.mem_of_getElem? (i := 74) rfl))) (Or.inl (hw _ (List.mem_of_getElem? (i := 15) rfl))) (by decide) (t := (.array .long)) (t' := (.array .int)) (by decide) (by decide)))
        have B208 := B190.other W199 ne_d1_d0
        have B209 := B191.other W199 ne_d2_d0
        have B210 := B192.other W199 ne_d3_d0
        have B211 := B193.other W199 (Ne.symm ne_d0_b35)
        have c212 := c194.wr W199
        have B213 := B195.other W199 (Ne.symm ne_d0_b1)
        have B214 := B196.other W199 (Ne.symm ne_d0_b129)
        have c215 := c184.same W199
        have K216 := K198.wr W199 (Or.inl (List.mem_of_getElem? (i := 0) rfl))
        have N199 := Fr.snoc X199 N181 g_d0
        refine Wp.step st199 ?_
        show Wp p e below _ (T199.setTop (mkF m 157 #[.val (.ref d0), .val (.int (Int32.ofNat nw)), .val (.ref b35), .val (.int (Int32.ofNat kk)), .val (.int (Int32.ofNat vv)), sl5, sl6, sl7, .unset] []))
        refine Wp.step (fun t k => XS.iloadN X199.here hx rfl (hb hby d3_157) rfl k) ?_
        show Wp p e below _ (T199.setTop (mkF m 158 #[.val (.ref d0), .val (.int (Int32.ofNat nw)), .val (.ref b35), .val (.int (Int32.ofNat kk)), .val (.int (Int32.ofNat vv)), sl5, sl6, sl7, .unset] [(.int (Int32.ofNat kk))]))
        obtain ⟨T217, h217, k217, X217, e217, E217, A217, st217⟩ := newP X199 hx hZ (hw _ (List.mem_of_getElem? (i := 0) rfl)) e199 (g := (mkF m 158 #[.val (.ref d0), .val (.int (Int32.ofNat nw)), .val (.ref b35), .val (.int (Int32.ofNat kk)), .val (.int (Int32.ofNat vv)), sl5, sl6, sl7, .unset] [(.int (Int32.ofNat kk))])) rfl (hb hby d3_158) rfl (own_nn (by omega)) (cap := 5) (by rw [own_nat (by omega)]; omega) (by decide) (by decide) (by decide)
        obtain ⟨b217, g217⟩ : ∃ z, z = h199.size := ⟨_, rfl⟩
        rw [← g217] at A217 st217
        have g_b217 : n0 ≤ b217 := Nat.le_trans (Nat.le_trans Z0 K216.1) (Nat.le_of_eq g217.symm)
        have sz_b217 : h0.size ≤ b217 := Nat.le_trans K216.1 (Nat.le_of_eq g217.symm)
        have ne_b1_b217 : b1 ≠ b217 := Nat.ne_of_lt (Nat.lt_of_lt_of_le B213.lt (Nat.le_of_eq g217.symm))
        have ne_b129_b217 : b129 ≠ b217 := Nat.ne_of_lt (Nat.lt_of_lt_of_le B214.lt (Nat.le_of_eq g217.symm))
        have ne_b35_b217 : b35 ≠ b217 := Nat.ne_of_lt (Nat.lt_of_lt_of_le c212.lt (Nat.le_of_eq g217.symm))
        have ne_d0_b217 : d0 ≠ b217 := Nat.ne_of_lt (Nat.lt_of_lt_of_le c200.lt (Nat.le_of_eq g217.symm))
        have ne_d1_b217 : d1 ≠ b217 := Nat.ne_of_lt (Nat.lt_of_lt_of_le B208.lt (Nat.le_of_eq g217.symm))
        have ne_d2_b217 : d2 ≠ b217 := Nat.ne_of_lt (Nat.lt_of_lt_of_le B209.lt (Nat.le_of_eq g217.symm))
        have ne_d3_b217 : d3 ≠ b217 := Nat.ne_of_lt (Nat.lt_of_lt_of_le B210.lt (Nat.le_of_eq g217.symm))
        have c218 := c200.ext E217
        have c219 := c201.ext E217
        have c220 := c202.ext E217
        have c221 := c215.ext E217
        have c222 := c203.ext E217
        have c223 := c204.ext E217
        have c224 := c205.ext E217
        have c225 := c206.ext E217
        have c226 := c207.ext E217
        have B227 := B208.ext E217
        have B228 := B209.ext E217
        have B229 := B210.ext E217
        have B230 := B211.ext E217
        have c231 := c212.ext E217
        have B232 := B213.ext E217
        have B233 := B214.ext E217
        have K234 := K216.ext E217
        have Z217 : (newA k217 .int (Int32.ofNat kk)).slots.size = ((Int32.ofNat kk)).toNatClampNeg := sz_new _ _ _
        have nn217 : ¬ (Int32.ofNat kk) < 0 := (own_nn (by omega))
        refine Wp.step st217 ?_
        have B217 := own_IA.new A217 nn217 rfl
        show Wp p e below _ (T217.setTop (mkF m 160 #[.val (.ref d0), .val (.int (Int32.ofNat nw)), .val (.ref b35), .val (.int (Int32.ofNat kk)), .val (.int (Int32.ofNat vv)), sl5, sl6, sl7, .unset] [(.ref b217)]))
        refine Wp.step (fun t k => XS.astore X217.here hx rfl (hb hby d3_160) rfl rfl (l' := #[.val (.ref d0), .val (.int (Int32.ofNat nw)), .val (.ref b35), .val (.int (Int32.ofNat kk)), .val (.ref b217), sl5, sl6, sl7, .unset]) rfl k) ?_
        show Wp p e below _ (T217.setTop (mkF m 162 #[.val (.ref d0), .val (.int (Int32.ofNat nw)), .val (.ref b35), .val (.int (Int32.ofNat kk)), .val (.ref b217), sl5, sl6, sl7, .unset] []))
        refine Wp.step (fun t k => XS.iloadN X217.here hx rfl (hb hby d3_162) rfl k) ?_
        show Wp p e below _ (T217.setTop (mkF m 163 #[.val (.ref d0), .val (.int (Int32.ofNat nw)), .val (.ref b35), .val (.int (Int32.ofNat kk)), .val (.ref b217), sl5, sl6, sl7, .unset] [(.int (Int32.ofNat kk))]))
        obtain ⟨T235, h235, k235, X235, e235, E235, A235, st235⟩ := newP X217 hx hZ (hw _ (List.mem_of_getElem? (i := 0) rfl)) e217 (g := (mkF m 163 #[.val (.ref d0), .val (.int (Int32.ofNat nw)), .val (.ref b35), .val (.int (Int32.ofNat kk)), .val (.ref b217), sl5, sl6, sl7, .unset] [(.int (Int32.ofNat kk))])) rfl (hb hby d3_163) rfl (own_nn (by omega)) (cap := 5) (by rw [own_nat (by omega)]; omega) (by decide) (by decide) (by decide)
        obtain ⟨b235, g235⟩ : ∃ z, z = h217.size := ⟨_, rfl⟩
        rw [← g235] at A235 st235
        have g_b235 : n0 ≤ b235 := Nat.le_trans (Nat.le_trans Z0 K234.1) (Nat.le_of_eq g235.symm)
        have sz_b235 : h0.size ≤ b235 := Nat.le_trans K234.1 (Nat.le_of_eq g235.symm)
        have ne_b1_b235 : b1 ≠ b235 := Nat.ne_of_lt (Nat.lt_of_lt_of_le B232.lt (Nat.le_of_eq g235.symm))
        have ne_b129_b235 : b129 ≠ b235 := Nat.ne_of_lt (Nat.lt_of_lt_of_le B233.lt (Nat.le_of_eq g235.symm))
        have ne_b217_b235 : b217 ≠ b235 := Nat.ne_of_lt (Nat.lt_of_lt_of_le B217.lt (Nat.le_of_eq g235.symm))
        have ne_b35_b235 : b35 ≠ b235 := Nat.ne_of_lt (Nat.lt_of_lt_of_le c231.lt (Nat.le_of_eq g235.symm))
        have ne_d0_b235 : d0 ≠ b235 := Nat.ne_of_lt (Nat.lt_of_lt_of_le c218.lt (Nat.le_of_eq g235.symm))
        have ne_d1_b235 : d1 ≠ b235 := Nat.ne_of_lt (Nat.lt_of_lt_of_le B227.lt (Nat.le_of_eq g235.symm))
        have ne_d2_b235 : d2 ≠ b235 := Nat.ne_of_lt (Nat.lt_of_lt_of_le B228.lt (Nat.le_of_eq g235.symm))
        have ne_d3_b235 : d3 ≠ b235 := Nat.ne_of_lt (Nat.lt_of_lt_of_le B229.lt (Nat.le_of_eq g235.symm))
        have c236 := c218.ext E235
        have c237 := c219.ext E235
        have c238 := c220.ext E235
        have c239 := c221.ext E235
        have c240 := c222.ext E235
        have c241 := c223.ext E235
        have c242 := c224.ext E235
        have c243 := c225.ext E235
        have c244 := c226.ext E235
        have B245 := B227.ext E235
        have B246 := B228.ext E235
        have B247 := B229.ext E235
        have B248 := B230.ext E235
        have c249 := c231.ext E235
        have B250 := B232.ext E235
        have B251 := B233.ext E235
        have B252 := B217.ext E235
        have K253 := K234.ext E235
        have Z235 : (newA k235 .int (Int32.ofNat kk)).slots.size = ((Int32.ofNat kk)).toNatClampNeg := sz_new _ _ _
        have nn235 : ¬ (Int32.ofNat kk) < 0 := (own_nn (by omega))
        refine Wp.step st235 ?_
        have B235 := own_IA.new A235 nn235 rfl
        show Wp p e below _ (T235.setTop (mkF m 165 #[.val (.ref d0), .val (.int (Int32.ofNat nw)), .val (.ref b35), .val (.int (Int32.ofNat kk)), .val (.ref b217), sl5, sl6, sl7, .unset] [(.ref b235)]))
        refine Wp.step (fun t k => XS.astore X235.here hx rfl (hb hby d3_165) rfl rfl (l' := #[.val (.ref d0), .val (.int (Int32.ofNat nw)), .val (.ref b35), .val (.int (Int32.ofNat kk)), .val (.ref b217), .val (.ref b235), sl6, sl7, .unset]) (XS.store1 (o := sl5) rfl O5 rfl) k) ?_
        show Wp p e below _ (T235.setTop (mkF m 167 #[.val (.ref d0), .val (.int (Int32.ofNat nw)), .val (.ref b35), .val (.int (Int32.ofNat kk)), .val (.ref b217), .val (.ref b235), sl6, sl7, .unset] []))
        refine Wp.step (fun t k => XS.iloadN X235.here hx rfl (hb hby d3_167) rfl k) ?_
        show Wp p e below _ (T235.setTop (mkF m 168 #[.val (.ref d0), .val (.int (Int32.ofNat nw)), .val (.ref b35), .val (.int (Int32.ofNat kk)), .val (.ref b217), .val (.ref b235), sl6, sl7, .unset] [(.int (Int32.ofNat kk))]))
        obtain ⟨T254, h254, k254, X254, e254, E254, A254, st254⟩ := newP X235 hx hZ (hw _ (List.mem_of_getElem? (i := 0) rfl)) e235 (g := (mkF m 168 #[.val (.ref d0), .val (.int (Int32.ofNat nw)), .val (.ref b35), .val (.int (Int32.ofNat kk)), .val (.ref b217), .val (.ref b235), sl6, sl7, .unset] [(.int (Int32.ofNat kk))])) rfl (hb hby d3_168) rfl (own_nn (by omega)) (cap := 5) (by rw [own_nat (by omega)]; omega) (by decide) (by decide) (by decide)
        obtain ⟨b254, g254⟩ : ∃ z, z = h235.size := ⟨_, rfl⟩
        rw [← g254] at A254 st254
        have g_b254 : n0 ≤ b254 := Nat.le_trans (Nat.le_trans Z0 K253.1) (Nat.le_of_eq g254.symm)
        have sz_b254 : h0.size ≤ b254 := Nat.le_trans K253.1 (Nat.le_of_eq g254.symm)
        have ne_b1_b254 : b1 ≠ b254 := Nat.ne_of_lt (Nat.lt_of_lt_of_le B250.lt (Nat.le_of_eq g254.symm))
        have ne_b129_b254 : b129 ≠ b254 := Nat.ne_of_lt (Nat.lt_of_lt_of_le B251.lt (Nat.le_of_eq g254.symm))
        have ne_b217_b254 : b217 ≠ b254 := Nat.ne_of_lt (Nat.lt_of_lt_of_le B252.lt (Nat.le_of_eq g254.symm))
        have ne_b235_b254 : b235 ≠ b254 := Nat.ne_of_lt (Nat.lt_of_lt_of_le B235.lt (Nat.le_of_eq g254.symm))
        have ne_b35_b254 : b35 ≠ b254 := Nat.ne_of_lt (Nat.lt_of_lt_of_le c249.lt (Nat.le_of_eq g254.symm))
        have ne_d0_b254 : d0 ≠ b254 := Nat.ne_of_lt (Nat.lt_of_lt_of_le c236.lt (Nat.le_of_eq g254.symm))
        have ne_d1_b254 : d1 ≠ b254 := Nat.ne_of_lt (Nat.lt_of_lt_of_le B245.lt (Nat.le_of_eq g254.symm))
        have ne_d2_b254 : d2 ≠ b254 := Nat.ne_of_lt (Nat.lt_of_lt_of_le B246.lt (Nat.le_of_eq g254.symm))
        have ne_d3_b254 : d3 ≠ b254 := Nat.ne_of_lt (Nat.lt_of_lt_of_le B247.lt (Nat.le_of_eq g254.symm))
        have c255 := c236.ext E254
        have c256 := c237.ext E254
        have c257 := c238.ext E254
        have c258 := c239.ext E254
        have c259 := c240.ext E254
        have c260 := c241.ext E254
        have c261 := c242.ext E254
        have c262 := c243.ext E254
        have c263 := c244.ext E254
        have B264 := B245.ext E254
        have B265 := B246.ext E254
        have B266 := B247.ext E254
        have B267 := B248.ext E254
        have c268 := c249.ext E254
        have B269 := B250.ext E254
        have B270 := B251.ext E254
        have B271 := B252.ext E254
        have B272 := B235.ext E254
        have K273 := K253.ext E254
        have Z254 : (newA k254 .int (Int32.ofNat kk)).slots.size = ((Int32.ofNat kk)).toNatClampNeg := sz_new _ _ _
        have nn254 : ¬ (Int32.ofNat kk) < 0 := (own_nn (by omega))
        refine Wp.step st254 ?_
        have B254 := own_IA.new A254 nn254 rfl
        show Wp p e below _ (T254.setTop (mkF m 170 #[.val (.ref d0), .val (.int (Int32.ofNat nw)), .val (.ref b35), .val (.int (Int32.ofNat kk)), .val (.ref b217), .val (.ref b235), sl6, sl7, .unset] [(.ref b254)]))
        refine Wp.step (fun t k => XS.astore X254.here hx rfl (hb hby d3_170) rfl rfl (l' := #[.val (.ref d0), .val (.int (Int32.ofNat nw)), .val (.ref b35), .val (.int (Int32.ofNat kk)), .val (.ref b217), .val (.ref b235), .val (.ref b254), sl7, .unset]) (XS.store1 (o := sl6) rfl O6 rfl) k) ?_
        show Wp p e below _ (T254.setTop (mkF m 172 #[.val (.ref d0), .val (.int (Int32.ofNat nw)), .val (.ref b35), .val (.int (Int32.ofNat kk)), .val (.ref b217), .val (.ref b235), .val (.ref b254), sl7, .unset] []))
        refine Wp.step (fun t k => XS.iconst X254.here hx rfl (hb hby d3_172) k) ?_
        show Wp p e below _ (T254.setTop (mkF m 173 #[.val (.ref d0), .val (.int (Int32.ofNat nw)), .val (.ref b35), .val (.int (Int32.ofNat kk)), .val (.ref b217), .val (.ref b235), .val (.ref b254), sl7, .unset] [(.int (0 : Int32))]))
        refine Wp.step (fun t k => XS.istore X254.here hx rfl (hb hby d3_173) rfl (l' := #[.val (.ref d0), .val (.int (Int32.ofNat nw)), .val (.ref b35), .val (.int (Int32.ofNat kk)), .val (.ref b217), .val (.ref b235), .val (.ref b254), .val (.int (0 : Int32)), .unset]) (XS.store1 (o := sl7) rfl O7 rfl) k) ?_
        show Wp p e below _ (T254.setTop (mkF m 175 #[.val (.ref d0), .val (.int (Int32.ofNat nw)), .val (.ref b35), .val (.int (Int32.ofNat kk)), .val (.ref b217), .val (.ref b235), .val (.ref b254), .val (.int (0 : Int32)), .unset] []))
        have loop274 : ∀ (f : Nat) (uu : Nat) (gs : Nat → Int32) (gp : Nat → Int32) (gt : Nat → Int32) (sl8 : Slot) (hh_274 : Heap) (locs_274 : List Loc) (T_274 : State) (X_274 : Stand p l e ({ frames := 5, cells := 10, slots := 50, locals := 106 } : Room) s m #[(.ref d0), (.int (Int32.ofNat nw))] below meth c T_274 locs_274 7 35) (eT_274 : T_274.heap = hh_274) (NN_274 : Fr n0 locs_274) (KK_274 : Keep h0 hh_274 [d0]) (q0_274 : Exa Z hh_274 d0 "com/example/erotema/erotema/model/ToldEdges") (q1_274 : Fld Z hh_274 d0 "com/example/erotema/erotema/model/ToldEdges" "sources" "[I" .null) (q2_274 : Fld Z hh_274 d0 "com/example/erotema/erotema/model/ToldEdges" "properties" "[I" .null) (q3_274 : Fld Z hh_274 d0 "com/example/erotema/erotema/model/ToldEdges" "targets" "[I" .null) (q4_274 : Fld Z hh_274 d0 "com/example/erotema/erotema/model/ToldEdges" "added" "I" (.int (Int32.ofNat cc))) (q5_274 : Fld Z hh_274 d0 "com/example/erotema/erotema/model/ToldEdges" "bySourceStart" "[I" (.ref b1)) (q6_274 : Fld Z hh_274 d0 "com/example/erotema/erotema/model/ToldEdges" "bySource" "[J" (.ref b129)) (q7_274 : Fld Z hh_274 d0 "com/example/erotema/erotema/model/ToldEdges" "byTargetStart" "[I" .null) (q8_274 : Fld Z hh_274 d0 "com/example/erotema/erotema/model/ToldEdges" "byTarget" "[J" .null) (q9_274 : own_IA .int Z hh_274 d1 (Int32.ofNat 1024) fa1) (q10_274 : own_IA .int Z hh_274 d2 (Int32.ofNat 1024) fa2) (q11_274 : own_IA .int Z hh_274 d3 (Int32.ofNat 1024) fa3) (q12_274 : own_JA Z hh_274 b35 (Int32.ofNat cc) ga) (q13_274 : Exa Z hh_274 b35 "[J") (q14_274 : own_IA .int Z hh_274 b1 (Int32.ofNat (nw + 1)) (own_DI K (own_W fa2 fa3) cc)) (q15_274 : own_JA Z hh_274 b129 (Int32.ofNat kk) ga) (q16_274 : own_IA .int Z hh_274 b217 (Int32.ofNat kk) gs) (q17_274 : own_IA .int Z hh_274 b235 (Int32.ofNat kk) gp) (q18_274 : own_IA .int Z hh_274 b254 (Int32.ofNat kk) gt) (hu : uu ≤ nw) (TT : ∀ j, j < own_Dl gg35 K cc uu → gt j = own_el (ga j)) (O8 : One sl8) (hm : nw - uu < f), Wp p e below (Out s (Q3 Z d0 (Int32.ofNat nw) d1 d2 d3 cc nw K Tg fa1 fa2 fa3 h0 n0) ({ frames := 5, cells := 10, slots := 50, locals := 106 } : Room).cells ({ frames := 5, cells := 10, slots := 50, locals := 106 } : Room).slots) (T_274.setTop (mkF m 175 #[.val (.ref d0), .val (.int (Int32.ofNat nw)), .val (.ref b35), .val (.int (Int32.ofNat kk)), .val (.ref b217), .val (.ref b235), .val (.ref b254), .val (.int (Int32.ofNat uu)), sl8] [])) := by
          intro f
          induction f with
          | zero => intros; rename_i hm; exact absurd hm (Nat.not_lt_zero _)
          | succ f ih_274 =>
            intro uu gs gp gt sl8 hh_274 locs_274 T_274 X_274 eT_274 NN_274 KK_274 q0_274 q1_274 q2_274 q3_274 q4_274 q5_274 q6_274 q7_274 q8_274 q9_274 q10_274 q11_274 q12_274 q13_274 q14_274 q15_274 q16_274 q17_274 q18_274 hu TT O8 hm
            have hDn : own_Dl gg35 K cc nw = kk := hDl.symm
            have hDu := own_Dl_mono gg35 K cc hu
            show Wp p e below _ (T_274.setTop (mkF m 175 #[.val (.ref d0), .val (.int (Int32.ofNat nw)), .val (.ref b35), .val (.int (Int32.ofNat kk)), .val (.ref b217), .val (.ref b235), .val (.ref b254), .val (.int (Int32.ofNat uu)), sl8] []))
            refine Wp.step (fun t k => XS.iload X_274.here hx rfl (hb hby d3_175) rfl k) ?_
            show Wp p e below _ (T_274.setTop (mkF m 177 #[.val (.ref d0), .val (.int (Int32.ofNat nw)), .val (.ref b35), .val (.int (Int32.ofNat kk)), .val (.ref b217), .val (.ref b235), .val (.ref b254), .val (.int (Int32.ofNat uu)), sl8] [(.int (Int32.ofNat uu))]))
            refine Wp.step (fun t k => XS.iloadN X_274.here hx rfl (hb hby d3_177) rfl k) ?_
            show Wp p e below _ (T_274.setTop (mkF m 178 #[.val (.ref d0), .val (.int (Int32.ofNat nw)), .val (.ref b35), .val (.int (Int32.ofNat kk)), .val (.ref b217), .val (.ref b235), .val (.ref b254), .val (.int (Int32.ofNat uu)), sl8] [(.int (Int32.ofNat nw)), (.int (Int32.ofNat uu))]))
            by_cases hc275 : (Int32.ofNat uu) < (Int32.ofNat nw)
            · have hc275n : uu < nw := (own_lt (by omega) (by omega)).mp hc275
              have hD1 := own_Dl_mono gg35 K cc (Nat.le_succ uu)
              have hD2 := own_Dl_mono gg35 K cc (show uu + 1 ≤ nw by omega)
              refine Wp.step (fun t k => XS.icmpNo X_274.here hx rfl (hb hby d3_178) rfl (tlt hc275).2.1 k) ?_
              show Wp p e below _ (T_274.setTop (mkF m 181 #[.val (.ref d0), .val (.int (Int32.ofNat nw)), .val (.ref b35), .val (.int (Int32.ofNat kk)), .val (.ref b217), .val (.ref b235), .val (.ref b254), .val (.int (Int32.ofNat uu)), sl8] []))
              refine Wp.step (fun t k => XS.aloadN X_274.here hx rfl (hb hby d3_181) rfl rfl k) ?_
              show Wp p e below _ (T_274.setTop (mkF m 182 #[.val (.ref d0), .val (.int (Int32.ofNat nw)), .val (.ref b35), .val (.int (Int32.ofNat kk)), .val (.ref b217), .val (.ref b235), .val (.ref b254), .val (.int (Int32.ofNat uu)), sl8] [(.ref d0)]))
              obtain ⟨T276, X276, e276, st276⟩ := getF X_274 hx hZ hown (host := "") (Or.inl (hw _ (List.mem_of_getElem? (i := 21) rfl))) Via.refl eT_274 q5_274 (g := (mkF m 182 #[.val (.ref d0), .val (.int (Int32.ofNat nw)), .val (.ref b35), .val (.int (Int32.ofNat kk)), .val (.ref b217), .val (.ref b235), .val (.ref b254), .val (.int (Int32.ofNat uu)), sl8] [(.ref d0)])) rfl rfl (hb hby d3_182)
              refine Wp.step st276 ?_
              show Wp p e below _ (T276.setTop (mkF m 185 #[.val (.ref d0), .val (.int (Int32.ofNat nw)), .val (.ref b35), .val (.int (Int32.ofNat kk)), .val (.ref b217), .val (.ref b235), .val (.ref b254), .val (.int (Int32.ofNat uu)), sl8] [(.ref b1)]))
              refine Wp.step (fun t k => XS.iload X276.here hx rfl (hb hby d3_185) rfl k) ?_
              show Wp p e below _ (T276.setTop (mkF m 187 #[.val (.ref d0), .val (.int (Int32.ofNat nw)), .val (.ref b35), .val (.int (Int32.ofNat kk)), .val (.ref b217), .val (.ref b235), .val (.ref b254), .val (.int (Int32.ofNat uu)), sl8] [(.int (Int32.ofNat uu)), (.ref b1)]))
              obtain ⟨cl277, Ar277, Sz277, Nn277, El277⟩ := id q14_274
              have hin277 : ¬ ((Int32.ofNat uu) < 0 ∨ cl277.slots.size ≤ ((Int32.ofNat uu)).toNatClampNeg) := inb_of Sz277 (own_inb (by omega) (by omega))
              have hat277 : cl277.slots[((Int32.ofNat uu)).toNatClampNeg]? = some (.int ((own_DI K (own_W fa2 fa3) cc) ((Int32.ofNat uu)).toNatClampNeg)) := (El277 _ (by have q := Nat.lt_of_not_le fun q => hin277 (Or.inr q); rw [Sz277] at q; exact q)).1
              rw [show ((own_DI K (own_W fa2 fa3) cc) ((Int32.ofNat uu)).toNatClampNeg) = ((own_DI K (own_W fa2 fa3) cc) uu) from congrArg (own_DI K (own_W fa2 fa3) cc) (own_nat (by omega))] at hat277
              rw [show ((own_DI K (own_W fa2 fa3) cc) uu) = (Int32.ofNat (own_Dl gg35 K cc uu)) from (congrArg Int32.ofNat (own_Dl_D FIN35 (by omega)).symm)] at hat277
              refine Wp.step (X276.iaload hx (j := (Int32.ofNat uu)) (v := (.int (Int32.ofNat (own_Dl gg35 K cc uu)))) (by rw [e276]; exact Ar277.1) (State.isArrayOf_alike hZ.alike Ar277.2.1) Ar277.2.2 hin277 hat277 (g := (mkF m 187 #[.val (.ref d0), .val (.int (Int32.ofNat nw)), .val (.ref b35), .val (.int (Int32.ofNat kk)), .val (.ref b217), .val (.ref b235), .val (.ref b254), .val (.int (Int32.ofNat uu)), sl8] [(.int (Int32.ofNat uu)), (.ref b1)])) rfl rfl (hb hby d3_187)) ?_
              show Wp p e below _ (T276.setTop (mkF m 188 #[.val (.ref d0), .val (.int (Int32.ofNat nw)), .val (.ref b35), .val (.int (Int32.ofNat kk)), .val (.ref b217), .val (.ref b235), .val (.ref b254), .val (.int (Int32.ofNat uu)), sl8] [(.int (Int32.ofNat (own_Dl gg35 K cc uu)))]))
              refine Wp.step (fun t k => XS.istore X276.here hx rfl (hb hby d3_188) rfl (l' := #[.val (.ref d0), .val (.int (Int32.ofNat nw)), .val (.ref b35), .val (.int (Int32.ofNat kk)), .val (.ref b217), .val (.ref b235), .val (.ref b254), .val (.int (Int32.ofNat uu)), .val (.int (Int32.ofNat (own_Dl gg35 K cc uu)))]) (XS.store1 (o := sl8) rfl O8 rfl) k) ?_
              show Wp p e below _ (T276.setTop (mkF m 190 #[.val (.ref d0), .val (.int (Int32.ofNat nw)), .val (.ref b35), .val (.int (Int32.ofNat kk)), .val (.ref b217), .val (.ref b235), .val (.ref b254), .val (.int (Int32.ofNat uu)), .val (.int (Int32.ofNat (own_Dl gg35 K cc uu)))] []))
              have loop278 : ∀ (f : Nat) (aa : Nat) (gs' : Nat → Int32) (gp' : Nat → Int32) (gt' : Nat → Int32) (hh_278 : Heap) (locs_278 : List Loc) (T_278 : State) (X_278 : Stand p l e ({ frames := 5, cells := 10, slots := 50, locals := 106 } : Room) s m #[(.ref d0), (.int (Int32.ofNat nw))] below meth c T_278 locs_278 7 35) (eT_278 : T_278.heap = hh_278) (NN_278 : Fr n0 locs_278) (KK_278 : Keep h0 hh_278 [d0]) (q0_278 : Exa Z hh_278 d0 "com/example/erotema/erotema/model/ToldEdges") (q1_278 : Fld Z hh_278 d0 "com/example/erotema/erotema/model/ToldEdges" "sources" "[I" .null) (q2_278 : Fld Z hh_278 d0 "com/example/erotema/erotema/model/ToldEdges" "properties" "[I" .null) (q3_278 : Fld Z hh_278 d0 "com/example/erotema/erotema/model/ToldEdges" "targets" "[I" .null) (q4_278 : Fld Z hh_278 d0 "com/example/erotema/erotema/model/ToldEdges" "added" "I" (.int (Int32.ofNat cc))) (q5_278 : Fld Z hh_278 d0 "com/example/erotema/erotema/model/ToldEdges" "bySourceStart" "[I" (.ref b1)) (q6_278 : Fld Z hh_278 d0 "com/example/erotema/erotema/model/ToldEdges" "bySource" "[J" (.ref b129)) (q7_278 : Fld Z hh_278 d0 "com/example/erotema/erotema/model/ToldEdges" "byTargetStart" "[I" .null) (q8_278 : Fld Z hh_278 d0 "com/example/erotema/erotema/model/ToldEdges" "byTarget" "[J" .null) (q9_278 : own_IA .int Z hh_278 d1 (Int32.ofNat 1024) fa1) (q10_278 : own_IA .int Z hh_278 d2 (Int32.ofNat 1024) fa2) (q11_278 : own_IA .int Z hh_278 d3 (Int32.ofNat 1024) fa3) (q12_278 : own_JA Z hh_278 b35 (Int32.ofNat cc) ga) (q13_278 : Exa Z hh_278 b35 "[J") (q14_278 : own_IA .int Z hh_278 b1 (Int32.ofNat (nw + 1)) (own_DI K (own_W fa2 fa3) cc)) (q15_278 : own_JA Z hh_278 b129 (Int32.ofNat kk) ga) (q16_278 : own_IA .int Z hh_278 b217 (Int32.ofNat kk) gs') (q17_278 : own_IA .int Z hh_278 b235 (Int32.ofNat kk) gp') (q18_278 : own_IA .int Z hh_278 b254 (Int32.ofNat kk) gt') (ha : aa ≤ own_Dl gg35 K cc (uu + 1)) (TI : ∀ j, j < aa → gt' j = own_el (ga j)) (hm : own_Dl gg35 K cc (uu + 1) - aa < f), Wp p e below (Out s (Q3 Z d0 (Int32.ofNat nw) d1 d2 d3 cc nw K Tg fa1 fa2 fa3 h0 n0) ({ frames := 5, cells := 10, slots := 50, locals := 106 } : Room).cells ({ frames := 5, cells := 10, slots := 50, locals := 106 } : Room).slots) (T_278.setTop (mkF m 190 #[.val (.ref d0), .val (.int (Int32.ofNat nw)), .val (.ref b35), .val (.int (Int32.ofNat kk)), .val (.ref b217), .val (.ref b235), .val (.ref b254), .val (.int (Int32.ofNat uu)), .val (.int (Int32.ofNat aa))] [])) := by
                intro f
                induction f with
                | zero => intros; rename_i hm; exact absurd hm (Nat.not_lt_zero _)
                | succ f ih_278 =>
                  intro aa gs' gp' gt' hh_278 locs_278 T_278 X_278 eT_278 NN_278 KK_278 q0_278 q1_278 q2_278 q3_278 q4_278 q5_278 q6_278 q7_278 q8_278 q9_278 q10_278 q11_278 q12_278 q13_278 q14_278 q15_278 q16_278 q17_278 q18_278 ha TI hm
                  show Wp p e below _ (T_278.setTop (mkF m 190 #[.val (.ref d0), .val (.int (Int32.ofNat nw)), .val (.ref b35), .val (.int (Int32.ofNat kk)), .val (.ref b217), .val (.ref b235), .val (.ref b254), .val (.int (Int32.ofNat uu)), .val (.int (Int32.ofNat aa))] []))
                  refine Wp.step (fun t k => XS.iload X_278.here hx rfl (hb hby d3_190) rfl k) ?_
                  show Wp p e below _ (T_278.setTop (mkF m 192 #[.val (.ref d0), .val (.int (Int32.ofNat nw)), .val (.ref b35), .val (.int (Int32.ofNat kk)), .val (.ref b217), .val (.ref b235), .val (.ref b254), .val (.int (Int32.ofNat uu)), .val (.int (Int32.ofNat aa))] [(.int (Int32.ofNat aa))]))
                  refine Wp.step (fun t k => XS.aloadN X_278.here hx rfl (hb hby d3_192) rfl rfl k) ?_
                  show Wp p e below _ (T_278.setTop (mkF m 193 #[.val (.ref d0), .val (.int (Int32.ofNat nw)), .val (.ref b35), .val (.int (Int32.ofNat kk)), .val (.ref b217), .val (.ref b235), .val (.ref b254), .val (.int (Int32.ofNat uu)), .val (.int (Int32.ofNat aa))] [(.ref d0), (.int (Int32.ofNat aa))]))
                  obtain ⟨T279, X279, e279, st279⟩ := getF X_278 hx hZ hown (host := "") (Or.inl (hw _ (List.mem_of_getElem? (i := 21) rfl))) Via.refl eT_278 q5_278 (g := (mkF m 193 #[.val (.ref d0), .val (.int (Int32.ofNat nw)), .val (.ref b35), .val (.int (Int32.ofNat kk)), .val (.ref b217), .val (.ref b235), .val (.ref b254), .val (.int (Int32.ofNat uu)), .val (.int (Int32.ofNat aa))] [(.ref d0), (.int (Int32.ofNat aa))])) rfl rfl (hb hby d3_193)
                  refine Wp.step st279 ?_
                  show Wp p e below _ (T279.setTop (mkF m 196 #[.val (.ref d0), .val (.int (Int32.ofNat nw)), .val (.ref b35), .val (.int (Int32.ofNat kk)), .val (.ref b217), .val (.ref b235), .val (.ref b254), .val (.int (Int32.ofNat uu)), .val (.int (Int32.ofNat aa))] [(.ref b1), (.int (Int32.ofNat aa))]))
                  refine Wp.step (fun t k => XS.iload X279.here hx rfl (hb hby d3_196) rfl k) ?_
                  show Wp p e below _ (T279.setTop (mkF m 198 #[.val (.ref d0), .val (.int (Int32.ofNat nw)), .val (.ref b35), .val (.int (Int32.ofNat kk)), .val (.ref b217), .val (.ref b235), .val (.ref b254), .val (.int (Int32.ofNat uu)), .val (.int (Int32.ofNat aa))] [(.int (Int32.ofNat uu)), (.ref b1), (.int (Int32.ofNat aa))]))
                  refine Wp.step (fun t k => XS.iconst X279.here hx rfl (hb hby d3_198) k) ?_
                  show Wp p e below _ (T279.setTop (mkF m 199 #[.val (.ref d0), .val (.int (Int32.ofNat nw)), .val (.ref b35), .val (.int (Int32.ofNat kk)), .val (.ref b217), .val (.ref b235), .val (.ref b254), .val (.int (Int32.ofNat uu)), .val (.int (Int32.ofNat aa))] [(.int (1 : Int32)), (.int (Int32.ofNat uu)), (.ref b1), (.int (Int32.ofNat aa))]))
                  refine Wp.step (fun t k => XS.iadd X279.here hx rfl (hb hby d3_199) rfl k) ?_
                  show Wp p e below _ (T279.setTop (mkF m 200 #[.val (.ref d0), .val (.int (Int32.ofNat nw)), .val (.ref b35), .val (.int (Int32.ofNat kk)), .val (.ref b217), .val (.ref b235), .val (.ref b254), .val (.int (Int32.ofNat uu)), .val (.int (Int32.ofNat aa))] [(.int ((Int32.ofNat uu) + (1 : Int32))), (.ref b1), (.int (Int32.ofNat aa))]))
                  rw [show ((Int32.ofNat uu) + (1 : Int32)) = (Int32.ofNat (uu + 1)) from own_succ _]
                  obtain ⟨cl280, Ar280, Sz280, Nn280, El280⟩ := id q14_278
                  have hin280 : ¬ ((Int32.ofNat (uu + 1)) < 0 ∨ cl280.slots.size ≤ ((Int32.ofNat (uu + 1))).toNatClampNeg) := inb_of Sz280 (own_inb (by omega) (by omega))
                  have hat280 : cl280.slots[((Int32.ofNat (uu + 1))).toNatClampNeg]? = some (.int ((own_DI K (own_W fa2 fa3) cc) ((Int32.ofNat (uu + 1))).toNatClampNeg)) := (El280 _ (by have q := Nat.lt_of_not_le fun q => hin280 (Or.inr q); rw [Sz280] at q; exact q)).1
                  rw [show ((own_DI K (own_W fa2 fa3) cc) ((Int32.ofNat (uu + 1))).toNatClampNeg) = ((own_DI K (own_W fa2 fa3) cc) (uu + 1)) from congrArg (own_DI K (own_W fa2 fa3) cc) (own_nat (by omega))] at hat280
                  rw [show ((own_DI K (own_W fa2 fa3) cc) (uu + 1)) = (Int32.ofNat (own_Dl gg35 K cc (uu + 1))) from (congrArg Int32.ofNat (own_Dl_D FIN35 (by omega)).symm)] at hat280
                  refine Wp.step (X279.iaload hx (j := (Int32.ofNat (uu + 1))) (v := (.int (Int32.ofNat (own_Dl gg35 K cc (uu + 1))))) (by rw [e279]; exact Ar280.1) (State.isArrayOf_alike hZ.alike Ar280.2.1) Ar280.2.2 hin280 hat280 (g := (mkF m 200 #[.val (.ref d0), .val (.int (Int32.ofNat nw)), .val (.ref b35), .val (.int (Int32.ofNat kk)), .val (.ref b217), .val (.ref b235), .val (.ref b254), .val (.int (Int32.ofNat uu)), .val (.int (Int32.ofNat aa))] [(.int (Int32.ofNat (uu + 1))), (.ref b1), (.int (Int32.ofNat aa))])) rfl rfl (hb hby d3_200)) ?_
                  show Wp p e below _ (T279.setTop (mkF m 201 #[.val (.ref d0), .val (.int (Int32.ofNat nw)), .val (.ref b35), .val (.int (Int32.ofNat kk)), .val (.ref b217), .val (.ref b235), .val (.ref b254), .val (.int (Int32.ofNat uu)), .val (.int (Int32.ofNat aa))] [(.int (Int32.ofNat (own_Dl gg35 K cc (uu + 1)))), (.int (Int32.ofNat aa))]))
                  by_cases hc281 : (Int32.ofNat aa) < (Int32.ofNat (own_Dl gg35 K cc (uu + 1)))
                  · have hc281n : aa < (own_Dl gg35 K cc (uu + 1)) := (own_lt (by omega) (by omega)).mp hc281
                    refine Wp.step (fun t k => XS.icmpNo X279.here hx rfl (hb hby d3_201) rfl (tlt hc281).2.1 k) ?_
                    show Wp p e below _ (T279.setTop (mkF m 204 #[.val (.ref d0), .val (.int (Int32.ofNat nw)), .val (.ref b35), .val (.int (Int32.ofNat kk)), .val (.ref b217), .val (.ref b235), .val (.ref b254), .val (.int (Int32.ofNat uu)), .val (.int (Int32.ofNat aa))] []))
                    refine Wp.step (fun t k => XS.aload X279.here hx rfl (hb hby d3_204) rfl rfl k) ?_
                    show Wp p e below _ (T279.setTop (mkF m 206 #[.val (.ref d0), .val (.int (Int32.ofNat nw)), .val (.ref b35), .val (.int (Int32.ofNat kk)), .val (.ref b217), .val (.ref b235), .val (.ref b254), .val (.int (Int32.ofNat uu)), .val (.int (Int32.ofNat aa))] [(.ref b217)]))
                    refine Wp.step (fun t k => XS.iload X279.here hx rfl (hb hby d3_206) rfl k) ?_
                    show Wp p e below _ (T279.setTop (mkF m 208 #[.val (.ref d0), .val (.int (Int32.ofNat nw)), .val (.ref b35), .val (.int (Int32.ofNat kk)), .val (.ref b217), .val (.ref b235), .val (.ref b254), .val (.int (Int32.ofNat uu)), .val (.int (Int32.ofNat aa))] [(.int (Int32.ofNat aa)), (.ref b217)]))
                    refine Wp.step (fun t k => XS.iload X279.here hx rfl (hb hby d3_208) rfl k) ?_
                    show Wp p e below _ (T279.setTop (mkF m 210 #[.val (.ref d0), .val (.int (Int32.ofNat nw)), .val (.ref b35), .val (.int (Int32.ofNat kk)), .val (.ref b217), .val (.ref b235), .val (.ref b254), .val (.int (Int32.ofNat uu)), .val (.int (Int32.ofNat aa))] [(.int (Int32.ofNat uu)), (.int (Int32.ofNat aa)), (.ref b217)]))
                    obtain ⟨cl282, Ar282, Sz282, Nn282, El282⟩ := id q16_278
                    have hin282 : ¬ ((Int32.ofNat aa) < 0 ∨ cl282.slots.size ≤ ((Int32.ofNat aa)).toNatClampNeg) := inb_of Sz282 (own_inb (by omega) (by omega))
                    obtain ⟨T282, h282, X282, e282, W282, st282⟩ := stI X279 hx hZ e279 Ar282 (j := (Int32.ofNat aa)) hin282 (g := (mkF m 210 #[.val (.ref d0), .val (.int (Int32.ofNat nw)), .val (.ref b35), .val (.int (Int32.ofNat kk)), .val (.ref b217), .val (.ref b235), .val (.ref b254), .val (.int (Int32.ofNat uu)), .val (.int (Int32.ofNat aa))] [(.int (Int32.ofNat uu)), (.int (Int32.ofNat aa)), (.ref b217)])) rfl rfl (hb hby d3_210)
                    have c283 := q0_278.wr W282
                    have c284 := q1_278.other W282 (Or.inl ne_d0_b217)
                    have c285 := q2_278.other W282 (Or.inl ne_d0_b217)
                    have c286 := q3_278.other W282 (Or.inl ne_d0_b217)
                    have c287 := q4_278.other W282 (Or.inl ne_d0_b217)
                    have c288 := q5_278.other W282 (Or.inl ne_d0_b217)
                    have c289 := q6_278.other W282 (Or.inl ne_d0_b217)
                    have c290 := q7_278.other W282 (Or.inl ne_d0_b217)
                    have c291 := q8_278.other W282 (Or.inl ne_d0_b217)
                    have B292 := q9_278.other W282 ne_d1_b217
                    have B293 := q10_278.other W282 ne_d2_b217
                    have B294 := q11_278.other W282 ne_d3_b217
                    have B295 := q12_278.other W282 ne_b35_b217
                    have c296 := q13_278.wr W282
                    have B297 := q14_278.other W282 ne_b1_b217
                    have B298 := q15_278.other W282 ne_b129_b217
                    have B299 := q17_278.other W282 (Ne.symm ne_b217_b235)
                    have B300 := q18_278.other W282 (Ne.symm ne_b217_b254)
                    have K301 := KK_278.wr W282 (Or.inr sz_b217)
                    have N282 := Fr.snoc X282 NN_278 g_b217
                    have B282 := own_IA.set Ar282 Sz282 Nn282 El282 W282 rfl
                    rw [own_nat (a := aa) (by omega)] at B282
                    refine Wp.step st282 ?_
                    show Wp p e below _ (T282.setTop (mkF m 211 #[.val (.ref d0), .val (.int (Int32.ofNat nw)), .val (.ref b35), .val (.int (Int32.ofNat kk)), .val (.ref b217), .val (.ref b235), .val (.ref b254), .val (.int (Int32.ofNat uu)), .val (.int (Int32.ofNat aa))] []))
                    refine Wp.step (fun t k => XS.aload X282.here hx rfl (hb hby d3_211) rfl rfl k) ?_
                    show Wp p e below _ (T282.setTop (mkF m 213 #[.val (.ref d0), .val (.int (Int32.ofNat nw)), .val (.ref b35), .val (.int (Int32.ofNat kk)), .val (.ref b217), .val (.ref b235), .val (.ref b254), .val (.int (Int32.ofNat uu)), .val (.int (Int32.ofNat aa))] [(.ref b235)]))
                    refine Wp.step (fun t k => XS.iload X282.here hx rfl (hb hby d3_213) rfl k) ?_
                    show Wp p e below _ (T282.setTop (mkF m 215 #[.val (.ref d0), .val (.int (Int32.ofNat nw)), .val (.ref b35), .val (.int (Int32.ofNat kk)), .val (.ref b217), .val (.ref b235), .val (.ref b254), .val (.int (Int32.ofNat uu)), .val (.int (Int32.ofNat aa))] [(.int (Int32.ofNat aa)), (.ref b235)]))
                    refine Wp.step (fun t k => XS.aloadN X282.here hx rfl (hb hby d3_215) rfl rfl k) ?_
                    show Wp p e below _ (T282.setTop (mkF m 216 #[.val (.ref d0), .val (.int (Int32.ofNat nw)), .val (.ref b35), .val (.int (Int32.ofNat kk)), .val (.ref b217), .val (.ref b235), .val (.ref b254), .val (.int (Int32.ofNat uu)), .val (.int (Int32.ofNat aa))] [(.ref d0), (.int (Int32.ofNat aa)), (.ref b235)]))
                    obtain ⟨T302, X302, e302, st302⟩ := getF X282 hx hZ hown (host := "") (Or.inl (hw _ (List.mem_of_getElem? (i := 69) rfl))) Via.refl e282 c289 (g := (mkF m 216 #[.val (.ref d0), .val (.int (Int32.ofNat nw)), .val (.ref b35), .val (.int (Int32.ofNat kk)), .val (.ref b217), .val (.ref b235), .val (.ref b254), .val (.int (Int32.ofNat uu)), .val (.int (Int32.ofNat aa))] [(.ref d0), (.int (Int32.ofNat aa)), (.ref b235)])) rfl rfl (hb hby d3_216)
                    refine Wp.step st302 ?_
                    show Wp p e below _ (T302.setTop (mkF m 219 #[.val (.ref d0), .val (.int (Int32.ofNat nw)), .val (.ref b35), .val (.int (Int32.ofNat kk)), .val (.ref b217), .val (.ref b235), .val (.ref b254), .val (.int (Int32.ofNat uu)), .val (.int (Int32.ofNat aa))] [(.ref b129), (.int (Int32.ofNat aa)), (.ref b235)]))
                    refine Wp.step (fun t k => XS.iload X302.here hx rfl (hb hby d3_219) rfl k) ?_
                    show Wp p e below _ (T302.setTop (mkF m 221 #[.val (.ref d0), .val (.int (Int32.ofNat nw)), .val (.ref b35), .val (.int (Int32.ofNat kk)), .val (.ref b217), .val (.ref b235), .val (.ref b254), .val (.int (Int32.ofNat uu)), .val (.int (Int32.ofNat aa))] [(.int (Int32.ofNat aa)), (.ref b129), (.int (Int32.ofNat aa)), (.ref b235)]))
                    obtain ⟨cl303, Ar303, Sz303, Nn303, El303⟩ := id B298
                    have hin303 : ¬ ((Int32.ofNat aa) < 0 ∨ cl303.slots.size ≤ ((Int32.ofNat aa)).toNatClampNeg) := inb_of Sz303 (own_inb (by omega) (by omega))
                    have hat303 : cl303.slots[((Int32.ofNat aa)).toNatClampNeg]? = some (.long (ga ((Int32.ofNat aa)).toNatClampNeg)) := (El303 _ (by have q := Nat.lt_of_not_le fun q => hin303 (Or.inr q); rw [Sz303] at q; exact q))
                    rw [show (ga ((Int32.ofNat aa)).toNatClampNeg) = (ga aa) from congrArg ga (own_nat (by omega))] at hat303
                    refine Wp.step (X302.laload hx (j := (Int32.ofNat aa)) (v := (.long (ga aa))) (by rw [e302]; exact Ar303.1) (State.isArrayOf_alike hZ.alike Ar303.2.1) Ar303.2.2 hin303 hat303 (g := (mkF m 221 #[.val (.ref d0), .val (.int (Int32.ofNat nw)), .val (.ref b35), .val (.int (Int32.ofNat kk)), .val (.ref b217), .val (.ref b235), .val (.ref b254), .val (.int (Int32.ofNat uu)), .val (.int (Int32.ofNat aa))] [(.int (Int32.ofNat aa)), (.ref b129), (.int (Int32.ofNat aa)), (.ref b235)])) rfl rfl (hb hby d3_221)) ?_
                    show Wp p e below _ (T302.setTop (mkF m 222 #[.val (.ref d0), .val (.int (Int32.ofNat nw)), .val (.ref b35), .val (.int (Int32.ofNat kk)), .val (.ref b217), .val (.ref b235), .val (.ref b254), .val (.int (Int32.ofNat uu)), .val (.int (Int32.ofNat aa))] [(.long (ga aa)), (.int (Int32.ofNat aa)), (.ref b235)]))
                    obtain ⟨_, _, ⟨T304, L304, k304, n304⟩, -, X304, ⟨Lc304, hQ304, l304, y304, z304⟩, st304⟩ := Jvm.LawKit.callS X302 hx (y := (⟨"com/example/erotema/erotema/model/ToldEdges", "property", "(J)I"⟩ : MethodName)) hown (mvT hZ (hw _ (List.mem_of_getElem? (i := 86) rfl))) (mvT hZ (hw _ (List.mem_of_getElem? (i := 87) rfl))) (mvT hZ (hw _ (List.mem_of_getElem? (i := 3) rfl))) (mvT hZ (hw _ (List.mem_of_getElem? (i := 88) rfl))) (by decide) (backOf (W := 2) (rm15 l Z a0 hw [] (ga aa)  h282 n0 (Nat.le_trans Z0 K301.1) ) hZ (hw _ (List.mem_of_getElem? (i := 88) rfl)) (hw _ (List.mem_of_getElem? (i := 3) rfl)) (by decide) (by decide)) (g := (mkF m 222 #[.val (.ref d0), .val (.int (Int32.ofNat nw)), .val (.ref b35), .val (.int (Int32.ofNat kk)), .val (.ref b217), .val (.ref b235), .val (.ref b254), .val (.int (Int32.ofNat uu)), .val (.int (Int32.ofNat aa))] [(.long (ga aa)), (.int (Int32.ofNat aa)), (.ref b235)])) rfl (by rw [hml]; rfl) (argsL := [(.long (ga aa))]) (rest := [(.int (Int32.ofNat aa)), (.ref b235)]) (lenOf pd_28J29I rfl) rfl (by show 2 * 0 + _ ≤ _; exact Nat.le_of_eq rfl) (hb hby d3_222) (fun _ _ => ⟨rfl, e302, (by decide : 7 + 0 ≤ _), (by decide : 35 + 0 ≤ _)⟩)
                    dsimp only [Pt.U, Pt.locs, Pt.cells, Pt.slots] at X304 l304 y304 z304 st304 hQ304
                    subst l304 y304 z304
                    obtain ⟨rfl, N304q, e304⟩ := hQ304
                    have N304 := Fr.app N282 N304q
                    refine Wp.step st304 ?_
                    show Wp p e below _ (T304.setTop (mkF m 225 #[.val (.ref d0), .val (.int (Int32.ofNat nw)), .val (.ref b35), .val (.int (Int32.ofNat kk)), .val (.ref b217), .val (.ref b235), .val (.ref b254), .val (.int (Int32.ofNat uu)), .val (.int (Int32.ofNat aa))] [(.int (own_pr (ga aa))), (.int (Int32.ofNat aa)), (.ref b235)]))
                    obtain ⟨cl305, Ar305, Sz305, Nn305, El305⟩ := id B299
                    have hin305 : ¬ ((Int32.ofNat aa) < 0 ∨ cl305.slots.size ≤ ((Int32.ofNat aa)).toNatClampNeg) := inb_of Sz305 (own_inb (by omega) (by omega))
                    obtain ⟨T305, h305, X305, e305, W305, st305⟩ := stI X304 hx hZ e304 Ar305 (j := (Int32.ofNat aa)) hin305 (g := (mkF m 225 #[.val (.ref d0), .val (.int (Int32.ofNat nw)), .val (.ref b35), .val (.int (Int32.ofNat kk)), .val (.ref b217), .val (.ref b235), .val (.ref b254), .val (.int (Int32.ofNat uu)), .val (.int (Int32.ofNat aa))] [(.int (own_pr (ga aa))), (.int (Int32.ofNat aa)), (.ref b235)])) rfl rfl (hb hby d3_225)
                    have c306 := c283.wr W305
                    have c307 := c284.other W305 (Or.inl ne_d0_b235)
                    have c308 := c285.other W305 (Or.inl ne_d0_b235)
                    have c309 := c286.other W305 (Or.inl ne_d0_b235)
                    have c310 := c287.other W305 (Or.inl ne_d0_b235)
                    have c311 := c288.other W305 (Or.inl ne_d0_b235)
                    have c312 := c289.other W305 (Or.inl ne_d0_b235)
                    have c313 := c290.other W305 (Or.inl ne_d0_b235)
                    have c314 := c291.other W305 (Or.inl ne_d0_b235)
                    have B315 := B292.other W305 ne_d1_b235
                    have B316 := B293.other W305 ne_d2_b235
                    have B317 := B294.other W305 ne_d3_b235
                    have B318 := B295.other W305 ne_b35_b235
                    have c319 := c296.wr W305
                    have B320 := B297.other W305 ne_b1_b235
                    have B321 := B298.other W305 ne_b129_b235
                    have B322 := B300.other W305 (Ne.symm ne_b235_b254)
                    have B323 := B282.other W305 ne_b217_b235
                    have K324 := K301.wr W305 (Or.inr sz_b235)
                    have N305 := Fr.snoc X305 N304 g_b235
                    have B305 := own_IA.set Ar305 Sz305 Nn305 El305 W305 rfl
                    rw [own_nat (a := aa) (by omega)] at B305
                    refine Wp.step st305 ?_
                    show Wp p e below _ (T305.setTop (mkF m 226 #[.val (.ref d0), .val (.int (Int32.ofNat nw)), .val (.ref b35), .val (.int (Int32.ofNat kk)), .val (.ref b217), .val (.ref b235), .val (.ref b254), .val (.int (Int32.ofNat uu)), .val (.int (Int32.ofNat aa))] []))
                    refine Wp.step (fun t k => XS.aload X305.here hx rfl (hb hby d3_226) rfl rfl k) ?_
                    show Wp p e below _ (T305.setTop (mkF m 228 #[.val (.ref d0), .val (.int (Int32.ofNat nw)), .val (.ref b35), .val (.int (Int32.ofNat kk)), .val (.ref b217), .val (.ref b235), .val (.ref b254), .val (.int (Int32.ofNat uu)), .val (.int (Int32.ofNat aa))] [(.ref b254)]))
                    refine Wp.step (fun t k => XS.iload X305.here hx rfl (hb hby d3_228) rfl k) ?_
                    show Wp p e below _ (T305.setTop (mkF m 230 #[.val (.ref d0), .val (.int (Int32.ofNat nw)), .val (.ref b35), .val (.int (Int32.ofNat kk)), .val (.ref b217), .val (.ref b235), .val (.ref b254), .val (.int (Int32.ofNat uu)), .val (.int (Int32.ofNat aa))] [(.int (Int32.ofNat aa)), (.ref b254)]))
                    refine Wp.step (fun t k => XS.aloadN X305.here hx rfl (hb hby d3_230) rfl rfl k) ?_
                    show Wp p e below _ (T305.setTop (mkF m 231 #[.val (.ref d0), .val (.int (Int32.ofNat nw)), .val (.ref b35), .val (.int (Int32.ofNat kk)), .val (.ref b217), .val (.ref b235), .val (.ref b254), .val (.int (Int32.ofNat uu)), .val (.int (Int32.ofNat aa))] [(.ref d0), (.int (Int32.ofNat aa)), (.ref b254)]))
                    obtain ⟨T325, X325, e325, st325⟩ := getF X305 hx hZ hown (host := "") (Or.inl (hw _ (List.mem_of_getElem? (i := 69) rfl))) Via.refl e305 c312 (g := (mkF m 231 #[.val (.ref d0), .val (.int (Int32.ofNat nw)), .val (.ref b35), .val (.int (Int32.ofNat kk)), .val (.ref b217), .val (.ref b235), .val (.ref b254), .val (.int (Int32.ofNat uu)), .val (.int (Int32.ofNat aa))] [(.ref d0), (.int (Int32.ofNat aa)), (.ref b254)])) rfl rfl (hb hby d3_231)
                    refine Wp.step st325 ?_
                    show Wp p e below _ (T325.setTop (mkF m 234 #[.val (.ref d0), .val (.int (Int32.ofNat nw)), .val (.ref b35), .val (.int (Int32.ofNat kk)), .val (.ref b217), .val (.ref b235), .val (.ref b254), .val (.int (Int32.ofNat uu)), .val (.int (Int32.ofNat aa))] [(.ref b129), (.int (Int32.ofNat aa)), (.ref b254)]))
                    refine Wp.step (fun t k => XS.iload X325.here hx rfl (hb hby d3_234) rfl k) ?_
                    show Wp p e below _ (T325.setTop (mkF m 236 #[.val (.ref d0), .val (.int (Int32.ofNat nw)), .val (.ref b35), .val (.int (Int32.ofNat kk)), .val (.ref b217), .val (.ref b235), .val (.ref b254), .val (.int (Int32.ofNat uu)), .val (.int (Int32.ofNat aa))] [(.int (Int32.ofNat aa)), (.ref b129), (.int (Int32.ofNat aa)), (.ref b254)]))
                    obtain ⟨cl326, Ar326, Sz326, Nn326, El326⟩ := id B321
                    have hin326 : ¬ ((Int32.ofNat aa) < 0 ∨ cl326.slots.size ≤ ((Int32.ofNat aa)).toNatClampNeg) := inb_of Sz326 (own_inb (by omega) (by omega))
                    have hat326 : cl326.slots[((Int32.ofNat aa)).toNatClampNeg]? = some (.long (ga ((Int32.ofNat aa)).toNatClampNeg)) := (El326 _ (by have q := Nat.lt_of_not_le fun q => hin326 (Or.inr q); rw [Sz326] at q; exact q))
                    rw [show (ga ((Int32.ofNat aa)).toNatClampNeg) = (ga aa) from congrArg ga (own_nat (by omega))] at hat326
                    refine Wp.step (X325.laload hx (j := (Int32.ofNat aa)) (v := (.long (ga aa))) (by rw [e325]; exact Ar326.1) (State.isArrayOf_alike hZ.alike Ar326.2.1) Ar326.2.2 hin326 hat326 (g := (mkF m 236 #[.val (.ref d0), .val (.int (Int32.ofNat nw)), .val (.ref b35), .val (.int (Int32.ofNat kk)), .val (.ref b217), .val (.ref b235), .val (.ref b254), .val (.int (Int32.ofNat uu)), .val (.int (Int32.ofNat aa))] [(.int (Int32.ofNat aa)), (.ref b129), (.int (Int32.ofNat aa)), (.ref b254)])) rfl rfl (hb hby d3_236)) ?_
                    show Wp p e below _ (T325.setTop (mkF m 237 #[.val (.ref d0), .val (.int (Int32.ofNat nw)), .val (.ref b35), .val (.int (Int32.ofNat kk)), .val (.ref b217), .val (.ref b235), .val (.ref b254), .val (.int (Int32.ofNat uu)), .val (.int (Int32.ofNat aa))] [(.long (ga aa)), (.int (Int32.ofNat aa)), (.ref b254)]))
                    obtain ⟨_, _, ⟨T327, L327, k327, n327⟩, -, X327, ⟨Lc327, hQ327, l327, y327, z327⟩, st327⟩ := Jvm.LawKit.callS X325 hx (y := (⟨"com/example/erotema/erotema/model/ToldEdges", "element", "(J)I"⟩ : MethodName)) hown (mvT hZ (hw _ (List.mem_of_getElem? (i := 89) rfl))) (mvT hZ (hw _ (List.mem_of_getElem? (i := 90) rfl))) (mvT hZ (hw _ (List.mem_of_getElem? (i := 3) rfl))) (mvT hZ (hw _ (List.mem_of_getElem? (i := 91) rfl))) (by decide) (backOf (W := 2) (rm16 l Z a0 hw [] (ga aa)  h305 n0 (Nat.le_trans Z0 K324.1) ) hZ (hw _ (List.mem_of_getElem? (i := 91) rfl)) (hw _ (List.mem_of_getElem? (i := 3) rfl)) (by decide) (by decide)) (g := (mkF m 237 #[.val (.ref d0), .val (.int (Int32.ofNat nw)), .val (.ref b35), .val (.int (Int32.ofNat kk)), .val (.ref b217), .val (.ref b235), .val (.ref b254), .val (.int (Int32.ofNat uu)), .val (.int (Int32.ofNat aa))] [(.long (ga aa)), (.int (Int32.ofNat aa)), (.ref b254)])) rfl (by rw [hml]; rfl) (argsL := [(.long (ga aa))]) (rest := [(.int (Int32.ofNat aa)), (.ref b254)]) (lenOf pd_28J29I rfl) rfl (by show 2 * 0 + _ ≤ _; exact Nat.le_of_eq rfl) (hb hby d3_237) (fun _ _ => ⟨rfl, e325, (by decide : 7 + 0 ≤ _), (by decide : 35 + 0 ≤ _)⟩)
                    dsimp only [Pt.U, Pt.locs, Pt.cells, Pt.slots] at X327 l327 y327 z327 st327 hQ327
                    subst l327 y327 z327
                    obtain ⟨rfl, N327q, e327⟩ := hQ327
                    have N327 := Fr.app N305 N327q
                    refine Wp.step st327 ?_
                    show Wp p e below _ (T327.setTop (mkF m 240 #[.val (.ref d0), .val (.int (Int32.ofNat nw)), .val (.ref b35), .val (.int (Int32.ofNat kk)), .val (.ref b217), .val (.ref b235), .val (.ref b254), .val (.int (Int32.ofNat uu)), .val (.int (Int32.ofNat aa))] [(.int (own_el (ga aa))), (.int (Int32.ofNat aa)), (.ref b254)]))
                    obtain ⟨cl328, Ar328, Sz328, Nn328, El328⟩ := id B322
                    have hin328 : ¬ ((Int32.ofNat aa) < 0 ∨ cl328.slots.size ≤ ((Int32.ofNat aa)).toNatClampNeg) := inb_of Sz328 (own_inb (by omega) (by omega))
                    obtain ⟨T328, h328, X328, e328, W328, st328⟩ := stI X327 hx hZ e327 Ar328 (j := (Int32.ofNat aa)) hin328 (g := (mkF m 240 #[.val (.ref d0), .val (.int (Int32.ofNat nw)), .val (.ref b35), .val (.int (Int32.ofNat kk)), .val (.ref b217), .val (.ref b235), .val (.ref b254), .val (.int (Int32.ofNat uu)), .val (.int (Int32.ofNat aa))] [(.int (own_el (ga aa))), (.int (Int32.ofNat aa)), (.ref b254)])) rfl rfl (hb hby d3_240)
                    have c329 := c306.wr W328
                    have c330 := c307.other W328 (Or.inl ne_d0_b254)
                    have c331 := c308.other W328 (Or.inl ne_d0_b254)
                    have c332 := c309.other W328 (Or.inl ne_d0_b254)
                    have c333 := c310.other W328 (Or.inl ne_d0_b254)
                    have c334 := c311.other W328 (Or.inl ne_d0_b254)
                    have c335 := c312.other W328 (Or.inl ne_d0_b254)
                    have c336 := c313.other W328 (Or.inl ne_d0_b254)
                    have c337 := c314.other W328 (Or.inl ne_d0_b254)
                    have B338 := B315.other W328 ne_d1_b254
                    have B339 := B316.other W328 ne_d2_b254
                    have B340 := B317.other W328 ne_d3_b254
                    have B341 := B318.other W328 ne_b35_b254
                    have c342 := c319.wr W328
                    have B343 := B320.other W328 ne_b1_b254
                    have B344 := B321.other W328 ne_b129_b254
                    have B345 := B323.other W328 ne_b217_b254
                    have B346 := B305.other W328 ne_b235_b254
                    have K347 := K324.wr W328 (Or.inr sz_b254)
                    have N328 := Fr.snoc X328 N327 g_b254
                    have B328 := own_IA.set Ar328 Sz328 Nn328 El328 W328 rfl
                    rw [own_nat (a := aa) (by omega)] at B328
                    refine Wp.step st328 ?_
                    show Wp p e below _ (T328.setTop (mkF m 241 #[.val (.ref d0), .val (.int (Int32.ofNat nw)), .val (.ref b35), .val (.int (Int32.ofNat kk)), .val (.ref b217), .val (.ref b235), .val (.ref b254), .val (.int (Int32.ofNat uu)), .val (.int (Int32.ofNat aa))] []))
                    refine Wp.step (fun t k => XS.iinc X328.here hx rfl (hb hby d3_241) rfl (l' := #[.val (.ref d0), .val (.int (Int32.ofNat nw)), .val (.ref b35), .val (.int (Int32.ofNat kk)), .val (.ref b217), .val (.ref b235), .val (.ref b254), .val (.int (Int32.ofNat uu)), .val (.int ((Int32.ofNat aa) + (1 : Int32)))]) rfl k) ?_
                    show Wp p e below _ (T328.setTop (mkF m 244 #[.val (.ref d0), .val (.int (Int32.ofNat nw)), .val (.ref b35), .val (.int (Int32.ofNat kk)), .val (.ref b217), .val (.ref b235), .val (.ref b254), .val (.int (Int32.ofNat uu)), .val (.int ((Int32.ofNat aa) + (1 : Int32)))] []))
                    rw [show ((Int32.ofNat aa) + (1 : Int32)) = (Int32.ofNat (aa + 1)) from own_succ _]
                    refine Wp.step (fun t k => XS.goto X328.here hx rfl (pc0 := 244) (pc' := 190) rfl (hb hby d3_244) (by decide) (by decide) k) ?_
                    show Wp p e below _ (T328.setTop (mkF m 190 #[.val (.ref d0), .val (.int (Int32.ofNat nw)), .val (.ref b35), .val (.int (Int32.ofNat kk)), .val (.ref b217), .val (.ref b235), .val (.ref b254), .val (.int (Int32.ofNat uu)), .val (.int (Int32.ofNat (aa + 1)))] []))
                    exact ih_278 (aa + 1) (own_upd gs' aa (Int32.ofNat uu)) (own_upd gp' aa (own_pr (ga aa))) (own_upd gt' aa (own_el (ga aa))) _ _ T328 X328 e328 N328 K347 c329 c330 c331 c332 c333 c334 c335 c336 c337 B338 B339 B340 B341 c342 B343 B344 B345 B346 B328 (by omega) (own_TI TI) (by omega)
                  · have hc281n : ¬ (aa < (own_Dl gg35 K cc (uu + 1))) := fun q => hc281 ((own_lt (by omega) (by omega)).mpr q)
                    refine Wp.step (fun t k => XS.icmpYes X279.here hx rfl (pc0 := 201) (pc' := 247) rfl (hb hby d3_201) rfl (flt hc281).2.1 (by decide) (by decide) k) ?_
                    show Wp p e below _ (T279.setTop (mkF m 247 #[.val (.ref d0), .val (.int (Int32.ofNat nw)), .val (.ref b35), .val (.int (Int32.ofNat kk)), .val (.ref b217), .val (.ref b235), .val (.ref b254), .val (.int (Int32.ofNat uu)), .val (.int (Int32.ofNat aa))] []))
                    refine Wp.step (fun t k => XS.iinc X279.here hx rfl (hb hby d3_247) rfl (l' := #[.val (.ref d0), .val (.int (Int32.ofNat nw)), .val (.ref b35), .val (.int (Int32.ofNat kk)), .val (.ref b217), .val (.ref b235), .val (.ref b254), .val (.int ((Int32.ofNat uu) + (1 : Int32))), .val (.int (Int32.ofNat aa))]) rfl k) ?_
                    show Wp p e below _ (T279.setTop (mkF m 250 #[.val (.ref d0), .val (.int (Int32.ofNat nw)), .val (.ref b35), .val (.int (Int32.ofNat kk)), .val (.ref b217), .val (.ref b235), .val (.ref b254), .val (.int ((Int32.ofNat uu) + (1 : Int32))), .val (.int (Int32.ofNat aa))] []))
                    rw [show ((Int32.ofNat uu) + (1 : Int32)) = (Int32.ofNat (uu + 1)) from own_succ _]
                    refine Wp.step (fun t k => XS.goto X279.here hx rfl (pc0 := 250) (pc' := 175) rfl (hb hby d3_250) (by decide) (by decide) k) ?_
                    show Wp p e below _ (T279.setTop (mkF m 175 #[.val (.ref d0), .val (.int (Int32.ofNat nw)), .val (.ref b35), .val (.int (Int32.ofNat kk)), .val (.ref b217), .val (.ref b235), .val (.ref b254), .val (.int (Int32.ofNat (uu + 1))), .val (.int (Int32.ofNat aa))] []))
                    exact ih_274 (uu + 1) gs' gp' gt' (.val (.int (Int32.ofNat aa))) _ _ T279 X279 e279 NN_278 KK_278 q0_278 q1_278 q2_278 q3_278 q4_278 q5_278 q6_278 q7_278 q8_278 q9_278 q10_278 q11_278 q12_278 q13_278 q14_278 q15_278 q16_278 q17_278 q18_278 (by omega) (fun j hj => TI j (by omega)) (One.val rfl) (by omega)
              exact loop278 (own_Dl gg35 K cc (uu + 1) + 1) _ gs gp gt _ _ T276 X276 e276 NN_274 KK_274 q0_274 q1_274 q2_274 q3_274 q4_274 q5_274 q6_274 q7_274 q8_274 q9_274 q10_274 q11_274 q12_274 q13_274 q14_274 q15_274 q16_274 q17_274 q18_274 (by omega) TT (by omega)
            · have hc275n : ¬ (uu < nw) := fun q => hc275 ((own_lt (by omega) (by omega)).mpr q)
              have hue : uu = nw := by omega
              rw [hue, hDn] at TT
              have hK2 := own_K2 FIN35 DD hT hnw TT
              refine Wp.step (fun t k => XS.icmpYes X_274.here hx rfl (pc0 := 178) (pc' := 253) rfl (hb hby d3_178) rfl (flt hc275).2.1 (by decide) (by decide) k) ?_
              show Wp p e below _ (T_274.setTop (mkF m 253 #[.val (.ref d0), .val (.int (Int32.ofNat nw)), .val (.ref b35), .val (.int (Int32.ofNat kk)), .val (.ref b217), .val (.ref b235), .val (.ref b254), .val (.int (Int32.ofNat uu)), sl8] []))
              refine Wp.step (fun t k => XS.aloadN X_274.here hx rfl (hb hby d3_253) rfl rfl k) ?_
              show Wp p e below _ (T_274.setTop (mkF m 254 #[.val (.ref d0), .val (.int (Int32.ofNat nw)), .val (.ref b35), .val (.int (Int32.ofNat kk)), .val (.ref b217), .val (.ref b235), .val (.ref b254), .val (.int (Int32.ofNat uu)), sl8] [(.ref d0)]))
              refine Wp.step (fun t k => XS.iloadN X_274.here hx rfl (hb hby d3_254) rfl k) ?_
              show Wp p e below _ (T_274.setTop (mkF m 255 #[.val (.ref d0), .val (.int (Int32.ofNat nw)), .val (.ref b35), .val (.int (Int32.ofNat kk)), .val (.ref b217), .val (.ref b235), .val (.ref b254), .val (.int (Int32.ofNat uu)), sl8] [(.int (Int32.ofNat nw)), (.ref d0)]))
              refine Wp.step (fun t k => XS.iconst X_274.here hx rfl (hb hby d3_255) k) ?_
              show Wp p e below _ (T_274.setTop (mkF m 256 #[.val (.ref d0), .val (.int (Int32.ofNat nw)), .val (.ref b35), .val (.int (Int32.ofNat kk)), .val (.ref b217), .val (.ref b235), .val (.ref b254), .val (.int (Int32.ofNat uu)), sl8] [(.int (1 : Int32)), (.int (Int32.ofNat nw)), (.ref d0)]))
              refine Wp.step (fun t k => XS.iadd X_274.here hx rfl (hb hby d3_256) rfl k) ?_
              show Wp p e below _ (T_274.setTop (mkF m 257 #[.val (.ref d0), .val (.int (Int32.ofNat nw)), .val (.ref b35), .val (.int (Int32.ofNat kk)), .val (.ref b217), .val (.ref b235), .val (.ref b254), .val (.int (Int32.ofNat uu)), sl8] [(.int ((Int32.ofNat nw) + (1 : Int32))), (.ref d0)]))
              rw [show ((Int32.ofNat nw) + (1 : Int32)) = (Int32.ofNat (nw + 1)) from own_succ _]
              obtain ⟨T348, h348, k348, X348, e348, E348, A348, st348⟩ := newP X_274 hx hZ (hw _ (List.mem_of_getElem? (i := 0) rfl)) eT_274 (g := (mkF m 257 #[.val (.ref d0), .val (.int (Int32.ofNat nw)), .val (.ref b35), .val (.int (Int32.ofNat kk)), .val (.ref b217), .val (.ref b235), .val (.ref b254), .val (.int (Int32.ofNat uu)), sl8] [(.int (Int32.ofNat (nw + 1))), (.ref d0)])) rfl (hb hby d3_257) rfl (own_nn (by omega)) (cap := 5) (by rw [own_nat (by omega)]; omega) (by decide) (by decide) (by decide)
              obtain ⟨b348, g348⟩ : ∃ z, z = hh_274.size := ⟨_, rfl⟩
              rw [← g348] at A348 st348
              have g_b348 : n0 ≤ b348 := Nat.le_trans (Nat.le_trans Z0 KK_274.1) (Nat.le_of_eq g348.symm)
              have sz_b348 : h0.size ≤ b348 := Nat.le_trans KK_274.1 (Nat.le_of_eq g348.symm)
              have ne_b1_b348 : b1 ≠ b348 := Nat.ne_of_lt (Nat.lt_of_lt_of_le q14_274.lt (Nat.le_of_eq g348.symm))
              have ne_b129_b348 : b129 ≠ b348 := Nat.ne_of_lt (Nat.lt_of_lt_of_le q15_274.lt (Nat.le_of_eq g348.symm))
              have ne_b217_b348 : b217 ≠ b348 := Nat.ne_of_lt (Nat.lt_of_lt_of_le q16_274.lt (Nat.le_of_eq g348.symm))
              have ne_b235_b348 : b235 ≠ b348 := Nat.ne_of_lt (Nat.lt_of_lt_of_le q17_274.lt (Nat.le_of_eq g348.symm))
              have ne_b254_b348 : b254 ≠ b348 := Nat.ne_of_lt (Nat.lt_of_lt_of_le q18_274.lt (Nat.le_of_eq g348.symm))
              have ne_b35_b348 : b35 ≠ b348 := Nat.ne_of_lt (Nat.lt_of_lt_of_le q13_274.lt (Nat.le_of_eq g348.symm))
              have ne_d0_b348 : d0 ≠ b348 := Nat.ne_of_lt (Nat.lt_of_lt_of_le q0_274.lt (Nat.le_of_eq g348.symm))
              have ne_d1_b348 : d1 ≠ b348 := Nat.ne_of_lt (Nat.lt_of_lt_of_le q9_274.lt (Nat.le_of_eq g348.symm))
              have ne_d2_b348 : d2 ≠ b348 := Nat.ne_of_lt (Nat.lt_of_lt_of_le q10_274.lt (Nat.le_of_eq g348.symm))
              have ne_d3_b348 : d3 ≠ b348 := Nat.ne_of_lt (Nat.lt_of_lt_of_le q11_274.lt (Nat.le_of_eq g348.symm))
              have c349 := q0_274.ext E348
              have c350 := q1_274.ext E348
              have c351 := q2_274.ext E348
              have c352 := q3_274.ext E348
              have c353 := q4_274.ext E348
              have c354 := q5_274.ext E348
              have c355 := q6_274.ext E348
              have c356 := q7_274.ext E348
              have c357 := q8_274.ext E348
              have B358 := q9_274.ext E348
              have B359 := q10_274.ext E348
              have B360 := q11_274.ext E348
              have B361 := q12_274.ext E348
              have c362 := q13_274.ext E348
              have B363 := q14_274.ext E348
              have B364 := q15_274.ext E348
              have B365 := q16_274.ext E348
              have B366 := q17_274.ext E348
              have B367 := q18_274.ext E348
              have K368 := KK_274.ext E348
              have Z348 : (newA k348 .int (Int32.ofNat (nw + 1))).slots.size = ((Int32.ofNat (nw + 1))).toNatClampNeg := sz_new _ _ _
              have nn348 : ¬ (Int32.ofNat (nw + 1)) < 0 := (own_nn (by omega))
              refine Wp.step st348 ?_
              have B348 := own_IA.new A348 nn348 rfl
              show Wp p e below _ (T348.setTop (mkF m 259 #[.val (.ref d0), .val (.int (Int32.ofNat nw)), .val (.ref b35), .val (.int (Int32.ofNat kk)), .val (.ref b217), .val (.ref b235), .val (.ref b254), .val (.int (Int32.ofNat uu)), sl8] [(.ref b348), (.ref d0)]))
              obtain ⟨T369, h369, X369, e369, W369, st369⟩ := putF X348 hx hZ hown (host := "") (Or.inl (hw _ (List.mem_of_getElem? (i := 71) rfl))) Via.refl e348 c356 c349 (Or.inl (hw _ (List.mem_of_getElem? (i := 72) rfl))) (hw _ (List.mem_of_getElem? (i := 2) rfl)) (ty := (.array .int)) (by decide) rfl rfl (g := (mkF m 259 #[.val (.ref d0), .val (.int (Int32.ofNat nw)), .val (.ref b35), .val (.int (Int32.ofNat kk)), .val (.ref b217), .val (.ref b235), .val (.ref b254), .val (.int (Int32.ofNat uu)), sl8] [(.ref b348), (.ref d0)])) rfl rfl (hb hby d3_259)
              have c370 := c349.wr W369
              have c371 := c350.other W369 (Or.inr (slot_ne (Or.inl (hw _ (List.mem_of_getElem? (i := 11) rfl))) (Or.inl (hw _ (List.mem_of_getElem? (i := 72) rfl))) (by decide) (t := (.array .int)) (t' := (.array .int)) (by decide) (by decide)))
              have c372 := c351.other W369 (Or.inr (slot_ne (Or.inl (hw _ (List.mem_of_getElem? (i := 13) rfl))) (Or.inl (hw _ (List.mem_of_getElem? (i := 72) rfl))) (by decide) (t := (.array .int)) (t' := (.array .int)) (by decide) (by decide)))
              have c373 := c352.other W369 (Or.inr (slot_ne (Or.inl (hw _ (List.mem_of_getElem? (i := 15) rfl))) (Or.inl (hw _ (List.mem_of_getElem? (i := 72) rfl))) (by decide) (t := (.array .int)) (t' := (.array .int)) (by decide) (by decide)))
              have c374 := c353.other W369 (Or.inr (slot_ne (Or.inl (hw _ (List.mem_of_getElem? (i := 24) rfl))) (Or.inl (hw _ (List.mem_of_getElem? (i := 72) rfl))) (by decide) (t := .int) (t' := (.array .int)) (by decide) (by decide)))
              have c375 := c354.other W369 (Or.inr (slot_ne (Or.inl (hw _ (List.mem_of_getElem? (i := 22) rfl))) (Or.inl (hw _ (List.mem_of_getElem? (i := 72) rfl))) (by decide) (t := (.array .int)) (t' := (.array .int)) (by decide) (by decide)))
              have c376 := c355.other W369 (Or.inr (slot_ne (Or.inl (hw _ (List.mem_of_getElem? (i := 70) rfl))) (Or.inl (hw _ (List.mem_of_getElem? (i := 72) rfl))) (by decide) (t := (.array .long)) (t' := (.array .int)) (by decide) (by decide)))
              have c377 := c357.other W369 (Or.inr (slot_ne (Or.inl (hw _ (List.mem_of_getElem? (i := 74) rfl))) (Or.inl (hw _ (List.mem_of_getElem? (i := 72) rfl))) (by decide) (t := (.array .long)) (t' := (.array .int)) (by decide) (by decide)))
              have B378 := B358.other W369 ne_d1_d0
              have B379 := B359.other W369 ne_d2_d0
              have B380 := B360.other W369 ne_d3_d0
              have B381 := B361.other W369 (Ne.symm ne_d0_b35)
              have c382 := c362.wr W369
              have B383 := B363.other W369 (Ne.symm ne_d0_b1)
              have B384 := B364.other W369 (Ne.symm ne_d0_b129)
              have B385 := B365.other W369 (Ne.symm ne_d0_b217)
              have B386 := B366.other W369 (Ne.symm ne_d0_b235)
              have B387 := B367.other W369 (Ne.symm ne_d0_b254)
              have B388 := B348.other W369 (Ne.symm ne_d0_b348)
              have c389 := c356.same W369
              have K390 := K368.wr W369 (Or.inl (List.mem_of_getElem? (i := 0) rfl))
              have N369 := Fr.snoc X369 NN_274 g_d0
              refine Wp.step st369 ?_
              show Wp p e below _ (T369.setTop (mkF m 262 #[.val (.ref d0), .val (.int (Int32.ofNat nw)), .val (.ref b35), .val (.int (Int32.ofNat kk)), .val (.ref b217), .val (.ref b235), .val (.ref b254), .val (.int (Int32.ofNat uu)), sl8] []))
              refine Wp.step (fun t k => XS.aloadN X369.here hx rfl (hb hby d3_262) rfl rfl k) ?_
              show Wp p e below _ (T369.setTop (mkF m 263 #[.val (.ref d0), .val (.int (Int32.ofNat nw)), .val (.ref b35), .val (.int (Int32.ofNat kk)), .val (.ref b217), .val (.ref b235), .val (.ref b254), .val (.int (Int32.ofNat uu)), sl8] [(.ref d0)]))
              refine Wp.step (fun t k => XS.iloadN X369.here hx rfl (hb hby d3_263) rfl k) ?_
              show Wp p e below _ (T369.setTop (mkF m 264 #[.val (.ref d0), .val (.int (Int32.ofNat nw)), .val (.ref b35), .val (.int (Int32.ofNat kk)), .val (.ref b217), .val (.ref b235), .val (.ref b254), .val (.int (Int32.ofNat uu)), sl8] [(.int (Int32.ofNat kk)), (.ref d0)]))
              refine Wp.step (fun t k => XS.aload X369.here hx rfl (hb hby d3_264) rfl rfl k) ?_
              show Wp p e below _ (T369.setTop (mkF m 266 #[.val (.ref d0), .val (.int (Int32.ofNat nw)), .val (.ref b35), .val (.int (Int32.ofNat kk)), .val (.ref b217), .val (.ref b235), .val (.ref b254), .val (.int (Int32.ofNat uu)), sl8] [(.ref b254), (.int (Int32.ofNat kk)), (.ref d0)]))
              refine Wp.step (fun t k => XS.aload X369.here hx rfl (hb hby d3_266) rfl rfl k) ?_
              show Wp p e below _ (T369.setTop (mkF m 268 #[.val (.ref d0), .val (.int (Int32.ofNat nw)), .val (.ref b35), .val (.int (Int32.ofNat kk)), .val (.ref b217), .val (.ref b235), .val (.ref b254), .val (.int (Int32.ofNat uu)), sl8] [(.ref b235), (.ref b254), (.int (Int32.ofNat kk)), (.ref d0)]))
              refine Wp.step (fun t k => XS.aload X369.here hx rfl (hb hby d3_268) rfl rfl k) ?_
              show Wp p e below _ (T369.setTop (mkF m 270 #[.val (.ref d0), .val (.int (Int32.ofNat nw)), .val (.ref b35), .val (.int (Int32.ofNat kk)), .val (.ref b217), .val (.ref b235), .val (.ref b254), .val (.int (Int32.ofNat uu)), sl8] [(.ref b217), (.ref b235), (.ref b254), (.int (Int32.ofNat kk)), (.ref d0)]))
              refine Wp.step (fun t k => XS.aloadN X369.here hx rfl (hb hby d3_270) rfl rfl k) ?_
              show Wp p e below _ (T369.setTop (mkF m 271 #[.val (.ref d0), .val (.int (Int32.ofNat nw)), .val (.ref b35), .val (.int (Int32.ofNat kk)), .val (.ref b217), .val (.ref b235), .val (.ref b254), .val (.int (Int32.ofNat uu)), sl8] [(.ref d0), (.ref b217), (.ref b235), (.ref b254), (.int (Int32.ofNat kk)), (.ref d0)]))
              obtain ⟨T391, X391, e391, st391⟩ := getF X369 hx hZ hown (host := "") (Or.inl (hw _ (List.mem_of_getElem? (i := 71) rfl))) Via.refl e369 c389 (g := (mkF m 271 #[.val (.ref d0), .val (.int (Int32.ofNat nw)), .val (.ref b35), .val (.int (Int32.ofNat kk)), .val (.ref b217), .val (.ref b235), .val (.ref b254), .val (.int (Int32.ofNat uu)), sl8] [(.ref d0), (.ref b217), (.ref b235), (.ref b254), (.int (Int32.ofNat kk)), (.ref d0)])) rfl rfl (hb hby d3_271)
              refine Wp.step st391 ?_
              show Wp p e below _ (T391.setTop (mkF m 274 #[.val (.ref d0), .val (.int (Int32.ofNat nw)), .val (.ref b35), .val (.int (Int32.ofNat kk)), .val (.ref b217), .val (.ref b235), .val (.ref b254), .val (.int (Int32.ofNat uu)), sl8] [(.ref b348), (.ref b217), (.ref b235), (.ref b254), (.int (Int32.ofNat kk)), (.ref d0)]))
              obtain ⟨_, _, ⟨T392, L392, k392, n392⟩, -, X392, ⟨Lc392, hQ392, l392, y392, z392⟩, st392⟩ := Jvm.LawKit.callS X391 hx (y := (⟨"com/example/erotema/erotema/model/ToldEdges", "sort", "(I[I[I[I[I)[J"⟩ : MethodName)) hown (mvT hZ (hw _ (List.mem_of_getElem? (i := 25) rfl))) (mvT hZ (hw _ (List.mem_of_getElem? (i := 26) rfl))) (mvT hZ (hw _ (List.mem_of_getElem? (i := 3) rfl))) (mvT hZ (hw _ (List.mem_of_getElem? (i := 27) rfl))) (by decide) (backOf (W := 1) (rm4 l Z a0 hw [] (Int32.ofNat kk) b254 b235 b217 b348 kk nw kk (fun j => (own_el (ga j)).toNatClampNeg) gt gp gs h369 n0 (Nat.le_trans Z0 K390.1) rfl B387 B386 B385 B388 g_b348 ne_b254_b348 ne_b235_b348 ne_b217_b348 (by omega) (by omega) (by omega) (by omega) hK2) hZ (hw _ (List.mem_of_getElem? (i := 27) rfl)) (hw _ (List.mem_of_getElem? (i := 3) rfl)) (by decide) (by decide)) (g := (mkF m 274 #[.val (.ref d0), .val (.int (Int32.ofNat nw)), .val (.ref b35), .val (.int (Int32.ofNat kk)), .val (.ref b217), .val (.ref b235), .val (.ref b254), .val (.int (Int32.ofNat uu)), sl8] [(.ref b348), (.ref b217), (.ref b235), (.ref b254), (.int (Int32.ofNat kk)), (.ref d0)])) rfl (by rw [hml]; rfl) (argsL := [(.int (Int32.ofNat kk)), (.ref b254), (.ref b235), (.ref b217), (.ref b348)]) (rest := [(.ref d0)]) (lenOf pd_28I5bI5bI5bI5bI295bJ rfl) rfl (by show 2 * 0 + _ ≤ _; exact Nat.le_of_eq rfl) (hb hby d3_274) (fun _ _ => ⟨rfl, e391, (by decide : 8 + 2 ≤ _), (by decide : 40 + 10 ≤ _)⟩)
              dsimp only [Pt.U, Pt.locs, Pt.cells, Pt.slots] at X392 l392 y392 z392 st392 hQ392
              subst l392 y392 z392
              obtain ⟨h392, e392⟩ : ∃ z, T392.heap = z := ⟨_, rfl⟩
              rw [e392] at hQ392
              obtain ⟨b392, gg392, rfl, N392q, Kc392, zz392, BB392, EE392, BS392, FIN392⟩ := hQ392
              have N392 := Fr.app N369 N392q
              have g_b392 : n0 ≤ b392 := Nat.le_trans (Nat.le_trans Z0 K390.1) zz392
              have sz_b392 : h0.size ≤ b392 := Nat.le_trans K390.1 zz392
              have ne_b1_b392 : b1 ≠ b392 := Nat.ne_of_lt (Nat.lt_of_lt_of_le B383.lt zz392)
              have ne_b129_b392 : b129 ≠ b392 := Nat.ne_of_lt (Nat.lt_of_lt_of_le B384.lt zz392)
              have ne_b217_b392 : b217 ≠ b392 := Nat.ne_of_lt (Nat.lt_of_lt_of_le B385.lt zz392)
              have ne_b235_b392 : b235 ≠ b392 := Nat.ne_of_lt (Nat.lt_of_lt_of_le B386.lt zz392)
              have ne_b254_b392 : b254 ≠ b392 := Nat.ne_of_lt (Nat.lt_of_lt_of_le B387.lt zz392)
              have ne_b348_b392 : b348 ≠ b392 := Nat.ne_of_lt (Nat.lt_of_lt_of_le B388.lt zz392)
              have ne_b35_b392 : b35 ≠ b392 := Nat.ne_of_lt (Nat.lt_of_lt_of_le c382.lt zz392)
              have ne_d0_b392 : d0 ≠ b392 := Nat.ne_of_lt (Nat.lt_of_lt_of_le c370.lt zz392)
              have ne_d1_b392 : d1 ≠ b392 := Nat.ne_of_lt (Nat.lt_of_lt_of_le B378.lt zz392)
              have ne_d2_b392 : d2 ≠ b392 := Nat.ne_of_lt (Nat.lt_of_lt_of_le B379.lt zz392)
              have ne_d3_b392 : d3 ≠ b392 := Nat.ne_of_lt (Nat.lt_of_lt_of_le B380.lt zz392)
              have c393 := c370.keep Kc392
              have c394 := c371.keep Kc392 (ninS ne_d0_b348 nin0)
              have c395 := c372.keep Kc392 (ninS ne_d0_b348 nin0)
              have c396 := c373.keep Kc392 (ninS ne_d0_b348 nin0)
              have c397 := c374.keep Kc392 (ninS ne_d0_b348 nin0)
              have c398 := c375.keep Kc392 (ninS ne_d0_b348 nin0)
              have c399 := c376.keep Kc392 (ninS ne_d0_b348 nin0)
              have c400 := c389.keep Kc392 (ninS ne_d0_b348 nin0)
              have c401 := c377.keep Kc392 (ninS ne_d0_b348 nin0)
              have B402 := B378.keep Kc392 (ninS ne_d1_b348 nin0)
              have B403 := B379.keep Kc392 (ninS ne_d2_b348 nin0)
              have B404 := B380.keep Kc392 (ninS ne_d3_b348 nin0)
              have B405 := B381.keep Kc392 (ninS ne_b35_b348 nin0)
              have c406 := c382.keep Kc392
              have B407 := B383.keep Kc392 (ninS ne_b1_b348 nin0)
              have B408 := B384.keep Kc392 (ninS ne_b129_b348 nin0)
              have B409 := B385.keep Kc392 (ninS ne_b217_b348 nin0)
              have B410 := B386.keep Kc392 (ninS ne_b235_b348 nin0)
              have B411 := B387.keep Kc392 (ninS ne_b254_b348 nin0)
              have K392 := K390.trans Kc392 (allS (Or.inr sz_b348) all0)
              refine Wp.step st392 ?_
              show Wp p e below _ (T392.setTop (mkF m 277 #[.val (.ref d0), .val (.int (Int32.ofNat nw)), .val (.ref b35), .val (.int (Int32.ofNat kk)), .val (.ref b217), .val (.ref b235), .val (.ref b254), .val (.int (Int32.ofNat uu)), sl8] [(.ref b392), (.ref d0)]))
              obtain ⟨T413, h413, X413, e413, W413, st413⟩ := putF X392 hx hZ hown (host := "") (Or.inl (hw _ (List.mem_of_getElem? (i := 73) rfl))) Via.refl e392 c401 c393 (Or.inl (hw _ (List.mem_of_getElem? (i := 74) rfl))) (hw _ (List.mem_of_getElem? (i := 2) rfl)) (ty := (.array .long)) (by decide) rfl rfl (g := (mkF m 277 #[.val (.ref d0), .val (.int (Int32.ofNat nw)), .val (.ref b35), .val (.int (Int32.ofNat kk)), .val (.ref b217), .val (.ref b235), .val (.ref b254), .val (.int (Int32.ofNat uu)), sl8] [(.ref b392), (.ref d0)])) rfl rfl (hb hby d3_277)
              have c414 := c393.wr W413
              have c415 := c394.other W413 (Or.inr (slot_ne (Or.inl (hw _ (List.mem_of_getElem? (i := 11) rfl))) (Or.inl (hw _ (List.mem_of_getElem? (i := 74) rfl))) (by decide) (t := (.array .int)) (t' := (.array .long)) (by decide) (by decide)))
              have c416 := c395.other W413 (Or.inr (slot_ne (Or.inl (hw _ (List.mem_of_getElem? (i := 13) rfl))) (Or.inl (hw _ (List.mem_of_getElem? (i := 74) rfl))) (by decide) (t := (.array .int)) (t' := (.array .long)) (by decide) (by decide)))
              have c417 := c396.other W413 (Or.inr (slot_ne (Or.inl (hw _ (List.mem_of_getElem? (i := 15) rfl))) (Or.inl (hw _ (List.mem_of_getElem? (i := 74) rfl))) (by decide) (t := (.array .int)) (t' := (.array .long)) (by decide) (by decide)))
              have c418 := c397.other W413 (Or.inr (slot_ne (Or.inl (hw _ (List.mem_of_getElem? (i := 24) rfl))) (Or.inl (hw _ (List.mem_of_getElem? (i := 74) rfl))) (by decide) (t := .int) (t' := (.array .long)) (by decide) (by decide)))
              have c419 := c398.other W413 (Or.inr (slot_ne (Or.inl (hw _ (List.mem_of_getElem? (i := 22) rfl))) (Or.inl (hw _ (List.mem_of_getElem? (i := 74) rfl))) (by decide) (t := (.array .int)) (t' := (.array .long)) (by decide) (by decide)))
              have c420 := c399.other W413 (Or.inr (slot_ne (Or.inl (hw _ (List.mem_of_getElem? (i := 70) rfl))) (Or.inl (hw _ (List.mem_of_getElem? (i := 74) rfl))) (by decide) (t := (.array .long)) (t' := (.array .long)) (by decide) (by decide)))
              have c421 := c400.other W413 (Or.inr (slot_ne (Or.inl (hw _ (List.mem_of_getElem? (i := 72) rfl))) (Or.inl (hw _ (List.mem_of_getElem? (i := 74) rfl))) (by decide) (t := (.array .int)) (t' := (.array .long)) (by decide) (by decide)))
              have B422 := B402.other W413 ne_d1_d0
              have B423 := B403.other W413 ne_d2_d0
              have B424 := B404.other W413 ne_d3_d0
              have B425 := B405.other W413 (Ne.symm ne_d0_b35)
              have c426 := c406.wr W413
              have B427 := B407.other W413 (Ne.symm ne_d0_b1)
              have B428 := B408.other W413 (Ne.symm ne_d0_b129)
              have B429 := B409.other W413 (Ne.symm ne_d0_b217)
              have B430 := B410.other W413 (Ne.symm ne_d0_b235)
              have B431 := B411.other W413 (Ne.symm ne_d0_b254)
              have B432 := BS392.other W413 (Ne.symm ne_d0_b348)
              have B433 := BB392.other W413 (Ne.symm ne_d0_b392)
              have c434 := EE392.wr W413
              have c435 := c401.same W413
              have K436 := K392.wr W413 (Or.inl (List.mem_of_getElem? (i := 0) rfl))
              have N413 := Fr.snoc X413 N392 g_d0
              refine Wp.step st413 ?_
              show Wp p e below _ (T413.setTop (mkF m 280 #[.val (.ref d0), .val (.int (Int32.ofNat nw)), .val (.ref b35), .val (.int (Int32.ofNat kk)), .val (.ref b217), .val (.ref b235), .val (.ref b254), .val (.int (Int32.ofNat uu)), sl8] []))
              refine Wp.retV X413 hx Bd.returns (hb hby d3_280) hlk ?_ (by decide) (by decide)
              show Q3 Z d0 (Int32.ofNat nw) d1 d2 d3 cc nw K Tg fa1 fa2 fa3 h0 n0 none T413.heap _
              rw [e413]
              exact ⟨b1, b348, own_st (fun j => (own_el (ga j)).toNatClampNeg) kk, rfl, N413, K436, c414, c419, B427, c421, B432, fun v hv => Nat.le_trans (own_st_le (fun i hi => (hK2 i hi).2) hv) (by omega), fun q hq => by rw [own_st, own_T2 FIN35 DD hT hnw hq]⟩
        exact loop274 (nw + 1) 0 _ _ _ .unset _ _ T254 X254 e254 N199 K273 c255 c256 c257 c258 c259 c260 c261 c262 c263 B264 B265 B266 B267 c268 B269 B270 B271 B272 B254 (Nat.zero_le _) (fun j hj => absurd hj (Nat.not_lt_zero _)) One.u (by omega)
  exact loop49 (nw + 1) 0 0 _ .unset .unset .unset _ _ T35 X35 e35 N35 K35 c36 c37 c38 c39 c40 c41 c42 c43 c44 B45 B46 B47 BS35 BB35 EE35 (Nat.zero_le _) (own_ded.start _ _ _) One.u One.u One.u (by omega)
theorem own_mem_of {K : Nat → Nat} {W : Nat → Int64} {v i : Nat} (hv : K i = v) : ∀ {c}, i < c → W i ∈ own_sel K W v c
  | 0, h => absurd h (Nat.not_lt_zero _)
  | c + 1, h => by
    rw [own_mem_sel]
    by_cases q : i < c
    · exact Or.inl (own_mem_of hv q)
    · obtain rfl : i = c := by omega
      exact Or.inr ⟨hv, rfl⟩
theorem own_D_step (p : Int64 → Bool) (K : Nat → Nat) (W : Nat → Int64) (c : Nat) : ∀ n, own_D p K W (c + 1) n = own_D p K W c n + if K c < n ∧ p (W c) = true ∧ ¬ W c ∈ own_sel K W (K c) c then 1 else 0
  | 0 => by simp [own_D]
  | n + 1 => by
    rw [own_D, own_D_step p K W c n, own_D, own_nd_sel]
    by_cases h1 : K c = n
    · subst h1
      rw [if_neg (fun z => absurd z.1 (by omega))]
      by_cases h2 : p (W c) = true ∧ ¬ W c ∈ own_sel K W (K c) c
      · rw [if_pos ⟨rfl, h2⟩, if_pos ⟨by omega, h2⟩]; omega
      · rw [if_neg (fun z => h2 z.2), if_neg (fun z => h2 z.2)]; omega
    · have e1 : (if K c = n ∧ p (W c) = true ∧ ¬ W c ∈ own_sel K W n c then 1 else 0) = 0 := if_neg (fun z => h1 z.1)
      rw [e1]
      by_cases h2 : K c < n ∧ p (W c) = true ∧ ¬ W c ∈ own_sel K W (K c) c
      · rw [if_pos h2, if_pos ⟨by omega, h2.2⟩]; omega
      · rw [if_neg h2, if_neg (fun z => h2 ⟨by omega, z.2⟩)]; omega
theorem own_D_zero {p : Int64 → Bool} {K : Nat → Nat} {W : Nat → Int64} {n : Nat} : ∀ {c}, (∀ i, i < c → p (W i) = false) → own_D p K W c n = 0
  | 0, _ => by
    induction n with
    | zero => rfl
    | succ n ih => rw [own_D, ih]; rfl
  | c + 1, h => by rw [own_D_step, own_D_zero fun i hi => h i (by omega), if_neg (fun z => by have q := h c (by omega); rw [q] at z; cases z.2.1)]
abbrev own_same (S R T : Nat → Int32) (i j : Nat) : Prop := S i = S j ∧ R i = R j ∧ T i = T j
def own_ey (S R T : Nat → Int32) (q : Int32) : Nat → Int32
  | 0 => 0
  | c + 1 => own_ey S R T q c + own_b (T c = q ∧ ∀ j, j < c → ¬ own_same S R T c j)
theorem own_y {K Tg : Nat → Nat} {g2 g3 S R T : Nat → Int32} {n q : Nat} (hn : n ≤ 4) (hq : q < 2147483648) : ∀ {c : Nat}, (∀ i, i < c → K i < n) → (∀ i, i < c → g3 i = Int32.ofNat (Tg i) ∧ Tg i < n) → (∀ i, i < c → S i = Int32.ofNat (K i) ∧ R i = g2 i ∧ T i = g3 i) →
    Int32.ofNat (own_D (fun w => own_el w == Int32.ofNat q) K (own_W g2 g3) c n) = own_ey S R T (Int32.ofNat q) c
  | 0, _, _, _ => by rw [own_D_zero fun i hi => absurd hi (Nat.not_lt_zero _)]; rfl
  | c + 1, hK, hT, hS => by
    rw [own_D_step, own_ey, ← own_y hn hq (fun i hi => hK i (by omega)) (fun i hi => hT i (by omega)) (fun i hi => hS i (by omega))]
    refine own_b_nat _ ?_
    have hc := hK c (by omega)
    obtain ⟨s1, s2, s3⟩ := hS c (by omega)
    have T31 : ∀ i, i < c + 1 → g3 i = Int32.ofNat (Tg i) ∧ Tg i < 2147483648 := fun i hi => ⟨(hT i hi).1, by have := (hT i hi).2; omega⟩
    have key : ∀ j, j < c → (own_same S R T c j ↔ (K j = K c ∧ own_W g2 g3 j = own_W g2 g3 c)) := fun j hj => by
      obtain ⟨u1, u2, u3⟩ := hS j (by omega)
      have kj := hK j (by omega)
      rw [own_W_eq (T31 j (by omega)) (T31 c (by omega))]
      unfold own_same
      rw [s1, s2, s3, u1, u2, u3, own_eq (by omega) (by omega)]
      constructor
      · rintro ⟨a, b, d⟩; exact ⟨a.symm, b.symm, d.symm⟩
      · rintro ⟨a, b, d⟩; exact ⟨a.symm, b.symm, d.symm⟩
    have pw : (own_el (own_W g2 g3 c) == Int32.ofNat q) = true ↔ T c = Int32.ofNat q := by rw [own_el_own, s3]; simp
    constructor
    · rintro ⟨-, h2, h3⟩
      refine ⟨pw.mp h2, fun j hj hs => h3 ?_⟩
      obtain ⟨a, b⟩ := (key j hj).mp hs
      rw [← b]; exact own_mem_of a hj
    · rintro ⟨h1, h2⟩
      refine ⟨hc, pw.mpr h1, fun m => ?_⟩
      obtain ⟨j, hj, a, b⟩ := own_sel_mem m
      exact h2 j hj ((key j hj).mpr ⟨a, b⟩)
theorem own_b0 {p : Prop} [Decidable p] : own_b p = 0 ↔ ¬ p := by
  unfold own_b
  by_cases h : p
  · rw [if_pos h]; exact ⟨fun q => absurd q (by decide), fun q => absurd h q⟩
  · rw [if_neg h]; exact ⟨fun _ => h, fun _ => rfl⟩
theorem own_a0 {P : Nat → Prop} : ∀ j, j < 0 → P j := fun j hj => absurd hj (Nat.not_lt_zero _)
theorem own_aS {P : Nat → Prop} {c : Nat} (h : ∀ j, j < c → P j) (q : P c) : ∀ j, j < c + 1 → P j := fun j hj => by
  by_cases r : j < c
  · exact h j r
  · obtain rfl : j = c := by omega
    exact q
theorem own_rem5 (x : Int32) : ∃ k : Nat, k ≤ 4 ∧ ((x.toUInt32 >>> ((2 : Int32) &&& 31).toUInt32).toInt32) % 5 = Int32.ofNat k := by
  have h0 : 0 ≤ ((x.toUInt32 >>> ((2 : Int32) &&& 31).toUInt32).toInt32).toInt := by
    rw [c_iushr x 2 2 (by decide) (by decide)]; omega
  have q := (c_irem ((x.toUInt32 >>> ((2 : Int32) &&& 31).toUInt32).toInt32) 5 5 (by decide)).1 h0
  have h1 : 0 ≤ (((x.toUInt32 >>> ((2 : Int32) &&& 31).toUInt32).toInt32) % 5).toInt := by rw [q]; omega
  refine ⟨_, ?_, own_ofn h1⟩
  have r : (((x.toUInt32 >>> ((2 : Int32) &&& 31).toUInt32).toInt32) % 5).toNatClampNeg = (((x.toUInt32 >>> ((2 : Int32) &&& 31).toUInt32).toInt32) % 5).toInt.toNat := rfl
  rw [r, q]; omega
theorem own_nn31 {x : Int32} (h : 0 ≤ x.toInt) : ∃ w : Nat, w < 2147483648 ∧ x = Int32.ofNat w := by
  refine ⟨_, ?_, own_ofn h⟩
  have q : x.toInt < 2147483648 := Int32.toInt_lt x
  have r : x.toNatClampNeg = x.toInt.toNat := rfl
  rw [r]; omega
theorem own_n' (x : Int32) : ∃ k : Nat, 1 ≤ k ∧ k ≤ 4 ∧ 1 + (x &&& 3) = Int32.ofNat k := by
  obtain ⟨k, h1, h2⟩ := own_and3 x
  exact ⟨1 + k, by omega, by omega, by rw [h2]; exact own_add 1 k⟩
theorem own_Dz {K Tg : Nat → Nat} {g2 g3 : Nat → Int32} {c n w : Nat} (hT : ∀ i, i < c → g3 i = Int32.ofNat (Tg i) ∧ Tg i < n) (hn : n ≤ 4) (hw : ¬ w < n) (hw2 : w < 2147483648) : own_D (fun z => own_el z == Int32.ofNat w) K (own_W g2 g3) c n = 0 :=
  own_D_zero fun i hi => by
    obtain ⟨h1, h2⟩ := hT i hi
    rw [own_el_own, h1]
    have : ¬ Int32.ofNat (Tg i) = Int32.ofNat w := fun q => by have := (own_eq (by omega) hw2).mp q; omega
    simpa using this
theorem own_ey_pos {S R T : Nat → Int32} {q : Int32} {c : Nat} (h : T c = q ∧ ∀ j, j < c → ¬ own_same S R T c j) : own_ey S R T q (c + 1) = own_ey S R T q c + 1 := by
  rw [own_ey, own_b, if_pos h]
theorem own_ey_neg {S R T : Nat → Int32} {q : Int32} {c : Nat} (h : ¬ (T c = q ∧ ∀ j, j < c → ¬ own_same S R T c j)) : own_ey S R T q (c + 1) = own_ey S R T q c := by
  rw [own_ey, own_b, if_neg h]; exact Int32.add_zero _

theorem d13_0 : decode prog_15_method_6_code 0 = .ok (.iload_n 1, 1) := by decide +kernel
theorem d13_1 : decode prog_15_method_6_code 1 = .ok (.aload_n 0, 1) := by decide +kernel
theorem d13_2 : decode prog_15_method_6_code 2 = .ok (.getfield 50, 3) := by decide +kernel
theorem d13_5 : decode prog_15_method_6_code 5 = .ok (.arraylength, 1) := by decide +kernel
theorem d13_6 : decode prog_15_method_6_code 6 = .ok (.iconst 1, 1) := by decide +kernel
theorem d13_7 : decode prog_15_method_6_code 7 = .ok (.isub, 1) := by decide +kernel
theorem d13_8 : decode prog_15_method_6_code 8 = .ok (.if_icmp .ge 21, 3) := by decide +kernel
theorem d13_11 : decode prog_15_method_6_code 11 = .ok (.aload_n 0, 1) := by decide +kernel
theorem d13_12 : decode prog_15_method_6_code 12 = .ok (.getfield 50, 3) := by decide +kernel
theorem d13_15 : decode prog_15_method_6_code 15 = .ok (.iload_n 1, 1) := by decide +kernel
theorem d13_16 : decode prog_15_method_6_code 16 = .ok (.iconst 1, 1) := by decide +kernel
theorem d13_17 : decode prog_15_method_6_code 17 = .ok (.iadd, 1) := by decide +kernel
theorem d13_18 : decode prog_15_method_6_code 18 = .ok (.iaload, 1) := by decide +kernel
theorem d13_19 : decode prog_15_method_6_code 19 = .ok (.aload_n 0, 1) := by decide +kernel
theorem d13_20 : decode prog_15_method_6_code 20 = .ok (.getfield 50, 3) := by decide +kernel
theorem d13_23 : decode prog_15_method_6_code 23 = .ok (.iload_n 1, 1) := by decide +kernel
theorem d13_24 : decode prog_15_method_6_code 24 = .ok (.iaload, 1) := by decide +kernel
theorem d13_25 : decode prog_15_method_6_code 25 = .ok (.isub, 1) := by decide +kernel
theorem d13_26 : decode prog_15_method_6_code 26 = .ok (.goto 4, 3) := by decide +kernel
theorem d13_29 : decode prog_15_method_6_code 29 = .ok (.iconst 0, 1) := by decide +kernel
theorem d13_30 : decode prog_15_method_6_code 30 = .ok (.ireturn, 1) := by decide +kernel
theorem ef_13_00 (m : MethodId) (x0 : Addr) (x1 : Int32) : entryFrame m #[(.ref x0), (.int x1)] 2 = mkF m 0 #[.val (.ref x0), .val (.int x1)] [] := by first | (simp [entryFrame, mkF, argsToLocals, Value.category]; done) | rfl
def Q13 (Z : State) (d0 : Addr) (u0 : Int32) (bt : Addr) (cc : Nat) (nw : Nat) (K : Nat → Nat) (Tg : Nat → Nat) (fa2 : Nat → Int32) (fa3 : Nat → Int32) (FF : Nat → Nat) (w : Nat) (h0 : Heap) (n0 : Nat) (v : Option Value) (h : Heap) (L : List Loc) : Prop := v = some (.int (Int32.ofNat (own_D (fun z => own_el z == Int32.ofNat w) K (own_W fa2 fa3) cc nw))) ∧ Fr n0 L ∧ h = h0
set_option maxRecDepth 65536 in
set_option maxHeartbeats 40000000 in
theorem rm13 (l : Launch) (Z : State) (a0 : Array Value) (hw : ∀ d ∈ tables_1, d.before a0 Z = true) (ws : List Jvm.Cond) (d0 : Addr) (u0 : Int32) (bt : Addr) (cc : Nat) (nw : Nat) (K : Nat → Nat) (Tg : Nat → Nat) (fa2 : Nat → Int32) (fa3 : Nat → Int32) (FF : Nat → Nat) (w : Nat) (h0 : Heap) (n0 : Nat) (Z0 : n0 ≤ h0.size) (hu0 : u0 = Int32.ofNat w) (F_b : Fld Z h0 d0 "com/example/erotema/erotema/model/ToldEdges" "byTargetStart" "[I" (.ref bt)) (B_b : own_IA .int Z h0 bt (Int32.ofNat (nw + 1)) (fun v => Int32.ofNat (FF v))) (hnw : nw ≤ 4) (hw31 : w < 2147483648) (hT : ∀ i, i < cc → fa3 i = Int32.ofNat (Tg i) ∧ Tg i < nw) (f4 : ∀ v, v ≤ nw → FF v ≤ 4) (fq : ∀ q, q < nw → FF (q + 1) = FF q + own_D (fun w => own_el w == Int32.ofNat q) K (own_W fa2 fa3) cc nw) :
    MetFree l (⟨"com/example/erotema/erotema/model/ToldEdges", "countTo", "(I)I"⟩ : MethodName) (head1 (Jvm.Cond.code (⟨"com/example/erotema/erotema/model/ToldEdges", "countTo", "(I)I"⟩ : MethodName) prog_15_method_6_code 2 (some .int) :: ws) ({ frames := 0, cells := 0, slots := 0, locals := 0 } : Room)) (fun a U => a = #[(.ref d0), (.int u0)] ∧ Z.Warmed39 U.vm ∧ U.heap = h0) (fun _ _ _ _ _ => True) (fun _ U o U' => ∃ v L, o = .returned v ∧ Q13 Z d0 u0 bt cc nw K Tg fa2 fa3 FF w h0 n0 v U'.heap L ∧ FrameEnd U o U' L ({ frames := 0, cells := 0, slots := 0, locals := 0 } : Room).cells ({ frames := 0, cells := 0, slots := 0, locals := 0 } : Room).slots) := by
  refine MetFree.of_bodySF (plainFor_of_name pn_com_example_erotema_erotema_model_ToldEdges) hisR ?_
  intro p e s m args below meth c s₁ Bd hml0 hP hK
  obtain ⟨rfl, hZ, hh⟩ := hP
  have hx := Bd.exec
  have hby := Bd.bytes
  have hlk : meth.locks = false := Bd.notSynchronized
  have hml : c.maxLocals = 2 := hml0
  have hown : s.vm.findClass "com/example/erotema/erotema/model/ToldEdges" = some m.cls := findClass_of_methodNamed Bd.named
  have hnm := (name_of_methodNamed Bd.named Bd.method).1
  have X0 : Stand p l e ({ frames := 0, cells := 0, slots := 0, locals := 0 } : Room) s m #[(.ref d0), (.int u0)] below meth c s₁ [] 0 0 := Stand.of_body Bd
  have e0 : s₁.heap = h0 := by rw [← hh, Bd.state]; rfl
  have N0 := Fr.nil n0
  have K0 : Keep h0 h0 [] := Keep.refl h0 _
  show Wp p e below (Out s (Q13 Z d0 u0 bt cc nw K Tg fa2 fa3 FF w h0 n0) ({ frames := 0, cells := 0, slots := 0, locals := 0 } : Room).cells ({ frames := 0, cells := 0, slots := 0, locals := 0 } : Room).slots) (s₁.setTop (entryFrame m #[(.ref d0), (.int u0)] 2))
  rw [ef_13_00]
  subst hu0
  show Wp p e below _ (s₁.setTop (mkF m 0 #[.val (.ref d0), .val (.int (Int32.ofNat w))] []))
  refine Wp.step (fun t k => XS.iloadN X0.here hx rfl (hb hby d13_0) rfl k) ?_
  show Wp p e below _ (s₁.setTop (mkF m 1 #[.val (.ref d0), .val (.int (Int32.ofNat w))] [(.int (Int32.ofNat w))]))
  refine Wp.step (fun t k => XS.aloadN X0.here hx rfl (hb hby d13_1) rfl rfl k) ?_
  show Wp p e below _ (s₁.setTop (mkF m 2 #[.val (.ref d0), .val (.int (Int32.ofNat w))] [(.ref d0), (.int (Int32.ofNat w))]))
  obtain ⟨T1, X1, e1, st1⟩ := getF X0 hx hZ hown (host := "") (Or.inl (hw _ (List.mem_of_getElem? (i := 71) rfl))) Via.refl e0 F_b (g := (mkF m 2 #[.val (.ref d0), .val (.int (Int32.ofNat w))] [(.ref d0), (.int (Int32.ofNat w))])) rfl rfl (hb hby d13_2)
  refine Wp.step st1 ?_
  show Wp p e below _ (T1.setTop (mkF m 5 #[.val (.ref d0), .val (.int (Int32.ofNat w))] [(.ref bt), (.int (Int32.ofNat w))]))
  obtain ⟨cl2, Ar2, Sz2, Nn2, -⟩ := id B_b
  refine Wp.step (X1.arraylength hx (by rw [e1]; exact Ar2.1) (State.isArrayOf_alike hZ.alike Ar2.2.1) (g := (mkF m 5 #[.val (.ref d0), .val (.int (Int32.ofNat w))] [(.ref bt), (.int (Int32.ofNat w))])) rfl rfl (hb hby d13_5)) ?_
  rw [len_of Sz2 Nn2]
  show Wp p e below _ (T1.setTop (mkF m 6 #[.val (.ref d0), .val (.int (Int32.ofNat w))] [(.int (Int32.ofNat (nw + 1))), (.int (Int32.ofNat w))]))
  refine Wp.step (fun t k => XS.iconst X1.here hx rfl (hb hby d13_6) k) ?_
  show Wp p e below _ (T1.setTop (mkF m 7 #[.val (.ref d0), .val (.int (Int32.ofNat w))] [(.int (1 : Int32)), (.int (Int32.ofNat (nw + 1))), (.int (Int32.ofNat w))]))
  refine Wp.step (fun t k => XS.isub X1.here hx rfl (hb hby d13_7) rfl k) ?_
  show Wp p e below _ (T1.setTop (mkF m 8 #[.val (.ref d0), .val (.int (Int32.ofNat w))] [(.int ((Int32.ofNat (nw + 1)) - (1 : Int32))), (.int (Int32.ofNat w))]))
  rw [show ((Int32.ofNat (nw + 1)) - (1 : Int32)) = (Int32.ofNat nw) from own_pred']
  by_cases hc3 : (Int32.ofNat w) < (Int32.ofNat nw)
  · have hc3n : w < nw := (own_lt (by omega) (by omega)).mp hc3
    have hD := fq w hc3n
    have hF := f4 (w + 1) (by omega)
    refine Wp.step (fun t k => XS.icmpNo X1.here hx rfl (hb hby d13_8) rfl (tlt hc3).2.1 k) ?_
    show Wp p e below _ (T1.setTop (mkF m 11 #[.val (.ref d0), .val (.int (Int32.ofNat w))] []))
    refine Wp.step (fun t k => XS.aloadN X1.here hx rfl (hb hby d13_11) rfl rfl k) ?_
    show Wp p e below _ (T1.setTop (mkF m 12 #[.val (.ref d0), .val (.int (Int32.ofNat w))] [(.ref d0)]))
    obtain ⟨T4, X4, e4, st4⟩ := getF X1 hx hZ hown (host := "") (Or.inl (hw _ (List.mem_of_getElem? (i := 71) rfl))) Via.refl e1 F_b (g := (mkF m 12 #[.val (.ref d0), .val (.int (Int32.ofNat w))] [(.ref d0)])) rfl rfl (hb hby d13_12)
    refine Wp.step st4 ?_
    show Wp p e below _ (T4.setTop (mkF m 15 #[.val (.ref d0), .val (.int (Int32.ofNat w))] [(.ref bt)]))
    refine Wp.step (fun t k => XS.iloadN X4.here hx rfl (hb hby d13_15) rfl k) ?_
    show Wp p e below _ (T4.setTop (mkF m 16 #[.val (.ref d0), .val (.int (Int32.ofNat w))] [(.int (Int32.ofNat w)), (.ref bt)]))
    refine Wp.step (fun t k => XS.iconst X4.here hx rfl (hb hby d13_16) k) ?_
    show Wp p e below _ (T4.setTop (mkF m 17 #[.val (.ref d0), .val (.int (Int32.ofNat w))] [(.int (1 : Int32)), (.int (Int32.ofNat w)), (.ref bt)]))
    refine Wp.step (fun t k => XS.iadd X4.here hx rfl (hb hby d13_17) rfl k) ?_
    show Wp p e below _ (T4.setTop (mkF m 18 #[.val (.ref d0), .val (.int (Int32.ofNat w))] [(.int ((Int32.ofNat w) + (1 : Int32))), (.ref bt)]))
    rw [show ((Int32.ofNat w) + (1 : Int32)) = (Int32.ofNat (w + 1)) from own_succ _]
    obtain ⟨cl5, Ar5, Sz5, Nn5, El5⟩ := id B_b
    have hin5 : ¬ ((Int32.ofNat (w + 1)) < 0 ∨ cl5.slots.size ≤ ((Int32.ofNat (w + 1))).toNatClampNeg) := inb_of Sz5 (own_inb (by omega) (by omega))
    have hat5 : cl5.slots[((Int32.ofNat (w + 1))).toNatClampNeg]? = some (.int ((fun v => Int32.ofNat (FF v)) ((Int32.ofNat (w + 1))).toNatClampNeg)) := (El5 _ (by have q := Nat.lt_of_not_le fun q => hin5 (Or.inr q); rw [Sz5] at q; exact q)).1
    rw [show ((fun v => Int32.ofNat (FF v)) ((Int32.ofNat (w + 1))).toNatClampNeg) = ((fun v => Int32.ofNat (FF v)) (w + 1)) from congrArg (fun v => Int32.ofNat (FF v)) (own_nat (by omega))] at hat5
    rw [show ((fun v => Int32.ofNat (FF v)) (w + 1)) = (Int32.ofNat (FF (w + 1))) from rfl] at hat5
    refine Wp.step (X4.iaload hx (j := (Int32.ofNat (w + 1))) (v := (.int (Int32.ofNat (FF (w + 1))))) (by rw [e4]; exact Ar5.1) (State.isArrayOf_alike hZ.alike Ar5.2.1) Ar5.2.2 hin5 hat5 (g := (mkF m 18 #[.val (.ref d0), .val (.int (Int32.ofNat w))] [(.int (Int32.ofNat (w + 1))), (.ref bt)])) rfl rfl (hb hby d13_18)) ?_
    show Wp p e below _ (T4.setTop (mkF m 19 #[.val (.ref d0), .val (.int (Int32.ofNat w))] [(.int (Int32.ofNat (FF (w + 1))))]))
    refine Wp.step (fun t k => XS.aloadN X4.here hx rfl (hb hby d13_19) rfl rfl k) ?_
    show Wp p e below _ (T4.setTop (mkF m 20 #[.val (.ref d0), .val (.int (Int32.ofNat w))] [(.ref d0), (.int (Int32.ofNat (FF (w + 1))))]))
    obtain ⟨T6, X6, e6, st6⟩ := getF X4 hx hZ hown (host := "") (Or.inl (hw _ (List.mem_of_getElem? (i := 71) rfl))) Via.refl e4 F_b (g := (mkF m 20 #[.val (.ref d0), .val (.int (Int32.ofNat w))] [(.ref d0), (.int (Int32.ofNat (FF (w + 1))))])) rfl rfl (hb hby d13_20)
    refine Wp.step st6 ?_
    show Wp p e below _ (T6.setTop (mkF m 23 #[.val (.ref d0), .val (.int (Int32.ofNat w))] [(.ref bt), (.int (Int32.ofNat (FF (w + 1))))]))
    refine Wp.step (fun t k => XS.iloadN X6.here hx rfl (hb hby d13_23) rfl k) ?_
    show Wp p e below _ (T6.setTop (mkF m 24 #[.val (.ref d0), .val (.int (Int32.ofNat w))] [(.int (Int32.ofNat w)), (.ref bt), (.int (Int32.ofNat (FF (w + 1))))]))
    obtain ⟨cl7, Ar7, Sz7, Nn7, El7⟩ := id B_b
    have hin7 : ¬ ((Int32.ofNat w) < 0 ∨ cl7.slots.size ≤ ((Int32.ofNat w)).toNatClampNeg) := inb_of Sz7 (own_inb (by omega) (by omega))
    have hat7 : cl7.slots[((Int32.ofNat w)).toNatClampNeg]? = some (.int ((fun v => Int32.ofNat (FF v)) ((Int32.ofNat w)).toNatClampNeg)) := (El7 _ (by have q := Nat.lt_of_not_le fun q => hin7 (Or.inr q); rw [Sz7] at q; exact q)).1
    rw [show ((fun v => Int32.ofNat (FF v)) ((Int32.ofNat w)).toNatClampNeg) = ((fun v => Int32.ofNat (FF v)) w) from congrArg (fun v => Int32.ofNat (FF v)) (own_nat (by omega))] at hat7
    rw [show ((fun v => Int32.ofNat (FF v)) w) = (Int32.ofNat (FF w)) from rfl] at hat7
    refine Wp.step (X6.iaload hx (j := (Int32.ofNat w)) (v := (.int (Int32.ofNat (FF w)))) (by rw [e6]; exact Ar7.1) (State.isArrayOf_alike hZ.alike Ar7.2.1) Ar7.2.2 hin7 hat7 (g := (mkF m 24 #[.val (.ref d0), .val (.int (Int32.ofNat w))] [(.int (Int32.ofNat w)), (.ref bt), (.int (Int32.ofNat (FF (w + 1))))])) rfl rfl (hb hby d13_24)) ?_
    show Wp p e below _ (T6.setTop (mkF m 25 #[.val (.ref d0), .val (.int (Int32.ofNat w))] [(.int (Int32.ofNat (FF w))), (.int (Int32.ofNat (FF (w + 1))))]))
    refine Wp.step (fun t k => XS.isub X6.here hx rfl (hb hby d13_25) rfl k) ?_
    show Wp p e below _ (T6.setTop (mkF m 26 #[.val (.ref d0), .val (.int (Int32.ofNat w))] [(.int ((Int32.ofNat (FF (w + 1))) - (Int32.ofNat (FF w))))]))
    rw [show ((Int32.ofNat (FF (w + 1))) - (Int32.ofNat (FF w))) = (Int32.ofNat ((FF (w + 1)) - (FF w))) from own_sub (by omega)]
    refine Wp.step (fun t k => XS.goto X6.here hx rfl (pc0 := 26) (pc' := 30) rfl (hb hby d13_26) (by decide) (by decide) k) ?_
    show Wp p e below _ (T6.setTop (mkF m 30 #[.val (.ref d0), .val (.int (Int32.ofNat w))] [(.int (Int32.ofNat ((FF (w + 1)) - (FF w))))]))
    refine Wp.retI X6 hx Bd.returns (hb hby d13_30) hlk ?_ (by decide) (by decide)
    show Q13 Z d0 (Int32.ofNat w) bt cc nw K Tg fa2 fa3 FF w h0 n0 (some (.int (Int32.ofNat ((FF (w + 1)) - (FF w))))) T6.heap _
    rw [e6]
    exact ⟨by rw [hD, Nat.add_sub_cancel_left], N0, rfl⟩
  · have hc3n : ¬ (w < nw) := fun q => hc3 ((own_lt (by omega) (by omega)).mpr q)
    refine Wp.step (fun t k => XS.icmpYes X1.here hx rfl (pc0 := 8) (pc' := 29) rfl (hb hby d13_8) rfl (flt hc3).2.1 (by decide) (by decide) k) ?_
    show Wp p e below _ (T1.setTop (mkF m 29 #[.val (.ref d0), .val (.int (Int32.ofNat w))] []))
    refine Wp.step (fun t k => XS.iconst X1.here hx rfl (hb hby d13_29) k) ?_
    show Wp p e below _ (T1.setTop (mkF m 30 #[.val (.ref d0), .val (.int (Int32.ofNat w))] [(.int (0 : Int32))]))
    refine Wp.retI X1 hx Bd.returns (hb hby d13_30) hlk ?_ (by decide) (by decide)
    show Q13 Z d0 (Int32.ofNat w) bt cc nw K Tg fa2 fa3 FF w h0 n0 (some (.int (0 : Int32))) T1.heap _
    rw [e1]
    exact ⟨by rw [own_Dz hT hnw hc3n hw31]; rfl, N0, rfl⟩
theorem d17_0 : decode method_2_code 0 = .ok (.aload_n 0, 1) := by decide +kernel
theorem d17_1 : decode method_2_code 1 = .ok (.iload_n 3, 1) := by decide +kernel
theorem d17_2 : decode method_2_code 2 = .ok (.iaload, 1) := by decide +kernel
theorem d17_3 : decode method_2_code 3 = .ok (.aload_n 0, 1) := by decide +kernel
theorem d17_4 : decode method_2_code 4 = .ok (.iload 4, 2) := by decide +kernel
theorem d17_6 : decode method_2_code 6 = .ok (.iaload, 1) := by decide +kernel
theorem d17_7 : decode method_2_code 7 = .ok (.if_icmp .ne 27, 3) := by decide +kernel
theorem d17_10 : decode method_2_code 10 = .ok (.aload_n 1, 1) := by decide +kernel
theorem d17_11 : decode method_2_code 11 = .ok (.iload_n 3, 1) := by decide +kernel
theorem d17_12 : decode method_2_code 12 = .ok (.iaload, 1) := by decide +kernel
theorem d17_13 : decode method_2_code 13 = .ok (.aload_n 1, 1) := by decide +kernel
theorem d17_14 : decode method_2_code 14 = .ok (.iload 4, 2) := by decide +kernel
theorem d17_16 : decode method_2_code 16 = .ok (.iaload, 1) := by decide +kernel
theorem d17_17 : decode method_2_code 17 = .ok (.if_icmp .ne 17, 3) := by decide +kernel
theorem d17_20 : decode method_2_code 20 = .ok (.aload_n 2, 1) := by decide +kernel
theorem d17_21 : decode method_2_code 21 = .ok (.iload_n 3, 1) := by decide +kernel
theorem d17_22 : decode method_2_code 22 = .ok (.iaload, 1) := by decide +kernel
theorem d17_23 : decode method_2_code 23 = .ok (.aload_n 2, 1) := by decide +kernel
theorem d17_24 : decode method_2_code 24 = .ok (.iload 4, 2) := by decide +kernel
theorem d17_26 : decode method_2_code 26 = .ok (.iaload, 1) := by decide +kernel
theorem d17_27 : decode method_2_code 27 = .ok (.if_icmp .ne 7, 3) := by decide +kernel
theorem d17_30 : decode method_2_code 30 = .ok (.iconst 1, 1) := by decide +kernel
theorem d17_31 : decode method_2_code 31 = .ok (.goto 4, 3) := by decide +kernel
theorem d17_34 : decode method_2_code 34 = .ok (.iconst 0, 1) := by decide +kernel
theorem d17_35 : decode method_2_code 35 = .ok (.ireturn, 1) := by decide +kernel
theorem pn_com_example_erotema_erotema_model_ToldEdgesCountToPinLaw : plainName "com/example/erotema/erotema/model/ToldEdgesCountToPinLaw" = true := by first | (simp [plainName, overriddenIn]; done) | decide +kernel
theorem ef_17_00000 (m : MethodId) (x0 : Addr) (x1 : Addr) (x2 : Addr) (x3 : Int32) (x4 : Int32) : entryFrame m #[(.ref x0), (.ref x1), (.ref x2), (.int x3), (.int x4)] 5 = mkF m 0 #[.val (.ref x0), .val (.ref x1), .val (.ref x2), .val (.int x3), .val (.int x4)] [] := by first | (simp [entryFrame, mkF, argsToLocals, Value.category]; done) | rfl
def Q17 (Z : State) (d1 : Addr) (d2 : Addr) (d3 : Addr) (u0 : Int32) (u1 : Int32) (gs : Nat → Int32) (gp : Nat → Int32) (gt : Nat → Int32) (i : Nat) (j : Nat) (h0 : Heap) (n0 : Nat) (v : Option Value) (h : Heap) (L : List Loc) : Prop := v = some (.int (own_b (own_same gs gp gt i j))) ∧ Fr n0 L ∧ h = h0
set_option maxRecDepth 65536 in
set_option maxHeartbeats 40000000 in
theorem rm17 (l : Launch) (Z : State) (a0 : Array Value) (hw : ∀ d ∈ tables_1, d.before a0 Z = true) (ws : List Jvm.Cond) (d1 : Addr) (d2 : Addr) (d3 : Addr) (u0 : Int32) (u1 : Int32) (gs : Nat → Int32) (gp : Nat → Int32) (gt : Nat → Int32) (i : Nat) (j : Nat) (h0 : Heap) (n0 : Nat) (Z0 : n0 ≤ h0.size) (hu0 : u0 = Int32.ofNat i) (hu1 : u1 = Int32.ofNat j) (B_d1 : own_IA .int Z h0 d1 (Int32.ofNat 4) gs) (B_d2 : own_IA .int Z h0 d2 (Int32.ofNat 4) gp) (B_d3 : own_IA .int Z h0 d3 (Int32.ofNat 4) gt) (hi : i < 4) (hj : j < 4) :
    MetFree l (⟨"com/example/erotema/erotema/model/ToldEdgesCountToPinLaw", "same", "([I[I[III)Z"⟩ : MethodName) (head1 (Jvm.Cond.code (⟨"com/example/erotema/erotema/model/ToldEdgesCountToPinLaw", "same", "([I[I[III)Z"⟩ : MethodName) method_2_code 5 (some .boolean) :: ws) ({ frames := 0, cells := 0, slots := 0, locals := 0 } : Room)) (fun a U => a = #[(.ref d1), (.ref d2), (.ref d3), (.int u0), (.int u1)] ∧ Z.Warmed39 U.vm ∧ U.heap = h0) (fun _ _ _ _ _ => True) (fun _ U o U' => ∃ v L, o = .returned v ∧ Q17 Z d1 d2 d3 u0 u1 gs gp gt i j h0 n0 v U'.heap L ∧ FrameEnd U o U' L ({ frames := 0, cells := 0, slots := 0, locals := 0 } : Room).cells ({ frames := 0, cells := 0, slots := 0, locals := 0 } : Room).slots) := by
  refine MetFree.of_bodySF (plainFor_of_name pn_com_example_erotema_erotema_model_ToldEdgesCountToPinLaw) hisR ?_
  intro p e s m args below meth c s₁ Bd hml0 hP hK
  obtain ⟨rfl, hZ, hh⟩ := hP
  have hx := Bd.exec
  have hby := Bd.bytes
  have hlk : meth.locks = false := Bd.notSynchronized
  have hml : c.maxLocals = 5 := hml0
  have hown : s.vm.findClass "com/example/erotema/erotema/model/ToldEdgesCountToPinLaw" = some m.cls := findClass_of_methodNamed Bd.named
  have hnm := (name_of_methodNamed Bd.named Bd.method).1
  have X0 : Stand p l e ({ frames := 0, cells := 0, slots := 0, locals := 0 } : Room) s m #[(.ref d1), (.ref d2), (.ref d3), (.int u0), (.int u1)] below meth c s₁ [] 0 0 := Stand.of_body Bd
  have e0 : s₁.heap = h0 := by rw [← hh, Bd.state]; rfl
  have N0 := Fr.nil n0
  have K0 : Keep h0 h0 [] := Keep.refl h0 _
  show Wp p e below (Out s (Q17 Z d1 d2 d3 u0 u1 gs gp gt i j h0 n0) ({ frames := 0, cells := 0, slots := 0, locals := 0 } : Room).cells ({ frames := 0, cells := 0, slots := 0, locals := 0 } : Room).slots) (s₁.setTop (entryFrame m #[(.ref d1), (.ref d2), (.ref d3), (.int u0), (.int u1)] 5))
  rw [ef_17_00000]
  subst hu0 hu1
  show Wp p e below _ (s₁.setTop (mkF m 0 #[.val (.ref d1), .val (.ref d2), .val (.ref d3), .val (.int (Int32.ofNat i)), .val (.int (Int32.ofNat j))] []))
  refine Wp.step (fun t k => XS.aloadN X0.here hx rfl (hb hby d17_0) rfl rfl k) ?_
  show Wp p e below _ (s₁.setTop (mkF m 1 #[.val (.ref d1), .val (.ref d2), .val (.ref d3), .val (.int (Int32.ofNat i)), .val (.int (Int32.ofNat j))] [(.ref d1)]))
  refine Wp.step (fun t k => XS.iloadN X0.here hx rfl (hb hby d17_1) rfl k) ?_
  show Wp p e below _ (s₁.setTop (mkF m 2 #[.val (.ref d1), .val (.ref d2), .val (.ref d3), .val (.int (Int32.ofNat i)), .val (.int (Int32.ofNat j))] [(.int (Int32.ofNat i)), (.ref d1)]))
  obtain ⟨cl1, Ar1, Sz1, Nn1, El1⟩ := id B_d1
  have hin1 : ¬ ((Int32.ofNat i) < 0 ∨ cl1.slots.size ≤ ((Int32.ofNat i)).toNatClampNeg) := inb_of Sz1 (own_inb (by omega) (by omega))
  have hat1 : cl1.slots[((Int32.ofNat i)).toNatClampNeg]? = some (.int (gs ((Int32.ofNat i)).toNatClampNeg)) := (El1 _ (by have q := Nat.lt_of_not_le fun q => hin1 (Or.inr q); rw [Sz1] at q; exact q)).1
  rw [show (gs ((Int32.ofNat i)).toNatClampNeg) = (gs i) from congrArg gs (own_nat (by omega))] at hat1
  refine Wp.step (X0.iaload hx (j := (Int32.ofNat i)) (v := (.int (gs i))) (by rw [e0]; exact Ar1.1) (State.isArrayOf_alike hZ.alike Ar1.2.1) Ar1.2.2 hin1 hat1 (g := (mkF m 2 #[.val (.ref d1), .val (.ref d2), .val (.ref d3), .val (.int (Int32.ofNat i)), .val (.int (Int32.ofNat j))] [(.int (Int32.ofNat i)), (.ref d1)])) rfl rfl (hb hby d17_2)) ?_
  show Wp p e below _ (s₁.setTop (mkF m 3 #[.val (.ref d1), .val (.ref d2), .val (.ref d3), .val (.int (Int32.ofNat i)), .val (.int (Int32.ofNat j))] [(.int (gs i))]))
  refine Wp.step (fun t k => XS.aloadN X0.here hx rfl (hb hby d17_3) rfl rfl k) ?_
  show Wp p e below _ (s₁.setTop (mkF m 4 #[.val (.ref d1), .val (.ref d2), .val (.ref d3), .val (.int (Int32.ofNat i)), .val (.int (Int32.ofNat j))] [(.ref d1), (.int (gs i))]))
  refine Wp.step (fun t k => XS.iload X0.here hx rfl (hb hby d17_4) rfl k) ?_
  show Wp p e below _ (s₁.setTop (mkF m 6 #[.val (.ref d1), .val (.ref d2), .val (.ref d3), .val (.int (Int32.ofNat i)), .val (.int (Int32.ofNat j))] [(.int (Int32.ofNat j)), (.ref d1), (.int (gs i))]))
  obtain ⟨cl2, Ar2, Sz2, Nn2, El2⟩ := id B_d1
  have hin2 : ¬ ((Int32.ofNat j) < 0 ∨ cl2.slots.size ≤ ((Int32.ofNat j)).toNatClampNeg) := inb_of Sz2 (own_inb (by omega) (by omega))
  have hat2 : cl2.slots[((Int32.ofNat j)).toNatClampNeg]? = some (.int (gs ((Int32.ofNat j)).toNatClampNeg)) := (El2 _ (by have q := Nat.lt_of_not_le fun q => hin2 (Or.inr q); rw [Sz2] at q; exact q)).1
  rw [show (gs ((Int32.ofNat j)).toNatClampNeg) = (gs j) from congrArg gs (own_nat (by omega))] at hat2
  refine Wp.step (X0.iaload hx (j := (Int32.ofNat j)) (v := (.int (gs j))) (by rw [e0]; exact Ar2.1) (State.isArrayOf_alike hZ.alike Ar2.2.1) Ar2.2.2 hin2 hat2 (g := (mkF m 6 #[.val (.ref d1), .val (.ref d2), .val (.ref d3), .val (.int (Int32.ofNat i)), .val (.int (Int32.ofNat j))] [(.int (Int32.ofNat j)), (.ref d1), (.int (gs i))])) rfl rfl (hb hby d17_6)) ?_
  show Wp p e below _ (s₁.setTop (mkF m 7 #[.val (.ref d1), .val (.ref d2), .val (.ref d3), .val (.int (Int32.ofNat i)), .val (.int (Int32.ofNat j))] [(.int (gs j)), (.int (gs i))]))
  by_cases hc3 : (gs i) = (gs j)
  · refine Wp.step (fun t k => XS.icmpNo X0.here hx rfl (hb hby d17_7) rfl (teq hc3).2 k) ?_
    show Wp p e below _ (s₁.setTop (mkF m 10 #[.val (.ref d1), .val (.ref d2), .val (.ref d3), .val (.int (Int32.ofNat i)), .val (.int (Int32.ofNat j))] []))
    refine Wp.step (fun t k => XS.aloadN X0.here hx rfl (hb hby d17_10) rfl rfl k) ?_
    show Wp p e below _ (s₁.setTop (mkF m 11 #[.val (.ref d1), .val (.ref d2), .val (.ref d3), .val (.int (Int32.ofNat i)), .val (.int (Int32.ofNat j))] [(.ref d2)]))
    refine Wp.step (fun t k => XS.iloadN X0.here hx rfl (hb hby d17_11) rfl k) ?_
    show Wp p e below _ (s₁.setTop (mkF m 12 #[.val (.ref d1), .val (.ref d2), .val (.ref d3), .val (.int (Int32.ofNat i)), .val (.int (Int32.ofNat j))] [(.int (Int32.ofNat i)), (.ref d2)]))
    obtain ⟨cl4, Ar4, Sz4, Nn4, El4⟩ := id B_d2
    have hin4 : ¬ ((Int32.ofNat i) < 0 ∨ cl4.slots.size ≤ ((Int32.ofNat i)).toNatClampNeg) := inb_of Sz4 (own_inb (by omega) (by omega))
    have hat4 : cl4.slots[((Int32.ofNat i)).toNatClampNeg]? = some (.int (gp ((Int32.ofNat i)).toNatClampNeg)) := (El4 _ (by have q := Nat.lt_of_not_le fun q => hin4 (Or.inr q); rw [Sz4] at q; exact q)).1
    rw [show (gp ((Int32.ofNat i)).toNatClampNeg) = (gp i) from congrArg gp (own_nat (by omega))] at hat4
    refine Wp.step (X0.iaload hx (j := (Int32.ofNat i)) (v := (.int (gp i))) (by rw [e0]; exact Ar4.1) (State.isArrayOf_alike hZ.alike Ar4.2.1) Ar4.2.2 hin4 hat4 (g := (mkF m 12 #[.val (.ref d1), .val (.ref d2), .val (.ref d3), .val (.int (Int32.ofNat i)), .val (.int (Int32.ofNat j))] [(.int (Int32.ofNat i)), (.ref d2)])) rfl rfl (hb hby d17_12)) ?_
    show Wp p e below _ (s₁.setTop (mkF m 13 #[.val (.ref d1), .val (.ref d2), .val (.ref d3), .val (.int (Int32.ofNat i)), .val (.int (Int32.ofNat j))] [(.int (gp i))]))
    refine Wp.step (fun t k => XS.aloadN X0.here hx rfl (hb hby d17_13) rfl rfl k) ?_
    show Wp p e below _ (s₁.setTop (mkF m 14 #[.val (.ref d1), .val (.ref d2), .val (.ref d3), .val (.int (Int32.ofNat i)), .val (.int (Int32.ofNat j))] [(.ref d2), (.int (gp i))]))
    refine Wp.step (fun t k => XS.iload X0.here hx rfl (hb hby d17_14) rfl k) ?_
    show Wp p e below _ (s₁.setTop (mkF m 16 #[.val (.ref d1), .val (.ref d2), .val (.ref d3), .val (.int (Int32.ofNat i)), .val (.int (Int32.ofNat j))] [(.int (Int32.ofNat j)), (.ref d2), (.int (gp i))]))
    obtain ⟨cl5, Ar5, Sz5, Nn5, El5⟩ := id B_d2
    have hin5 : ¬ ((Int32.ofNat j) < 0 ∨ cl5.slots.size ≤ ((Int32.ofNat j)).toNatClampNeg) := inb_of Sz5 (own_inb (by omega) (by omega))
    have hat5 : cl5.slots[((Int32.ofNat j)).toNatClampNeg]? = some (.int (gp ((Int32.ofNat j)).toNatClampNeg)) := (El5 _ (by have q := Nat.lt_of_not_le fun q => hin5 (Or.inr q); rw [Sz5] at q; exact q)).1
    rw [show (gp ((Int32.ofNat j)).toNatClampNeg) = (gp j) from congrArg gp (own_nat (by omega))] at hat5
    refine Wp.step (X0.iaload hx (j := (Int32.ofNat j)) (v := (.int (gp j))) (by rw [e0]; exact Ar5.1) (State.isArrayOf_alike hZ.alike Ar5.2.1) Ar5.2.2 hin5 hat5 (g := (mkF m 16 #[.val (.ref d1), .val (.ref d2), .val (.ref d3), .val (.int (Int32.ofNat i)), .val (.int (Int32.ofNat j))] [(.int (Int32.ofNat j)), (.ref d2), (.int (gp i))])) rfl rfl (hb hby d17_16)) ?_
    show Wp p e below _ (s₁.setTop (mkF m 17 #[.val (.ref d1), .val (.ref d2), .val (.ref d3), .val (.int (Int32.ofNat i)), .val (.int (Int32.ofNat j))] [(.int (gp j)), (.int (gp i))]))
    by_cases hc6 : (gp i) = (gp j)
    · refine Wp.step (fun t k => XS.icmpNo X0.here hx rfl (hb hby d17_17) rfl (teq hc6).2 k) ?_
      show Wp p e below _ (s₁.setTop (mkF m 20 #[.val (.ref d1), .val (.ref d2), .val (.ref d3), .val (.int (Int32.ofNat i)), .val (.int (Int32.ofNat j))] []))
      refine Wp.step (fun t k => XS.aloadN X0.here hx rfl (hb hby d17_20) rfl rfl k) ?_
      show Wp p e below _ (s₁.setTop (mkF m 21 #[.val (.ref d1), .val (.ref d2), .val (.ref d3), .val (.int (Int32.ofNat i)), .val (.int (Int32.ofNat j))] [(.ref d3)]))
      refine Wp.step (fun t k => XS.iloadN X0.here hx rfl (hb hby d17_21) rfl k) ?_
      show Wp p e below _ (s₁.setTop (mkF m 22 #[.val (.ref d1), .val (.ref d2), .val (.ref d3), .val (.int (Int32.ofNat i)), .val (.int (Int32.ofNat j))] [(.int (Int32.ofNat i)), (.ref d3)]))
      obtain ⟨cl7, Ar7, Sz7, Nn7, El7⟩ := id B_d3
      have hin7 : ¬ ((Int32.ofNat i) < 0 ∨ cl7.slots.size ≤ ((Int32.ofNat i)).toNatClampNeg) := inb_of Sz7 (own_inb (by omega) (by omega))
      have hat7 : cl7.slots[((Int32.ofNat i)).toNatClampNeg]? = some (.int (gt ((Int32.ofNat i)).toNatClampNeg)) := (El7 _ (by have q := Nat.lt_of_not_le fun q => hin7 (Or.inr q); rw [Sz7] at q; exact q)).1
      rw [show (gt ((Int32.ofNat i)).toNatClampNeg) = (gt i) from congrArg gt (own_nat (by omega))] at hat7
      refine Wp.step (X0.iaload hx (j := (Int32.ofNat i)) (v := (.int (gt i))) (by rw [e0]; exact Ar7.1) (State.isArrayOf_alike hZ.alike Ar7.2.1) Ar7.2.2 hin7 hat7 (g := (mkF m 22 #[.val (.ref d1), .val (.ref d2), .val (.ref d3), .val (.int (Int32.ofNat i)), .val (.int (Int32.ofNat j))] [(.int (Int32.ofNat i)), (.ref d3)])) rfl rfl (hb hby d17_22)) ?_
      show Wp p e below _ (s₁.setTop (mkF m 23 #[.val (.ref d1), .val (.ref d2), .val (.ref d3), .val (.int (Int32.ofNat i)), .val (.int (Int32.ofNat j))] [(.int (gt i))]))
      refine Wp.step (fun t k => XS.aloadN X0.here hx rfl (hb hby d17_23) rfl rfl k) ?_
      show Wp p e below _ (s₁.setTop (mkF m 24 #[.val (.ref d1), .val (.ref d2), .val (.ref d3), .val (.int (Int32.ofNat i)), .val (.int (Int32.ofNat j))] [(.ref d3), (.int (gt i))]))
      refine Wp.step (fun t k => XS.iload X0.here hx rfl (hb hby d17_24) rfl k) ?_
      show Wp p e below _ (s₁.setTop (mkF m 26 #[.val (.ref d1), .val (.ref d2), .val (.ref d3), .val (.int (Int32.ofNat i)), .val (.int (Int32.ofNat j))] [(.int (Int32.ofNat j)), (.ref d3), (.int (gt i))]))
      obtain ⟨cl8, Ar8, Sz8, Nn8, El8⟩ := id B_d3
      have hin8 : ¬ ((Int32.ofNat j) < 0 ∨ cl8.slots.size ≤ ((Int32.ofNat j)).toNatClampNeg) := inb_of Sz8 (own_inb (by omega) (by omega))
      have hat8 : cl8.slots[((Int32.ofNat j)).toNatClampNeg]? = some (.int (gt ((Int32.ofNat j)).toNatClampNeg)) := (El8 _ (by have q := Nat.lt_of_not_le fun q => hin8 (Or.inr q); rw [Sz8] at q; exact q)).1
      rw [show (gt ((Int32.ofNat j)).toNatClampNeg) = (gt j) from congrArg gt (own_nat (by omega))] at hat8
      refine Wp.step (X0.iaload hx (j := (Int32.ofNat j)) (v := (.int (gt j))) (by rw [e0]; exact Ar8.1) (State.isArrayOf_alike hZ.alike Ar8.2.1) Ar8.2.2 hin8 hat8 (g := (mkF m 26 #[.val (.ref d1), .val (.ref d2), .val (.ref d3), .val (.int (Int32.ofNat i)), .val (.int (Int32.ofNat j))] [(.int (Int32.ofNat j)), (.ref d3), (.int (gt i))])) rfl rfl (hb hby d17_26)) ?_
      show Wp p e below _ (s₁.setTop (mkF m 27 #[.val (.ref d1), .val (.ref d2), .val (.ref d3), .val (.int (Int32.ofNat i)), .val (.int (Int32.ofNat j))] [(.int (gt j)), (.int (gt i))]))
      by_cases hc9 : (gt i) = (gt j)
      · refine Wp.step (fun t k => XS.icmpNo X0.here hx rfl (hb hby d17_27) rfl (teq hc9).2 k) ?_
        show Wp p e below _ (s₁.setTop (mkF m 30 #[.val (.ref d1), .val (.ref d2), .val (.ref d3), .val (.int (Int32.ofNat i)), .val (.int (Int32.ofNat j))] []))
        refine Wp.step (fun t k => XS.iconst X0.here hx rfl (hb hby d17_30) k) ?_
        show Wp p e below _ (s₁.setTop (mkF m 31 #[.val (.ref d1), .val (.ref d2), .val (.ref d3), .val (.int (Int32.ofNat i)), .val (.int (Int32.ofNat j))] [(.int (1 : Int32))]))
        refine Wp.step (fun t k => XS.goto X0.here hx rfl (pc0 := 31) (pc' := 35) rfl (hb hby d17_31) (by decide) (by decide) k) ?_
        show Wp p e below _ (s₁.setTop (mkF m 35 #[.val (.ref d1), .val (.ref d2), .val (.ref d3), .val (.int (Int32.ofNat i)), .val (.int (Int32.ofNat j))] [(.int (1 : Int32))]))
        refine Wp.retN X0 hx (t := .boolean) Bd.returns (by simp) (hb hby d17_35) hlk ?_ (by decide) (by decide)
        show Q17 Z d1 d2 d3 (Int32.ofNat i) (Int32.ofNat j) gs gp gt i j h0 n0 (some (.int (nar .boolean (1 : Int32)))) s₁.heap _
        rw [e0]
        exact ⟨by rw [own_b, if_pos ⟨hc3, hc6, hc9⟩]; rfl, N0, rfl⟩
      · refine Wp.step (fun t k => XS.icmpYes X0.here hx rfl (pc0 := 27) (pc' := 34) rfl (hb hby d17_27) rfl (feq hc9).2 (by decide) (by decide) k) ?_
        show Wp p e below _ (s₁.setTop (mkF m 34 #[.val (.ref d1), .val (.ref d2), .val (.ref d3), .val (.int (Int32.ofNat i)), .val (.int (Int32.ofNat j))] []))
        refine Wp.step (fun t k => XS.iconst X0.here hx rfl (hb hby d17_34) k) ?_
        show Wp p e below _ (s₁.setTop (mkF m 35 #[.val (.ref d1), .val (.ref d2), .val (.ref d3), .val (.int (Int32.ofNat i)), .val (.int (Int32.ofNat j))] [(.int (0 : Int32))]))
        refine Wp.retN X0 hx (t := .boolean) Bd.returns (by simp) (hb hby d17_35) hlk ?_ (by decide) (by decide)
        show Q17 Z d1 d2 d3 (Int32.ofNat i) (Int32.ofNat j) gs gp gt i j h0 n0 (some (.int (nar .boolean (0 : Int32)))) s₁.heap _
        rw [e0]
        exact ⟨by rw [own_b, if_neg (fun q => hc9 q.2.2)]; rfl, N0, rfl⟩
    · refine Wp.step (fun t k => XS.icmpYes X0.here hx rfl (pc0 := 17) (pc' := 34) rfl (hb hby d17_17) rfl (feq hc6).2 (by decide) (by decide) k) ?_
      show Wp p e below _ (s₁.setTop (mkF m 34 #[.val (.ref d1), .val (.ref d2), .val (.ref d3), .val (.int (Int32.ofNat i)), .val (.int (Int32.ofNat j))] []))
      refine Wp.step (fun t k => XS.iconst X0.here hx rfl (hb hby d17_34) k) ?_
      show Wp p e below _ (s₁.setTop (mkF m 35 #[.val (.ref d1), .val (.ref d2), .val (.ref d3), .val (.int (Int32.ofNat i)), .val (.int (Int32.ofNat j))] [(.int (0 : Int32))]))
      refine Wp.retN X0 hx (t := .boolean) Bd.returns (by simp) (hb hby d17_35) hlk ?_ (by decide) (by decide)
      show Q17 Z d1 d2 d3 (Int32.ofNat i) (Int32.ofNat j) gs gp gt i j h0 n0 (some (.int (nar .boolean (0 : Int32)))) s₁.heap _
      rw [e0]
      exact ⟨by rw [own_b, if_neg (fun q => hc6 q.2.1)]; rfl, N0, rfl⟩
  · refine Wp.step (fun t k => XS.icmpYes X0.here hx rfl (pc0 := 7) (pc' := 34) rfl (hb hby d17_7) rfl (feq hc3).2 (by decide) (by decide) k) ?_
    show Wp p e below _ (s₁.setTop (mkF m 34 #[.val (.ref d1), .val (.ref d2), .val (.ref d3), .val (.int (Int32.ofNat i)), .val (.int (Int32.ofNat j))] []))
    refine Wp.step (fun t k => XS.iconst X0.here hx rfl (hb hby d17_34) k) ?_
    show Wp p e below _ (s₁.setTop (mkF m 35 #[.val (.ref d1), .val (.ref d2), .val (.ref d3), .val (.int (Int32.ofNat i)), .val (.int (Int32.ofNat j))] [(.int (0 : Int32))]))
    refine Wp.retN X0 hx (t := .boolean) Bd.returns (by simp) (hb hby d17_35) hlk ?_ (by decide) (by decide)
    show Q17 Z d1 d2 d3 (Int32.ofNat i) (Int32.ofNat j) gs gp gt i j h0 n0 (some (.int (nar .boolean (0 : Int32)))) s₁.heap _
    rw [e0]
    exact ⟨by rw [own_b, if_neg (fun q => hc3 q.1)]; rfl, N0, rfl⟩
theorem pd_2829V : parseMethodDescriptor "()V" = some ⟨[], none⟩ := by decide +kernel
theorem pd_28I29V : parseMethodDescriptor "(I)V" = some ⟨[.int], none⟩ := by decide +kernel
theorem pd_28I29I : parseMethodDescriptor "(I)I" = some ⟨[.int], some .int⟩ := by decide +kernel
theorem pd_285bI5bI5bIII29Z : parseMethodDescriptor "([I[I[III)Z" = some ⟨[(.array .int), (.array .int), (.array .int), .int, .int], some .boolean⟩ := by decide +kernel
theorem ef_0_000000 (m : MethodId) (x0 : Int32) (x1 : Int32) (x2 : Int32) (x3 : Int32) (x4 : Int32) (x5 : Int32) : entryFrame m #[(.int x0), (.int x1), (.int x2), (.int x3), (.int x4), (.int x5)] maxLocals = mkF m 0 #[.val (.int x0), .val (.int x1), .val (.int x2), .val (.int x3), .val (.int x4), .val (.int x5), .unset, .unset, .unset, .unset, .unset, .unset, .unset, .unset] [] := by first | (simp [entryFrame, mkF, argsToLocals, Value.category, maxLocals]; done) | rfl
def Q0 (Z : State) (p0 : Int32) (p1 : Int32) (p2 : Int32) (p3 : Int32) (p4 : Int32) (p5 : Int32) (h0 : Heap) (n0 : Nat) (v : Option Value) (h : Heap) (L : List Loc) : Prop := v = some (.int 1) ∧ Fr n0 L
set_option maxRecDepth 65536 in
set_option maxHeartbeats 40000000 in
theorem rm0 (l : Launch) (Z : State) (a0 : Array Value) (hw : ∀ d ∈ tables_1, d.before a0 Z = true) (ws : List Jvm.Cond) (p0 : Int32) (p1 : Int32) (p2 : Int32) (p3 : Int32) (p4 : Int32) (p5 : Int32) (h0 : Heap) (n0 : Nat) (Z0 : n0 ≤ h0.size) :
    MetFree l x (head1 (Jvm.Cond.code x code maxLocals ret :: ws) room_1) (fun a U => a = #[(.int p0), (.int p1), (.int p2), (.int p3), (.int p4), (.int p5)] ∧ Z.Warmed39 U.vm ∧ U.heap = h0) (fun _ _ _ _ _ => True) (fun _ U o U' => ∃ v L, o = .returned v ∧ Q0 Z p0 p1 p2 p3 p4 p5 h0 n0 v U'.heap L ∧ FrameEnd U o U' L room_1.cells room_1.slots) := by
  refine MetFree.of_bodySF (plainFor_of_name pn_com_example_erotema_erotema_model_ToldEdgesCountToPinLaw) hisR ?_
  intro p e s m args below meth c s₁ Bd hml0 hP hK
  obtain ⟨rfl, hZ, hh⟩ := hP
  have hx := Bd.exec
  have hby := Bd.bytes
  have hlk : meth.locks = false := Bd.notSynchronized
  have hml : c.maxLocals = 14 := hml0
  have hown : s.vm.findClass "com/example/erotema/erotema/model/ToldEdgesCountToPinLaw" = some m.cls := findClass_of_methodNamed Bd.named
  have hnm := (name_of_methodNamed Bd.named Bd.method).1
  have X0 : Stand p l e room_1 s m #[(.int p0), (.int p1), (.int p2), (.int p3), (.int p4), (.int p5)] below meth c s₁ [] 0 0 := Stand.of_body Bd
  have e0 : s₁.heap = h0 := by rw [← hh, Bd.state]; rfl
  have N0 := Fr.nil n0
  have K0 : Keep h0 h0 [] := Keep.refl h0 _
  show Wp p e below (Out s (Q0 Z p0 p1 p2 p3 p4 p5 h0 n0) room_1.cells room_1.slots) (s₁.setTop (entryFrame m #[(.int p0), (.int p1), (.int p2), (.int p3), (.int p4), (.int p5)] maxLocals))
  rw [ef_0_000000]
  show Wp p e below _ (s₁.setTop (mkF m 0 #[.val (.int p0), .val (.int p1), .val (.int p2), .val (.int p3), .val (.int p4), .val (.int p5), .unset, .unset, .unset, .unset, .unset, .unset, .unset, .unset] []))
  refine Wp.step (fun t k => XS.iconst X0.here hx rfl (hb hby at_0) k) ?_
  show Wp p e below _ (s₁.setTop (mkF m 1 #[.val (.int p0), .val (.int p1), .val (.int p2), .val (.int p3), .val (.int p4), .val (.int p5), .unset, .unset, .unset, .unset, .unset, .unset, .unset, .unset] [(.int (1 : Int32))]))
  refine Wp.step (fun t k => XS.iload X0.here hx rfl (hb hby at_1) rfl k) ?_
  show Wp p e below _ (s₁.setTop (mkF m 3 #[.val (.int p0), .val (.int p1), .val (.int p2), .val (.int p3), .val (.int p4), .val (.int p5), .unset, .unset, .unset, .unset, .unset, .unset, .unset, .unset] [(.int p4), (.int (1 : Int32))]))
  refine Wp.step (fun t k => XS.iconst X0.here hx rfl (hb hby at_3) k) ?_
  show Wp p e below _ (s₁.setTop (mkF m 4 #[.val (.int p0), .val (.int p1), .val (.int p2), .val (.int p3), .val (.int p4), .val (.int p5), .unset, .unset, .unset, .unset, .unset, .unset, .unset, .unset] [(.int (3 : Int32)), (.int p4), (.int (1 : Int32))]))
  refine Wp.step (fun t k => XS.iand X0.here hx rfl (hb hby at_4) rfl k) ?_
  show Wp p e below _ (s₁.setTop (mkF m 5 #[.val (.int p0), .val (.int p1), .val (.int p2), .val (.int p3), .val (.int p4), .val (.int p5), .unset, .unset, .unset, .unset, .unset, .unset, .unset, .unset] [(.int (p4 &&& (3 : Int32))), (.int (1 : Int32))]))
  refine Wp.step (fun t k => XS.iadd X0.here hx rfl (hb hby at_5) rfl k) ?_
  show Wp p e below _ (s₁.setTop (mkF m 6 #[.val (.int p0), .val (.int p1), .val (.int p2), .val (.int p3), .val (.int p4), .val (.int p5), .unset, .unset, .unset, .unset, .unset, .unset, .unset, .unset] [(.int ((1 : Int32) + (p4 &&& (3 : Int32))))]))
  refine Wp.step (fun t k => XS.istore X0.here hx rfl (hb hby at_6) rfl (l' := #[.val (.int p0), .val (.int p1), .val (.int p2), .val (.int p3), .val (.int p4), .val (.int p5), .val (.int ((1 : Int32) + (p4 &&& (3 : Int32)))), .unset, .unset, .unset, .unset, .unset, .unset, .unset]) rfl k) ?_
  show Wp p e below _ (s₁.setTop (mkF m 8 #[.val (.int p0), .val (.int p1), .val (.int p2), .val (.int p3), .val (.int p4), .val (.int p5), .val (.int ((1 : Int32) + (p4 &&& (3 : Int32)))), .unset, .unset, .unset, .unset, .unset, .unset, .unset] []))
  obtain ⟨nw, hn1, hn4, hnw⟩ := own_n' p4
  rw [show ((1 : Int32) + (p4 &&& (3 : Int32))) = (Int32.ofNat nw) from hnw]
  refine Wp.step (fun t k => XS.iload X0.here hx rfl (hb hby at_8) rfl k) ?_
  show Wp p e below _ (s₁.setTop (mkF m 10 #[.val (.int p0), .val (.int p1), .val (.int p2), .val (.int p3), .val (.int p4), .val (.int p5), .val (.int (Int32.ofNat nw)), .unset, .unset, .unset, .unset, .unset, .unset, .unset] [(.int p4)]))
  refine Wp.step (fun t k => XS.iconst X0.here hx rfl (hb hby at_10) k) ?_
  show Wp p e below _ (s₁.setTop (mkF m 11 #[.val (.int p0), .val (.int p1), .val (.int p2), .val (.int p3), .val (.int p4), .val (.int p5), .val (.int (Int32.ofNat nw)), .unset, .unset, .unset, .unset, .unset, .unset, .unset] [(.int (2 : Int32)), (.int p4)]))
  refine Wp.step (fun t k => XS.iushr X0.here hx rfl (hb hby at_11) rfl k) ?_
  show Wp p e below _ (s₁.setTop (mkF m 12 #[.val (.int p0), .val (.int p1), .val (.int p2), .val (.int p3), .val (.int p4), .val (.int p5), .val (.int (Int32.ofNat nw)), .unset, .unset, .unset, .unset, .unset, .unset, .unset] [(.int ((p4.toUInt32 >>> ((2 : Int32) &&& 31).toUInt32).toInt32))]))
  refine Wp.step (fun t k => XS.iconst X0.here hx rfl (hb hby at_12) k) ?_
  show Wp p e below _ (s₁.setTop (mkF m 13 #[.val (.int p0), .val (.int p1), .val (.int p2), .val (.int p3), .val (.int p4), .val (.int p5), .val (.int (Int32.ofNat nw)), .unset, .unset, .unset, .unset, .unset, .unset, .unset] [(.int (5 : Int32)), (.int ((p4.toUInt32 >>> ((2 : Int32) &&& 31).toUInt32).toInt32))]))
  refine Wp.step (fun t k => Jvm.RoadKit.iremM X0 hx rfl (hb hby at_13) rfl (by decide) k) ?_
  show Wp p e below _ (s₁.setTop (mkF m 14 #[.val (.int p0), .val (.int p1), .val (.int p2), .val (.int p3), .val (.int p4), .val (.int p5), .val (.int (Int32.ofNat nw)), .unset, .unset, .unset, .unset, .unset, .unset, .unset] [(.int (((p4.toUInt32 >>> ((2 : Int32) &&& 31).toUInt32).toInt32) % (5 : Int32)))]))
  refine Wp.step (fun t k => XS.istore X0.here hx rfl (hb hby at_14) rfl (l' := #[.val (.int p0), .val (.int p1), .val (.int p2), .val (.int p3), .val (.int p4), .val (.int p5), .val (.int (Int32.ofNat nw)), .val (.int (((p4.toUInt32 >>> ((2 : Int32) &&& 31).toUInt32).toInt32) % (5 : Int32))), .unset, .unset, .unset, .unset, .unset, .unset]) rfl k) ?_
  show Wp p e below _ (s₁.setTop (mkF m 16 #[.val (.int p0), .val (.int p1), .val (.int p2), .val (.int p3), .val (.int p4), .val (.int p5), .val (.int (Int32.ofNat nw)), .val (.int (((p4.toUInt32 >>> ((2 : Int32) &&& 31).toUInt32).toInt32) % (5 : Int32))), .unset, .unset, .unset, .unset, .unset, .unset] []))
  obtain ⟨mk, hm4, hmk⟩ := own_rem5 p4
  rw [show (((p4.toUInt32 >>> ((2 : Int32) &&& 31).toUInt32).toInt32) % (5 : Int32)) = (Int32.ofNat mk) from hmk]
  refine Wp.step (fun t k => XS.iconst X0.here hx rfl (hb hby at_16) k) ?_
  show Wp p e below _ (s₁.setTop (mkF m 17 #[.val (.int p0), .val (.int p1), .val (.int p2), .val (.int p3), .val (.int p4), .val (.int p5), .val (.int (Int32.ofNat nw)), .val (.int (Int32.ofNat mk)), .unset, .unset, .unset, .unset, .unset, .unset] [(.int (4 : Int32))]))
  obtain ⟨T1, h1, k1, X1, e1, E1, A1, st1⟩ := newP X0 hx hZ (hw _ (List.mem_of_getElem? (i := 0) rfl)) e0 (g := (mkF m 17 #[.val (.int p0), .val (.int p1), .val (.int p2), .val (.int p3), .val (.int p4), .val (.int p5), .val (.int (Int32.ofNat nw)), .val (.int (Int32.ofNat mk)), .unset, .unset, .unset, .unset, .unset, .unset] [(.int (4 : Int32))])) rfl (hb hby at_17) rfl (by decide) (cap := 4) (by decide) (by decide) (by decide) (by decide)
  obtain ⟨b1, g1⟩ : ∃ z, z = h0.size := ⟨_, rfl⟩
  rw [← g1] at A1 st1
  have g_b1 : n0 ≤ b1 := Nat.le_trans (Nat.le_trans Z0 K0.1) (Nat.le_of_eq g1.symm)
  have sz_b1 : h0.size ≤ b1 := Nat.le_trans K0.1 (Nat.le_of_eq g1.symm)
  have K2 := K0.ext E1
  have Z1 : (newA k1 .int (4 : Int32)).slots.size = ((4 : Int32)).toNatClampNeg := sz_new _ _ _
  have nn1 : ¬ (4 : Int32) < 0 := (by decide)
  refine Wp.step st1 ?_
  have B1 := own_IA.new A1 nn1 rfl
  show Wp p e below _ (T1.setTop (mkF m 19 #[.val (.int p0), .val (.int p1), .val (.int p2), .val (.int p3), .val (.int p4), .val (.int p5), .val (.int (Int32.ofNat nw)), .val (.int (Int32.ofNat mk)), .unset, .unset, .unset, .unset, .unset, .unset] [(.ref b1)]))
  refine Wp.step (fun t k => XS.astore X1.here hx rfl (hb hby at_19) rfl rfl (l' := #[.val (.int p0), .val (.int p1), .val (.int p2), .val (.int p3), .val (.int p4), .val (.int p5), .val (.int (Int32.ofNat nw)), .val (.int (Int32.ofNat mk)), .val (.ref b1), .unset, .unset, .unset, .unset, .unset]) rfl k) ?_
  show Wp p e below _ (T1.setTop (mkF m 21 #[.val (.int p0), .val (.int p1), .val (.int p2), .val (.int p3), .val (.int p4), .val (.int p5), .val (.int (Int32.ofNat nw)), .val (.int (Int32.ofNat mk)), .val (.ref b1), .unset, .unset, .unset, .unset, .unset] []))
  refine Wp.step (fun t k => XS.iconst X1.here hx rfl (hb hby at_21) k) ?_
  show Wp p e below _ (T1.setTop (mkF m 22 #[.val (.int p0), .val (.int p1), .val (.int p2), .val (.int p3), .val (.int p4), .val (.int p5), .val (.int (Int32.ofNat nw)), .val (.int (Int32.ofNat mk)), .val (.ref b1), .unset, .unset, .unset, .unset, .unset] [(.int (4 : Int32))]))
  obtain ⟨T3, h3, k3, X3, e3, E3, A3, st3⟩ := newP X1 hx hZ (hw _ (List.mem_of_getElem? (i := 0) rfl)) e1 (g := (mkF m 22 #[.val (.int p0), .val (.int p1), .val (.int p2), .val (.int p3), .val (.int p4), .val (.int p5), .val (.int (Int32.ofNat nw)), .val (.int (Int32.ofNat mk)), .val (.ref b1), .unset, .unset, .unset, .unset, .unset] [(.int (4 : Int32))])) rfl (hb hby at_22) rfl (by decide) (cap := 4) (by decide) (by decide) (by decide) (by decide)
  obtain ⟨b3, g3⟩ : ∃ z, z = h1.size := ⟨_, rfl⟩
  rw [← g3] at A3 st3
  have g_b3 : n0 ≤ b3 := Nat.le_trans (Nat.le_trans Z0 K2.1) (Nat.le_of_eq g3.symm)
  have sz_b3 : h0.size ≤ b3 := Nat.le_trans K2.1 (Nat.le_of_eq g3.symm)
  have ne_b1_b3 : b1 ≠ b3 := Nat.ne_of_lt (Nat.lt_of_lt_of_le B1.lt (Nat.le_of_eq g3.symm))
  have B4 := B1.ext E3
  have K5 := K2.ext E3
  have Z3 : (newA k3 .int (4 : Int32)).slots.size = ((4 : Int32)).toNatClampNeg := sz_new _ _ _
  have nn3 : ¬ (4 : Int32) < 0 := (by decide)
  refine Wp.step st3 ?_
  have B3 := own_IA.new A3 nn3 rfl
  show Wp p e below _ (T3.setTop (mkF m 24 #[.val (.int p0), .val (.int p1), .val (.int p2), .val (.int p3), .val (.int p4), .val (.int p5), .val (.int (Int32.ofNat nw)), .val (.int (Int32.ofNat mk)), .val (.ref b1), .unset, .unset, .unset, .unset, .unset] [(.ref b3)]))
  refine Wp.step (fun t k => XS.astore X3.here hx rfl (hb hby at_24) rfl rfl (l' := #[.val (.int p0), .val (.int p1), .val (.int p2), .val (.int p3), .val (.int p4), .val (.int p5), .val (.int (Int32.ofNat nw)), .val (.int (Int32.ofNat mk)), .val (.ref b1), .val (.ref b3), .unset, .unset, .unset, .unset]) rfl k) ?_
  show Wp p e below _ (T3.setTop (mkF m 26 #[.val (.int p0), .val (.int p1), .val (.int p2), .val (.int p3), .val (.int p4), .val (.int p5), .val (.int (Int32.ofNat nw)), .val (.int (Int32.ofNat mk)), .val (.ref b1), .val (.ref b3), .unset, .unset, .unset, .unset] []))
  refine Wp.step (fun t k => XS.iconst X3.here hx rfl (hb hby at_26) k) ?_
  show Wp p e below _ (T3.setTop (mkF m 27 #[.val (.int p0), .val (.int p1), .val (.int p2), .val (.int p3), .val (.int p4), .val (.int p5), .val (.int (Int32.ofNat nw)), .val (.int (Int32.ofNat mk)), .val (.ref b1), .val (.ref b3), .unset, .unset, .unset, .unset] [(.int (4 : Int32))]))
  obtain ⟨T6, h6, k6, X6, e6, E6, A6, st6⟩ := newP X3 hx hZ (hw _ (List.mem_of_getElem? (i := 0) rfl)) e3 (g := (mkF m 27 #[.val (.int p0), .val (.int p1), .val (.int p2), .val (.int p3), .val (.int p4), .val (.int p5), .val (.int (Int32.ofNat nw)), .val (.int (Int32.ofNat mk)), .val (.ref b1), .val (.ref b3), .unset, .unset, .unset, .unset] [(.int (4 : Int32))])) rfl (hb hby at_27) rfl (by decide) (cap := 4) (by decide) (by decide) (by decide) (by decide)
  obtain ⟨b6, g6⟩ : ∃ z, z = h3.size := ⟨_, rfl⟩
  rw [← g6] at A6 st6
  have g_b6 : n0 ≤ b6 := Nat.le_trans (Nat.le_trans Z0 K5.1) (Nat.le_of_eq g6.symm)
  have sz_b6 : h0.size ≤ b6 := Nat.le_trans K5.1 (Nat.le_of_eq g6.symm)
  have ne_b1_b6 : b1 ≠ b6 := Nat.ne_of_lt (Nat.lt_of_lt_of_le B4.lt (Nat.le_of_eq g6.symm))
  have ne_b3_b6 : b3 ≠ b6 := Nat.ne_of_lt (Nat.lt_of_lt_of_le B3.lt (Nat.le_of_eq g6.symm))
  have B7 := B4.ext E6
  have B8 := B3.ext E6
  have K9 := K5.ext E6
  have Z6 : (newA k6 .int (4 : Int32)).slots.size = ((4 : Int32)).toNatClampNeg := sz_new _ _ _
  have nn6 : ¬ (4 : Int32) < 0 := (by decide)
  refine Wp.step st6 ?_
  have B6 := own_IA.new A6 nn6 rfl
  show Wp p e below _ (T6.setTop (mkF m 29 #[.val (.int p0), .val (.int p1), .val (.int p2), .val (.int p3), .val (.int p4), .val (.int p5), .val (.int (Int32.ofNat nw)), .val (.int (Int32.ofNat mk)), .val (.ref b1), .val (.ref b3), .unset, .unset, .unset, .unset] [(.ref b6)]))
  refine Wp.step (fun t k => XS.astore X6.here hx rfl (hb hby at_29) rfl rfl (l' := #[.val (.int p0), .val (.int p1), .val (.int p2), .val (.int p3), .val (.int p4), .val (.int p5), .val (.int (Int32.ofNat nw)), .val (.int (Int32.ofNat mk)), .val (.ref b1), .val (.ref b3), .val (.ref b6), .unset, .unset, .unset]) rfl k) ?_
  show Wp p e below _ (T6.setTop (mkF m 31 #[.val (.int p0), .val (.int p1), .val (.int p2), .val (.int p3), .val (.int p4), .val (.int p5), .val (.int (Int32.ofNat nw)), .val (.int (Int32.ofNat mk)), .val (.ref b1), .val (.ref b3), .val (.ref b6), .unset, .unset, .unset] []))
  refine Wp.step (fun t k => XS.aload X6.here hx rfl (hb hby at_31) rfl rfl k) ?_
  show Wp p e below _ (T6.setTop (mkF m 33 #[.val (.int p0), .val (.int p1), .val (.int p2), .val (.int p3), .val (.int p4), .val (.int p5), .val (.int (Int32.ofNat nw)), .val (.int (Int32.ofNat mk)), .val (.ref b1), .val (.ref b3), .val (.ref b6), .unset, .unset, .unset] [(.ref b1)]))
  refine Wp.step (fun t k => XS.iconst X6.here hx rfl (hb hby at_33) k) ?_
  show Wp p e below _ (T6.setTop (mkF m 34 #[.val (.int p0), .val (.int p1), .val (.int p2), .val (.int p3), .val (.int p4), .val (.int p5), .val (.int (Int32.ofNat nw)), .val (.int (Int32.ofNat mk)), .val (.ref b1), .val (.ref b3), .val (.ref b6), .unset, .unset, .unset] [(.int (0 : Int32)), (.ref b1)]))
  refine Wp.step (fun t k => XS.iloadN X6.here hx rfl (hb hby at_34) rfl k) ?_
  show Wp p e below _ (T6.setTop (mkF m 35 #[.val (.int p0), .val (.int p1), .val (.int p2), .val (.int p3), .val (.int p4), .val (.int p5), .val (.int (Int32.ofNat nw)), .val (.int (Int32.ofNat mk)), .val (.ref b1), .val (.ref b3), .val (.ref b6), .unset, .unset, .unset] [(.int p0), (.int (0 : Int32)), (.ref b1)]))
  refine Wp.step (fun t k => XS.iconst X6.here hx rfl (hb hby at_35) k) ?_
  show Wp p e below _ (T6.setTop (mkF m 36 #[.val (.int p0), .val (.int p1), .val (.int p2), .val (.int p3), .val (.int p4), .val (.int p5), .val (.int (Int32.ofNat nw)), .val (.int (Int32.ofNat mk)), .val (.ref b1), .val (.ref b3), .val (.ref b6), .unset, .unset, .unset] [(.int (3 : Int32)), (.int p0), (.int (0 : Int32)), (.ref b1)]))
  refine Wp.step (fun t k => XS.iand X6.here hx rfl (hb hby at_36) rfl k) ?_
  show Wp p e below _ (T6.setTop (mkF m 37 #[.val (.int p0), .val (.int p1), .val (.int p2), .val (.int p3), .val (.int p4), .val (.int p5), .val (.int (Int32.ofNat nw)), .val (.int (Int32.ofNat mk)), .val (.ref b1), .val (.ref b3), .val (.ref b6), .unset, .unset, .unset] [(.int (p0 &&& (3 : Int32))), (.int (0 : Int32)), (.ref b1)]))
  refine Wp.step (fun t k => XS.iload X6.here hx rfl (hb hby at_37) rfl k) ?_
  show Wp p e below _ (T6.setTop (mkF m 39 #[.val (.int p0), .val (.int p1), .val (.int p2), .val (.int p3), .val (.int p4), .val (.int p5), .val (.int (Int32.ofNat nw)), .val (.int (Int32.ofNat mk)), .val (.ref b1), .val (.ref b3), .val (.ref b6), .unset, .unset, .unset] [(.int (Int32.ofNat nw)), (.int (p0 &&& (3 : Int32))), (.int (0 : Int32)), (.ref b1)]))
  refine Wp.step (fun t k => Jvm.RoadKit.iremM X6 hx rfl (hb hby at_39) rfl (own_ne0 hn1 hn4) k) ?_
  show Wp p e below _ (T6.setTop (mkF m 40 #[.val (.int p0), .val (.int p1), .val (.int p2), .val (.int p3), .val (.int p4), .val (.int p5), .val (.int (Int32.ofNat nw)), .val (.int (Int32.ofNat mk)), .val (.ref b1), .val (.ref b3), .val (.ref b6), .unset, .unset, .unset] [(.int ((p0 &&& (3 : Int32)) % (Int32.ofNat nw))), (.int (0 : Int32)), (.ref b1)]))
  obtain ⟨k0, hk0, hsk0⟩ := own_mod p0 hn1 hn4
  rw [show ((p0 &&& (3 : Int32)) % (Int32.ofNat nw)) = (Int32.ofNat k0) from hsk0]
  obtain ⟨cl10, Ar10, Sz10, Nn10, El10⟩ := id B7
  have hin10 : ¬ ((0 : Int32) < 0 ∨ cl10.slots.size ≤ ((0 : Int32)).toNatClampNeg) := inb_of Sz10 ⟨by decide, by decide⟩
  obtain ⟨T10, h10, X10, e10, W10, st10⟩ := stI X6 hx hZ e6 Ar10 (j := (0 : Int32)) hin10 (g := (mkF m 40 #[.val (.int p0), .val (.int p1), .val (.int p2), .val (.int p3), .val (.int p4), .val (.int p5), .val (.int (Int32.ofNat nw)), .val (.int (Int32.ofNat mk)), .val (.ref b1), .val (.ref b3), .val (.ref b6), .unset, .unset, .unset] [(.int (Int32.ofNat k0)), (.int (0 : Int32)), (.ref b1)])) rfl rfl (hb hby at_40)
  have B11 := B8.other W10 (Ne.symm ne_b1_b3)
  have B12 := B6.other W10 (Ne.symm ne_b1_b6)
  have K13 := K9.wr W10 (Or.inr sz_b1)
  have N10 := Fr.snoc X10 N0 g_b1
  have B10 := own_IA.set Ar10 Sz10 Nn10 El10 W10 rfl
  rw [show ((0 : Int32)).toNatClampNeg = 0 from rfl] at B10
  refine Wp.step st10 ?_
  show Wp p e below _ (T10.setTop (mkF m 41 #[.val (.int p0), .val (.int p1), .val (.int p2), .val (.int p3), .val (.int p4), .val (.int p5), .val (.int (Int32.ofNat nw)), .val (.int (Int32.ofNat mk)), .val (.ref b1), .val (.ref b3), .val (.ref b6), .unset, .unset, .unset] []))
  refine Wp.step (fun t k => XS.aload X10.here hx rfl (hb hby at_41) rfl rfl k) ?_
  show Wp p e below _ (T10.setTop (mkF m 43 #[.val (.int p0), .val (.int p1), .val (.int p2), .val (.int p3), .val (.int p4), .val (.int p5), .val (.int (Int32.ofNat nw)), .val (.int (Int32.ofNat mk)), .val (.ref b1), .val (.ref b3), .val (.ref b6), .unset, .unset, .unset] [(.ref b6)]))
  refine Wp.step (fun t k => XS.iconst X10.here hx rfl (hb hby at_43) k) ?_
  show Wp p e below _ (T10.setTop (mkF m 44 #[.val (.int p0), .val (.int p1), .val (.int p2), .val (.int p3), .val (.int p4), .val (.int p5), .val (.int (Int32.ofNat nw)), .val (.int (Int32.ofNat mk)), .val (.ref b1), .val (.ref b3), .val (.ref b6), .unset, .unset, .unset] [(.int (0 : Int32)), (.ref b6)]))
  refine Wp.step (fun t k => XS.iloadN X10.here hx rfl (hb hby at_44) rfl k) ?_
  show Wp p e below _ (T10.setTop (mkF m 45 #[.val (.int p0), .val (.int p1), .val (.int p2), .val (.int p3), .val (.int p4), .val (.int p5), .val (.int (Int32.ofNat nw)), .val (.int (Int32.ofNat mk)), .val (.ref b1), .val (.ref b3), .val (.ref b6), .unset, .unset, .unset] [(.int p0), (.int (0 : Int32)), (.ref b6)]))
  refine Wp.step (fun t k => XS.iconst X10.here hx rfl (hb hby at_45) k) ?_
  show Wp p e below _ (T10.setTop (mkF m 46 #[.val (.int p0), .val (.int p1), .val (.int p2), .val (.int p3), .val (.int p4), .val (.int p5), .val (.int (Int32.ofNat nw)), .val (.int (Int32.ofNat mk)), .val (.ref b1), .val (.ref b3), .val (.ref b6), .unset, .unset, .unset] [(.int (2 : Int32)), (.int p0), (.int (0 : Int32)), (.ref b6)]))
  refine Wp.step (fun t k => XS.iushr X10.here hx rfl (hb hby at_46) rfl k) ?_
  show Wp p e below _ (T10.setTop (mkF m 47 #[.val (.int p0), .val (.int p1), .val (.int p2), .val (.int p3), .val (.int p4), .val (.int p5), .val (.int (Int32.ofNat nw)), .val (.int (Int32.ofNat mk)), .val (.ref b1), .val (.ref b3), .val (.ref b6), .unset, .unset, .unset] [(.int ((p0.toUInt32 >>> ((2 : Int32) &&& 31).toUInt32).toInt32)), (.int (0 : Int32)), (.ref b6)]))
  refine Wp.step (fun t k => XS.iconst X10.here hx rfl (hb hby at_47) k) ?_
  show Wp p e below _ (T10.setTop (mkF m 48 #[.val (.int p0), .val (.int p1), .val (.int p2), .val (.int p3), .val (.int p4), .val (.int p5), .val (.int (Int32.ofNat nw)), .val (.int (Int32.ofNat mk)), .val (.ref b1), .val (.ref b3), .val (.ref b6), .unset, .unset, .unset] [(.int (3 : Int32)), (.int ((p0.toUInt32 >>> ((2 : Int32) &&& 31).toUInt32).toInt32)), (.int (0 : Int32)), (.ref b6)]))
  refine Wp.step (fun t k => XS.iand X10.here hx rfl (hb hby at_48) rfl k) ?_
  show Wp p e below _ (T10.setTop (mkF m 49 #[.val (.int p0), .val (.int p1), .val (.int p2), .val (.int p3), .val (.int p4), .val (.int p5), .val (.int (Int32.ofNat nw)), .val (.int (Int32.ofNat mk)), .val (.ref b1), .val (.ref b3), .val (.ref b6), .unset, .unset, .unset] [(.int (((p0.toUInt32 >>> ((2 : Int32) &&& 31).toUInt32).toInt32) &&& (3 : Int32))), (.int (0 : Int32)), (.ref b6)]))
  refine Wp.step (fun t k => XS.iload X10.here hx rfl (hb hby at_49) rfl k) ?_
  show Wp p e below _ (T10.setTop (mkF m 51 #[.val (.int p0), .val (.int p1), .val (.int p2), .val (.int p3), .val (.int p4), .val (.int p5), .val (.int (Int32.ofNat nw)), .val (.int (Int32.ofNat mk)), .val (.ref b1), .val (.ref b3), .val (.ref b6), .unset, .unset, .unset] [(.int (Int32.ofNat nw)), (.int (((p0.toUInt32 >>> ((2 : Int32) &&& 31).toUInt32).toInt32) &&& (3 : Int32))), (.int (0 : Int32)), (.ref b6)]))
  refine Wp.step (fun t k => Jvm.RoadKit.iremM X10 hx rfl (hb hby at_51) rfl (own_ne0 hn1 hn4) k) ?_
  show Wp p e below _ (T10.setTop (mkF m 52 #[.val (.int p0), .val (.int p1), .val (.int p2), .val (.int p3), .val (.int p4), .val (.int p5), .val (.int (Int32.ofNat nw)), .val (.int (Int32.ofNat mk)), .val (.ref b1), .val (.ref b3), .val (.ref b6), .unset, .unset, .unset] [(.int ((((p0.toUInt32 >>> ((2 : Int32) &&& 31).toUInt32).toInt32) &&& (3 : Int32)) % (Int32.ofNat nw))), (.int (0 : Int32)), (.ref b6)]))
  obtain ⟨l0, hl0, hsl0⟩ := own_mod ((p0.toUInt32 >>> ((2 : Int32) &&& 31).toUInt32).toInt32) hn1 hn4
  rw [show ((((p0.toUInt32 >>> ((2 : Int32) &&& 31).toUInt32).toInt32) &&& (3 : Int32)) % (Int32.ofNat nw)) = (Int32.ofNat l0) from hsl0]
  obtain ⟨cl14, Ar14, Sz14, Nn14, El14⟩ := id B12
  have hin14 : ¬ ((0 : Int32) < 0 ∨ cl14.slots.size ≤ ((0 : Int32)).toNatClampNeg) := inb_of Sz14 ⟨by decide, by decide⟩
  obtain ⟨T14, h14, X14, e14, W14, st14⟩ := stI X10 hx hZ e10 Ar14 (j := (0 : Int32)) hin14 (g := (mkF m 52 #[.val (.int p0), .val (.int p1), .val (.int p2), .val (.int p3), .val (.int p4), .val (.int p5), .val (.int (Int32.ofNat nw)), .val (.int (Int32.ofNat mk)), .val (.ref b1), .val (.ref b3), .val (.ref b6), .unset, .unset, .unset] [(.int (Int32.ofNat l0)), (.int (0 : Int32)), (.ref b6)])) rfl rfl (hb hby at_52)
  have B15 := B11.other W14 ne_b3_b6
  have B16 := B10.other W14 ne_b1_b6
  have K17 := K13.wr W14 (Or.inr sz_b6)
  have N14 := Fr.snoc X14 N10 g_b6
  have B14 := own_IA.set Ar14 Sz14 Nn14 El14 W14 rfl
  rw [show ((0 : Int32)).toNatClampNeg = 0 from rfl] at B14
  refine Wp.step st14 ?_
  show Wp p e below _ (T14.setTop (mkF m 53 #[.val (.int p0), .val (.int p1), .val (.int p2), .val (.int p3), .val (.int p4), .val (.int p5), .val (.int (Int32.ofNat nw)), .val (.int (Int32.ofNat mk)), .val (.ref b1), .val (.ref b3), .val (.ref b6), .unset, .unset, .unset] []))
  refine Wp.step (fun t k => XS.aload X14.here hx rfl (hb hby at_53) rfl rfl k) ?_
  show Wp p e below _ (T14.setTop (mkF m 55 #[.val (.int p0), .val (.int p1), .val (.int p2), .val (.int p3), .val (.int p4), .val (.int p5), .val (.int (Int32.ofNat nw)), .val (.int (Int32.ofNat mk)), .val (.ref b1), .val (.ref b3), .val (.ref b6), .unset, .unset, .unset] [(.ref b1)]))
  refine Wp.step (fun t k => XS.iconst X14.here hx rfl (hb hby at_55) k) ?_
  show Wp p e below _ (T14.setTop (mkF m 56 #[.val (.int p0), .val (.int p1), .val (.int p2), .val (.int p3), .val (.int p4), .val (.int p5), .val (.int (Int32.ofNat nw)), .val (.int (Int32.ofNat mk)), .val (.ref b1), .val (.ref b3), .val (.ref b6), .unset, .unset, .unset] [(.int (1 : Int32)), (.ref b1)]))
  refine Wp.step (fun t k => XS.iloadN X14.here hx rfl (hb hby at_56) rfl k) ?_
  show Wp p e below _ (T14.setTop (mkF m 57 #[.val (.int p0), .val (.int p1), .val (.int p2), .val (.int p3), .val (.int p4), .val (.int p5), .val (.int (Int32.ofNat nw)), .val (.int (Int32.ofNat mk)), .val (.ref b1), .val (.ref b3), .val (.ref b6), .unset, .unset, .unset] [(.int p0), (.int (1 : Int32)), (.ref b1)]))
  refine Wp.step (fun t k => XS.iconst X14.here hx rfl (hb hby at_57) k) ?_
  show Wp p e below _ (T14.setTop (mkF m 58 #[.val (.int p0), .val (.int p1), .val (.int p2), .val (.int p3), .val (.int p4), .val (.int p5), .val (.int (Int32.ofNat nw)), .val (.int (Int32.ofNat mk)), .val (.ref b1), .val (.ref b3), .val (.ref b6), .unset, .unset, .unset] [(.int (4 : Int32)), (.int p0), (.int (1 : Int32)), (.ref b1)]))
  refine Wp.step (fun t k => XS.iushr X14.here hx rfl (hb hby at_58) rfl k) ?_
  show Wp p e below _ (T14.setTop (mkF m 59 #[.val (.int p0), .val (.int p1), .val (.int p2), .val (.int p3), .val (.int p4), .val (.int p5), .val (.int (Int32.ofNat nw)), .val (.int (Int32.ofNat mk)), .val (.ref b1), .val (.ref b3), .val (.ref b6), .unset, .unset, .unset] [(.int ((p0.toUInt32 >>> ((4 : Int32) &&& 31).toUInt32).toInt32)), (.int (1 : Int32)), (.ref b1)]))
  refine Wp.step (fun t k => XS.iconst X14.here hx rfl (hb hby at_59) k) ?_
  show Wp p e below _ (T14.setTop (mkF m 60 #[.val (.int p0), .val (.int p1), .val (.int p2), .val (.int p3), .val (.int p4), .val (.int p5), .val (.int (Int32.ofNat nw)), .val (.int (Int32.ofNat mk)), .val (.ref b1), .val (.ref b3), .val (.ref b6), .unset, .unset, .unset] [(.int (3 : Int32)), (.int ((p0.toUInt32 >>> ((4 : Int32) &&& 31).toUInt32).toInt32)), (.int (1 : Int32)), (.ref b1)]))
  refine Wp.step (fun t k => XS.iand X14.here hx rfl (hb hby at_60) rfl k) ?_
  show Wp p e below _ (T14.setTop (mkF m 61 #[.val (.int p0), .val (.int p1), .val (.int p2), .val (.int p3), .val (.int p4), .val (.int p5), .val (.int (Int32.ofNat nw)), .val (.int (Int32.ofNat mk)), .val (.ref b1), .val (.ref b3), .val (.ref b6), .unset, .unset, .unset] [(.int (((p0.toUInt32 >>> ((4 : Int32) &&& 31).toUInt32).toInt32) &&& (3 : Int32))), (.int (1 : Int32)), (.ref b1)]))
  refine Wp.step (fun t k => XS.iload X14.here hx rfl (hb hby at_61) rfl k) ?_
  show Wp p e below _ (T14.setTop (mkF m 63 #[.val (.int p0), .val (.int p1), .val (.int p2), .val (.int p3), .val (.int p4), .val (.int p5), .val (.int (Int32.ofNat nw)), .val (.int (Int32.ofNat mk)), .val (.ref b1), .val (.ref b3), .val (.ref b6), .unset, .unset, .unset] [(.int (Int32.ofNat nw)), (.int (((p0.toUInt32 >>> ((4 : Int32) &&& 31).toUInt32).toInt32) &&& (3 : Int32))), (.int (1 : Int32)), (.ref b1)]))
  refine Wp.step (fun t k => Jvm.RoadKit.iremM X14 hx rfl (hb hby at_63) rfl (own_ne0 hn1 hn4) k) ?_
  show Wp p e below _ (T14.setTop (mkF m 64 #[.val (.int p0), .val (.int p1), .val (.int p2), .val (.int p3), .val (.int p4), .val (.int p5), .val (.int (Int32.ofNat nw)), .val (.int (Int32.ofNat mk)), .val (.ref b1), .val (.ref b3), .val (.ref b6), .unset, .unset, .unset] [(.int ((((p0.toUInt32 >>> ((4 : Int32) &&& 31).toUInt32).toInt32) &&& (3 : Int32)) % (Int32.ofNat nw))), (.int (1 : Int32)), (.ref b1)]))
  obtain ⟨k1, hk1, hsk1⟩ := own_mod ((p0.toUInt32 >>> ((4 : Int32) &&& 31).toUInt32).toInt32) hn1 hn4
  rw [show ((((p0.toUInt32 >>> ((4 : Int32) &&& 31).toUInt32).toInt32) &&& (3 : Int32)) % (Int32.ofNat nw)) = (Int32.ofNat k1) from hsk1]
  obtain ⟨cl18, Ar18, Sz18, Nn18, El18⟩ := id B16
  have hin18 : ¬ ((1 : Int32) < 0 ∨ cl18.slots.size ≤ ((1 : Int32)).toNatClampNeg) := inb_of Sz18 ⟨by decide, by decide⟩
  obtain ⟨T18, h18, X18, e18, W18, st18⟩ := stI X14 hx hZ e14 Ar18 (j := (1 : Int32)) hin18 (g := (mkF m 64 #[.val (.int p0), .val (.int p1), .val (.int p2), .val (.int p3), .val (.int p4), .val (.int p5), .val (.int (Int32.ofNat nw)), .val (.int (Int32.ofNat mk)), .val (.ref b1), .val (.ref b3), .val (.ref b6), .unset, .unset, .unset] [(.int (Int32.ofNat k1)), (.int (1 : Int32)), (.ref b1)])) rfl rfl (hb hby at_64)
  have B19 := B15.other W18 (Ne.symm ne_b1_b3)
  have B20 := B14.other W18 (Ne.symm ne_b1_b6)
  have K21 := K17.wr W18 (Or.inr sz_b1)
  have N18 := Fr.snoc X18 N14 g_b1
  have B18 := own_IA.set Ar18 Sz18 Nn18 El18 W18 rfl
  rw [show ((1 : Int32)).toNatClampNeg = 1 from rfl] at B18
  refine Wp.step st18 ?_
  show Wp p e below _ (T18.setTop (mkF m 65 #[.val (.int p0), .val (.int p1), .val (.int p2), .val (.int p3), .val (.int p4), .val (.int p5), .val (.int (Int32.ofNat nw)), .val (.int (Int32.ofNat mk)), .val (.ref b1), .val (.ref b3), .val (.ref b6), .unset, .unset, .unset] []))
  refine Wp.step (fun t k => XS.aload X18.here hx rfl (hb hby at_65) rfl rfl k) ?_
  show Wp p e below _ (T18.setTop (mkF m 67 #[.val (.int p0), .val (.int p1), .val (.int p2), .val (.int p3), .val (.int p4), .val (.int p5), .val (.int (Int32.ofNat nw)), .val (.int (Int32.ofNat mk)), .val (.ref b1), .val (.ref b3), .val (.ref b6), .unset, .unset, .unset] [(.ref b6)]))
  refine Wp.step (fun t k => XS.iconst X18.here hx rfl (hb hby at_67) k) ?_
  show Wp p e below _ (T18.setTop (mkF m 68 #[.val (.int p0), .val (.int p1), .val (.int p2), .val (.int p3), .val (.int p4), .val (.int p5), .val (.int (Int32.ofNat nw)), .val (.int (Int32.ofNat mk)), .val (.ref b1), .val (.ref b3), .val (.ref b6), .unset, .unset, .unset] [(.int (1 : Int32)), (.ref b6)]))
  refine Wp.step (fun t k => XS.iloadN X18.here hx rfl (hb hby at_68) rfl k) ?_
  show Wp p e below _ (T18.setTop (mkF m 69 #[.val (.int p0), .val (.int p1), .val (.int p2), .val (.int p3), .val (.int p4), .val (.int p5), .val (.int (Int32.ofNat nw)), .val (.int (Int32.ofNat mk)), .val (.ref b1), .val (.ref b3), .val (.ref b6), .unset, .unset, .unset] [(.int p0), (.int (1 : Int32)), (.ref b6)]))
  refine Wp.step (fun t k => XS.bipush X18.here hx rfl (hb hby at_69) k) ?_
  show Wp p e below _ (T18.setTop (mkF m 71 #[.val (.int p0), .val (.int p1), .val (.int p2), .val (.int p3), .val (.int p4), .val (.int p5), .val (.int (Int32.ofNat nw)), .val (.int (Int32.ofNat mk)), .val (.ref b1), .val (.ref b3), .val (.ref b6), .unset, .unset, .unset] [(.int (6 : Int32)), (.int p0), (.int (1 : Int32)), (.ref b6)]))
  refine Wp.step (fun t k => XS.iushr X18.here hx rfl (hb hby at_71) rfl k) ?_
  show Wp p e below _ (T18.setTop (mkF m 72 #[.val (.int p0), .val (.int p1), .val (.int p2), .val (.int p3), .val (.int p4), .val (.int p5), .val (.int (Int32.ofNat nw)), .val (.int (Int32.ofNat mk)), .val (.ref b1), .val (.ref b3), .val (.ref b6), .unset, .unset, .unset] [(.int ((p0.toUInt32 >>> ((6 : Int32) &&& 31).toUInt32).toInt32)), (.int (1 : Int32)), (.ref b6)]))
  refine Wp.step (fun t k => XS.iconst X18.here hx rfl (hb hby at_72) k) ?_
  show Wp p e below _ (T18.setTop (mkF m 73 #[.val (.int p0), .val (.int p1), .val (.int p2), .val (.int p3), .val (.int p4), .val (.int p5), .val (.int (Int32.ofNat nw)), .val (.int (Int32.ofNat mk)), .val (.ref b1), .val (.ref b3), .val (.ref b6), .unset, .unset, .unset] [(.int (3 : Int32)), (.int ((p0.toUInt32 >>> ((6 : Int32) &&& 31).toUInt32).toInt32)), (.int (1 : Int32)), (.ref b6)]))
  refine Wp.step (fun t k => XS.iand X18.here hx rfl (hb hby at_73) rfl k) ?_
  show Wp p e below _ (T18.setTop (mkF m 74 #[.val (.int p0), .val (.int p1), .val (.int p2), .val (.int p3), .val (.int p4), .val (.int p5), .val (.int (Int32.ofNat nw)), .val (.int (Int32.ofNat mk)), .val (.ref b1), .val (.ref b3), .val (.ref b6), .unset, .unset, .unset] [(.int (((p0.toUInt32 >>> ((6 : Int32) &&& 31).toUInt32).toInt32) &&& (3 : Int32))), (.int (1 : Int32)), (.ref b6)]))
  refine Wp.step (fun t k => XS.iload X18.here hx rfl (hb hby at_74) rfl k) ?_
  show Wp p e below _ (T18.setTop (mkF m 76 #[.val (.int p0), .val (.int p1), .val (.int p2), .val (.int p3), .val (.int p4), .val (.int p5), .val (.int (Int32.ofNat nw)), .val (.int (Int32.ofNat mk)), .val (.ref b1), .val (.ref b3), .val (.ref b6), .unset, .unset, .unset] [(.int (Int32.ofNat nw)), (.int (((p0.toUInt32 >>> ((6 : Int32) &&& 31).toUInt32).toInt32) &&& (3 : Int32))), (.int (1 : Int32)), (.ref b6)]))
  refine Wp.step (fun t k => Jvm.RoadKit.iremM X18 hx rfl (hb hby at_76) rfl (own_ne0 hn1 hn4) k) ?_
  show Wp p e below _ (T18.setTop (mkF m 77 #[.val (.int p0), .val (.int p1), .val (.int p2), .val (.int p3), .val (.int p4), .val (.int p5), .val (.int (Int32.ofNat nw)), .val (.int (Int32.ofNat mk)), .val (.ref b1), .val (.ref b3), .val (.ref b6), .unset, .unset, .unset] [(.int ((((p0.toUInt32 >>> ((6 : Int32) &&& 31).toUInt32).toInt32) &&& (3 : Int32)) % (Int32.ofNat nw))), (.int (1 : Int32)), (.ref b6)]))
  obtain ⟨l1, hl1, hsl1⟩ := own_mod ((p0.toUInt32 >>> ((6 : Int32) &&& 31).toUInt32).toInt32) hn1 hn4
  rw [show ((((p0.toUInt32 >>> ((6 : Int32) &&& 31).toUInt32).toInt32) &&& (3 : Int32)) % (Int32.ofNat nw)) = (Int32.ofNat l1) from hsl1]
  obtain ⟨cl22, Ar22, Sz22, Nn22, El22⟩ := id B20
  have hin22 : ¬ ((1 : Int32) < 0 ∨ cl22.slots.size ≤ ((1 : Int32)).toNatClampNeg) := inb_of Sz22 ⟨by decide, by decide⟩
  obtain ⟨T22, h22, X22, e22, W22, st22⟩ := stI X18 hx hZ e18 Ar22 (j := (1 : Int32)) hin22 (g := (mkF m 77 #[.val (.int p0), .val (.int p1), .val (.int p2), .val (.int p3), .val (.int p4), .val (.int p5), .val (.int (Int32.ofNat nw)), .val (.int (Int32.ofNat mk)), .val (.ref b1), .val (.ref b3), .val (.ref b6), .unset, .unset, .unset] [(.int (Int32.ofNat l1)), (.int (1 : Int32)), (.ref b6)])) rfl rfl (hb hby at_77)
  have B23 := B19.other W22 ne_b3_b6
  have B24 := B18.other W22 ne_b1_b6
  have K25 := K21.wr W22 (Or.inr sz_b6)
  have N22 := Fr.snoc X22 N18 g_b6
  have B22 := own_IA.set Ar22 Sz22 Nn22 El22 W22 rfl
  rw [show ((1 : Int32)).toNatClampNeg = 1 from rfl] at B22
  refine Wp.step st22 ?_
  show Wp p e below _ (T22.setTop (mkF m 78 #[.val (.int p0), .val (.int p1), .val (.int p2), .val (.int p3), .val (.int p4), .val (.int p5), .val (.int (Int32.ofNat nw)), .val (.int (Int32.ofNat mk)), .val (.ref b1), .val (.ref b3), .val (.ref b6), .unset, .unset, .unset] []))
  refine Wp.step (fun t k => XS.aload X22.here hx rfl (hb hby at_78) rfl rfl k) ?_
  show Wp p e below _ (T22.setTop (mkF m 80 #[.val (.int p0), .val (.int p1), .val (.int p2), .val (.int p3), .val (.int p4), .val (.int p5), .val (.int (Int32.ofNat nw)), .val (.int (Int32.ofNat mk)), .val (.ref b1), .val (.ref b3), .val (.ref b6), .unset, .unset, .unset] [(.ref b1)]))
  refine Wp.step (fun t k => XS.iconst X22.here hx rfl (hb hby at_80) k) ?_
  show Wp p e below _ (T22.setTop (mkF m 81 #[.val (.int p0), .val (.int p1), .val (.int p2), .val (.int p3), .val (.int p4), .val (.int p5), .val (.int (Int32.ofNat nw)), .val (.int (Int32.ofNat mk)), .val (.ref b1), .val (.ref b3), .val (.ref b6), .unset, .unset, .unset] [(.int (2 : Int32)), (.ref b1)]))
  refine Wp.step (fun t k => XS.iloadN X22.here hx rfl (hb hby at_81) rfl k) ?_
  show Wp p e below _ (T22.setTop (mkF m 82 #[.val (.int p0), .val (.int p1), .val (.int p2), .val (.int p3), .val (.int p4), .val (.int p5), .val (.int (Int32.ofNat nw)), .val (.int (Int32.ofNat mk)), .val (.ref b1), .val (.ref b3), .val (.ref b6), .unset, .unset, .unset] [(.int p0), (.int (2 : Int32)), (.ref b1)]))
  refine Wp.step (fun t k => XS.bipush X22.here hx rfl (hb hby at_82) k) ?_
  show Wp p e below _ (T22.setTop (mkF m 84 #[.val (.int p0), .val (.int p1), .val (.int p2), .val (.int p3), .val (.int p4), .val (.int p5), .val (.int (Int32.ofNat nw)), .val (.int (Int32.ofNat mk)), .val (.ref b1), .val (.ref b3), .val (.ref b6), .unset, .unset, .unset] [(.int (8 : Int32)), (.int p0), (.int (2 : Int32)), (.ref b1)]))
  refine Wp.step (fun t k => XS.iushr X22.here hx rfl (hb hby at_84) rfl k) ?_
  show Wp p e below _ (T22.setTop (mkF m 85 #[.val (.int p0), .val (.int p1), .val (.int p2), .val (.int p3), .val (.int p4), .val (.int p5), .val (.int (Int32.ofNat nw)), .val (.int (Int32.ofNat mk)), .val (.ref b1), .val (.ref b3), .val (.ref b6), .unset, .unset, .unset] [(.int ((p0.toUInt32 >>> ((8 : Int32) &&& 31).toUInt32).toInt32)), (.int (2 : Int32)), (.ref b1)]))
  refine Wp.step (fun t k => XS.iconst X22.here hx rfl (hb hby at_85) k) ?_
  show Wp p e below _ (T22.setTop (mkF m 86 #[.val (.int p0), .val (.int p1), .val (.int p2), .val (.int p3), .val (.int p4), .val (.int p5), .val (.int (Int32.ofNat nw)), .val (.int (Int32.ofNat mk)), .val (.ref b1), .val (.ref b3), .val (.ref b6), .unset, .unset, .unset] [(.int (3 : Int32)), (.int ((p0.toUInt32 >>> ((8 : Int32) &&& 31).toUInt32).toInt32)), (.int (2 : Int32)), (.ref b1)]))
  refine Wp.step (fun t k => XS.iand X22.here hx rfl (hb hby at_86) rfl k) ?_
  show Wp p e below _ (T22.setTop (mkF m 87 #[.val (.int p0), .val (.int p1), .val (.int p2), .val (.int p3), .val (.int p4), .val (.int p5), .val (.int (Int32.ofNat nw)), .val (.int (Int32.ofNat mk)), .val (.ref b1), .val (.ref b3), .val (.ref b6), .unset, .unset, .unset] [(.int (((p0.toUInt32 >>> ((8 : Int32) &&& 31).toUInt32).toInt32) &&& (3 : Int32))), (.int (2 : Int32)), (.ref b1)]))
  refine Wp.step (fun t k => XS.iload X22.here hx rfl (hb hby at_87) rfl k) ?_
  show Wp p e below _ (T22.setTop (mkF m 89 #[.val (.int p0), .val (.int p1), .val (.int p2), .val (.int p3), .val (.int p4), .val (.int p5), .val (.int (Int32.ofNat nw)), .val (.int (Int32.ofNat mk)), .val (.ref b1), .val (.ref b3), .val (.ref b6), .unset, .unset, .unset] [(.int (Int32.ofNat nw)), (.int (((p0.toUInt32 >>> ((8 : Int32) &&& 31).toUInt32).toInt32) &&& (3 : Int32))), (.int (2 : Int32)), (.ref b1)]))
  refine Wp.step (fun t k => Jvm.RoadKit.iremM X22 hx rfl (hb hby at_89) rfl (own_ne0 hn1 hn4) k) ?_
  show Wp p e below _ (T22.setTop (mkF m 90 #[.val (.int p0), .val (.int p1), .val (.int p2), .val (.int p3), .val (.int p4), .val (.int p5), .val (.int (Int32.ofNat nw)), .val (.int (Int32.ofNat mk)), .val (.ref b1), .val (.ref b3), .val (.ref b6), .unset, .unset, .unset] [(.int ((((p0.toUInt32 >>> ((8 : Int32) &&& 31).toUInt32).toInt32) &&& (3 : Int32)) % (Int32.ofNat nw))), (.int (2 : Int32)), (.ref b1)]))
  obtain ⟨k2, hk2, hsk2⟩ := own_mod ((p0.toUInt32 >>> ((8 : Int32) &&& 31).toUInt32).toInt32) hn1 hn4
  rw [show ((((p0.toUInt32 >>> ((8 : Int32) &&& 31).toUInt32).toInt32) &&& (3 : Int32)) % (Int32.ofNat nw)) = (Int32.ofNat k2) from hsk2]
  obtain ⟨cl26, Ar26, Sz26, Nn26, El26⟩ := id B24
  have hin26 : ¬ ((2 : Int32) < 0 ∨ cl26.slots.size ≤ ((2 : Int32)).toNatClampNeg) := inb_of Sz26 ⟨by decide, by decide⟩
  obtain ⟨T26, h26, X26, e26, W26, st26⟩ := stI X22 hx hZ e22 Ar26 (j := (2 : Int32)) hin26 (g := (mkF m 90 #[.val (.int p0), .val (.int p1), .val (.int p2), .val (.int p3), .val (.int p4), .val (.int p5), .val (.int (Int32.ofNat nw)), .val (.int (Int32.ofNat mk)), .val (.ref b1), .val (.ref b3), .val (.ref b6), .unset, .unset, .unset] [(.int (Int32.ofNat k2)), (.int (2 : Int32)), (.ref b1)])) rfl rfl (hb hby at_90)
  have B27 := B23.other W26 (Ne.symm ne_b1_b3)
  have B28 := B22.other W26 (Ne.symm ne_b1_b6)
  have K29 := K25.wr W26 (Or.inr sz_b1)
  have N26 := Fr.snoc X26 N22 g_b1
  have B26 := own_IA.set Ar26 Sz26 Nn26 El26 W26 rfl
  rw [show ((2 : Int32)).toNatClampNeg = 2 from rfl] at B26
  refine Wp.step st26 ?_
  show Wp p e below _ (T26.setTop (mkF m 91 #[.val (.int p0), .val (.int p1), .val (.int p2), .val (.int p3), .val (.int p4), .val (.int p5), .val (.int (Int32.ofNat nw)), .val (.int (Int32.ofNat mk)), .val (.ref b1), .val (.ref b3), .val (.ref b6), .unset, .unset, .unset] []))
  refine Wp.step (fun t k => XS.aload X26.here hx rfl (hb hby at_91) rfl rfl k) ?_
  show Wp p e below _ (T26.setTop (mkF m 93 #[.val (.int p0), .val (.int p1), .val (.int p2), .val (.int p3), .val (.int p4), .val (.int p5), .val (.int (Int32.ofNat nw)), .val (.int (Int32.ofNat mk)), .val (.ref b1), .val (.ref b3), .val (.ref b6), .unset, .unset, .unset] [(.ref b6)]))
  refine Wp.step (fun t k => XS.iconst X26.here hx rfl (hb hby at_93) k) ?_
  show Wp p e below _ (T26.setTop (mkF m 94 #[.val (.int p0), .val (.int p1), .val (.int p2), .val (.int p3), .val (.int p4), .val (.int p5), .val (.int (Int32.ofNat nw)), .val (.int (Int32.ofNat mk)), .val (.ref b1), .val (.ref b3), .val (.ref b6), .unset, .unset, .unset] [(.int (2 : Int32)), (.ref b6)]))
  refine Wp.step (fun t k => XS.iloadN X26.here hx rfl (hb hby at_94) rfl k) ?_
  show Wp p e below _ (T26.setTop (mkF m 95 #[.val (.int p0), .val (.int p1), .val (.int p2), .val (.int p3), .val (.int p4), .val (.int p5), .val (.int (Int32.ofNat nw)), .val (.int (Int32.ofNat mk)), .val (.ref b1), .val (.ref b3), .val (.ref b6), .unset, .unset, .unset] [(.int p0), (.int (2 : Int32)), (.ref b6)]))
  refine Wp.step (fun t k => XS.bipush X26.here hx rfl (hb hby at_95) k) ?_
  show Wp p e below _ (T26.setTop (mkF m 97 #[.val (.int p0), .val (.int p1), .val (.int p2), .val (.int p3), .val (.int p4), .val (.int p5), .val (.int (Int32.ofNat nw)), .val (.int (Int32.ofNat mk)), .val (.ref b1), .val (.ref b3), .val (.ref b6), .unset, .unset, .unset] [(.int (10 : Int32)), (.int p0), (.int (2 : Int32)), (.ref b6)]))
  refine Wp.step (fun t k => XS.iushr X26.here hx rfl (hb hby at_97) rfl k) ?_
  show Wp p e below _ (T26.setTop (mkF m 98 #[.val (.int p0), .val (.int p1), .val (.int p2), .val (.int p3), .val (.int p4), .val (.int p5), .val (.int (Int32.ofNat nw)), .val (.int (Int32.ofNat mk)), .val (.ref b1), .val (.ref b3), .val (.ref b6), .unset, .unset, .unset] [(.int ((p0.toUInt32 >>> ((10 : Int32) &&& 31).toUInt32).toInt32)), (.int (2 : Int32)), (.ref b6)]))
  refine Wp.step (fun t k => XS.iconst X26.here hx rfl (hb hby at_98) k) ?_
  show Wp p e below _ (T26.setTop (mkF m 99 #[.val (.int p0), .val (.int p1), .val (.int p2), .val (.int p3), .val (.int p4), .val (.int p5), .val (.int (Int32.ofNat nw)), .val (.int (Int32.ofNat mk)), .val (.ref b1), .val (.ref b3), .val (.ref b6), .unset, .unset, .unset] [(.int (3 : Int32)), (.int ((p0.toUInt32 >>> ((10 : Int32) &&& 31).toUInt32).toInt32)), (.int (2 : Int32)), (.ref b6)]))
  refine Wp.step (fun t k => XS.iand X26.here hx rfl (hb hby at_99) rfl k) ?_
  show Wp p e below _ (T26.setTop (mkF m 100 #[.val (.int p0), .val (.int p1), .val (.int p2), .val (.int p3), .val (.int p4), .val (.int p5), .val (.int (Int32.ofNat nw)), .val (.int (Int32.ofNat mk)), .val (.ref b1), .val (.ref b3), .val (.ref b6), .unset, .unset, .unset] [(.int (((p0.toUInt32 >>> ((10 : Int32) &&& 31).toUInt32).toInt32) &&& (3 : Int32))), (.int (2 : Int32)), (.ref b6)]))
  refine Wp.step (fun t k => XS.iload X26.here hx rfl (hb hby at_100) rfl k) ?_
  show Wp p e below _ (T26.setTop (mkF m 102 #[.val (.int p0), .val (.int p1), .val (.int p2), .val (.int p3), .val (.int p4), .val (.int p5), .val (.int (Int32.ofNat nw)), .val (.int (Int32.ofNat mk)), .val (.ref b1), .val (.ref b3), .val (.ref b6), .unset, .unset, .unset] [(.int (Int32.ofNat nw)), (.int (((p0.toUInt32 >>> ((10 : Int32) &&& 31).toUInt32).toInt32) &&& (3 : Int32))), (.int (2 : Int32)), (.ref b6)]))
  refine Wp.step (fun t k => Jvm.RoadKit.iremM X26 hx rfl (hb hby at_102) rfl (own_ne0 hn1 hn4) k) ?_
  show Wp p e below _ (T26.setTop (mkF m 103 #[.val (.int p0), .val (.int p1), .val (.int p2), .val (.int p3), .val (.int p4), .val (.int p5), .val (.int (Int32.ofNat nw)), .val (.int (Int32.ofNat mk)), .val (.ref b1), .val (.ref b3), .val (.ref b6), .unset, .unset, .unset] [(.int ((((p0.toUInt32 >>> ((10 : Int32) &&& 31).toUInt32).toInt32) &&& (3 : Int32)) % (Int32.ofNat nw))), (.int (2 : Int32)), (.ref b6)]))
  obtain ⟨l2, hl2, hsl2⟩ := own_mod ((p0.toUInt32 >>> ((10 : Int32) &&& 31).toUInt32).toInt32) hn1 hn4
  rw [show ((((p0.toUInt32 >>> ((10 : Int32) &&& 31).toUInt32).toInt32) &&& (3 : Int32)) % (Int32.ofNat nw)) = (Int32.ofNat l2) from hsl2]
  obtain ⟨cl30, Ar30, Sz30, Nn30, El30⟩ := id B28
  have hin30 : ¬ ((2 : Int32) < 0 ∨ cl30.slots.size ≤ ((2 : Int32)).toNatClampNeg) := inb_of Sz30 ⟨by decide, by decide⟩
  obtain ⟨T30, h30, X30, e30, W30, st30⟩ := stI X26 hx hZ e26 Ar30 (j := (2 : Int32)) hin30 (g := (mkF m 103 #[.val (.int p0), .val (.int p1), .val (.int p2), .val (.int p3), .val (.int p4), .val (.int p5), .val (.int (Int32.ofNat nw)), .val (.int (Int32.ofNat mk)), .val (.ref b1), .val (.ref b3), .val (.ref b6), .unset, .unset, .unset] [(.int (Int32.ofNat l2)), (.int (2 : Int32)), (.ref b6)])) rfl rfl (hb hby at_103)
  have B31 := B27.other W30 ne_b3_b6
  have B32 := B26.other W30 ne_b1_b6
  have K33 := K29.wr W30 (Or.inr sz_b6)
  have N30 := Fr.snoc X30 N26 g_b6
  have B30 := own_IA.set Ar30 Sz30 Nn30 El30 W30 rfl
  rw [show ((2 : Int32)).toNatClampNeg = 2 from rfl] at B30
  refine Wp.step st30 ?_
  show Wp p e below _ (T30.setTop (mkF m 104 #[.val (.int p0), .val (.int p1), .val (.int p2), .val (.int p3), .val (.int p4), .val (.int p5), .val (.int (Int32.ofNat nw)), .val (.int (Int32.ofNat mk)), .val (.ref b1), .val (.ref b3), .val (.ref b6), .unset, .unset, .unset] []))
  refine Wp.step (fun t k => XS.aload X30.here hx rfl (hb hby at_104) rfl rfl k) ?_
  show Wp p e below _ (T30.setTop (mkF m 106 #[.val (.int p0), .val (.int p1), .val (.int p2), .val (.int p3), .val (.int p4), .val (.int p5), .val (.int (Int32.ofNat nw)), .val (.int (Int32.ofNat mk)), .val (.ref b1), .val (.ref b3), .val (.ref b6), .unset, .unset, .unset] [(.ref b1)]))
  refine Wp.step (fun t k => XS.iconst X30.here hx rfl (hb hby at_106) k) ?_
  show Wp p e below _ (T30.setTop (mkF m 107 #[.val (.int p0), .val (.int p1), .val (.int p2), .val (.int p3), .val (.int p4), .val (.int p5), .val (.int (Int32.ofNat nw)), .val (.int (Int32.ofNat mk)), .val (.ref b1), .val (.ref b3), .val (.ref b6), .unset, .unset, .unset] [(.int (3 : Int32)), (.ref b1)]))
  refine Wp.step (fun t k => XS.iloadN X30.here hx rfl (hb hby at_107) rfl k) ?_
  show Wp p e below _ (T30.setTop (mkF m 108 #[.val (.int p0), .val (.int p1), .val (.int p2), .val (.int p3), .val (.int p4), .val (.int p5), .val (.int (Int32.ofNat nw)), .val (.int (Int32.ofNat mk)), .val (.ref b1), .val (.ref b3), .val (.ref b6), .unset, .unset, .unset] [(.int p0), (.int (3 : Int32)), (.ref b1)]))
  refine Wp.step (fun t k => XS.bipush X30.here hx rfl (hb hby at_108) k) ?_
  show Wp p e below _ (T30.setTop (mkF m 110 #[.val (.int p0), .val (.int p1), .val (.int p2), .val (.int p3), .val (.int p4), .val (.int p5), .val (.int (Int32.ofNat nw)), .val (.int (Int32.ofNat mk)), .val (.ref b1), .val (.ref b3), .val (.ref b6), .unset, .unset, .unset] [(.int (12 : Int32)), (.int p0), (.int (3 : Int32)), (.ref b1)]))
  refine Wp.step (fun t k => XS.iushr X30.here hx rfl (hb hby at_110) rfl k) ?_
  show Wp p e below _ (T30.setTop (mkF m 111 #[.val (.int p0), .val (.int p1), .val (.int p2), .val (.int p3), .val (.int p4), .val (.int p5), .val (.int (Int32.ofNat nw)), .val (.int (Int32.ofNat mk)), .val (.ref b1), .val (.ref b3), .val (.ref b6), .unset, .unset, .unset] [(.int ((p0.toUInt32 >>> ((12 : Int32) &&& 31).toUInt32).toInt32)), (.int (3 : Int32)), (.ref b1)]))
  refine Wp.step (fun t k => XS.iconst X30.here hx rfl (hb hby at_111) k) ?_
  show Wp p e below _ (T30.setTop (mkF m 112 #[.val (.int p0), .val (.int p1), .val (.int p2), .val (.int p3), .val (.int p4), .val (.int p5), .val (.int (Int32.ofNat nw)), .val (.int (Int32.ofNat mk)), .val (.ref b1), .val (.ref b3), .val (.ref b6), .unset, .unset, .unset] [(.int (3 : Int32)), (.int ((p0.toUInt32 >>> ((12 : Int32) &&& 31).toUInt32).toInt32)), (.int (3 : Int32)), (.ref b1)]))
  refine Wp.step (fun t k => XS.iand X30.here hx rfl (hb hby at_112) rfl k) ?_
  show Wp p e below _ (T30.setTop (mkF m 113 #[.val (.int p0), .val (.int p1), .val (.int p2), .val (.int p3), .val (.int p4), .val (.int p5), .val (.int (Int32.ofNat nw)), .val (.int (Int32.ofNat mk)), .val (.ref b1), .val (.ref b3), .val (.ref b6), .unset, .unset, .unset] [(.int (((p0.toUInt32 >>> ((12 : Int32) &&& 31).toUInt32).toInt32) &&& (3 : Int32))), (.int (3 : Int32)), (.ref b1)]))
  refine Wp.step (fun t k => XS.iload X30.here hx rfl (hb hby at_113) rfl k) ?_
  show Wp p e below _ (T30.setTop (mkF m 115 #[.val (.int p0), .val (.int p1), .val (.int p2), .val (.int p3), .val (.int p4), .val (.int p5), .val (.int (Int32.ofNat nw)), .val (.int (Int32.ofNat mk)), .val (.ref b1), .val (.ref b3), .val (.ref b6), .unset, .unset, .unset] [(.int (Int32.ofNat nw)), (.int (((p0.toUInt32 >>> ((12 : Int32) &&& 31).toUInt32).toInt32) &&& (3 : Int32))), (.int (3 : Int32)), (.ref b1)]))
  refine Wp.step (fun t k => Jvm.RoadKit.iremM X30 hx rfl (hb hby at_115) rfl (own_ne0 hn1 hn4) k) ?_
  show Wp p e below _ (T30.setTop (mkF m 116 #[.val (.int p0), .val (.int p1), .val (.int p2), .val (.int p3), .val (.int p4), .val (.int p5), .val (.int (Int32.ofNat nw)), .val (.int (Int32.ofNat mk)), .val (.ref b1), .val (.ref b3), .val (.ref b6), .unset, .unset, .unset] [(.int ((((p0.toUInt32 >>> ((12 : Int32) &&& 31).toUInt32).toInt32) &&& (3 : Int32)) % (Int32.ofNat nw))), (.int (3 : Int32)), (.ref b1)]))
  obtain ⟨k3, hk3, hsk3⟩ := own_mod ((p0.toUInt32 >>> ((12 : Int32) &&& 31).toUInt32).toInt32) hn1 hn4
  rw [show ((((p0.toUInt32 >>> ((12 : Int32) &&& 31).toUInt32).toInt32) &&& (3 : Int32)) % (Int32.ofNat nw)) = (Int32.ofNat k3) from hsk3]
  obtain ⟨cl34, Ar34, Sz34, Nn34, El34⟩ := id B32
  have hin34 : ¬ ((3 : Int32) < 0 ∨ cl34.slots.size ≤ ((3 : Int32)).toNatClampNeg) := inb_of Sz34 ⟨by decide, by decide⟩
  obtain ⟨T34, h34, X34, e34, W34, st34⟩ := stI X30 hx hZ e30 Ar34 (j := (3 : Int32)) hin34 (g := (mkF m 116 #[.val (.int p0), .val (.int p1), .val (.int p2), .val (.int p3), .val (.int p4), .val (.int p5), .val (.int (Int32.ofNat nw)), .val (.int (Int32.ofNat mk)), .val (.ref b1), .val (.ref b3), .val (.ref b6), .unset, .unset, .unset] [(.int (Int32.ofNat k3)), (.int (3 : Int32)), (.ref b1)])) rfl rfl (hb hby at_116)
  have B35 := B31.other W34 (Ne.symm ne_b1_b3)
  have B36 := B30.other W34 (Ne.symm ne_b1_b6)
  have K37 := K33.wr W34 (Or.inr sz_b1)
  have N34 := Fr.snoc X34 N30 g_b1
  have B34 := own_IA.set Ar34 Sz34 Nn34 El34 W34 rfl
  rw [show ((3 : Int32)).toNatClampNeg = 3 from rfl] at B34
  refine Wp.step st34 ?_
  show Wp p e below _ (T34.setTop (mkF m 117 #[.val (.int p0), .val (.int p1), .val (.int p2), .val (.int p3), .val (.int p4), .val (.int p5), .val (.int (Int32.ofNat nw)), .val (.int (Int32.ofNat mk)), .val (.ref b1), .val (.ref b3), .val (.ref b6), .unset, .unset, .unset] []))
  refine Wp.step (fun t k => XS.aload X34.here hx rfl (hb hby at_117) rfl rfl k) ?_
  show Wp p e below _ (T34.setTop (mkF m 119 #[.val (.int p0), .val (.int p1), .val (.int p2), .val (.int p3), .val (.int p4), .val (.int p5), .val (.int (Int32.ofNat nw)), .val (.int (Int32.ofNat mk)), .val (.ref b1), .val (.ref b3), .val (.ref b6), .unset, .unset, .unset] [(.ref b6)]))
  refine Wp.step (fun t k => XS.iconst X34.here hx rfl (hb hby at_119) k) ?_
  show Wp p e below _ (T34.setTop (mkF m 120 #[.val (.int p0), .val (.int p1), .val (.int p2), .val (.int p3), .val (.int p4), .val (.int p5), .val (.int (Int32.ofNat nw)), .val (.int (Int32.ofNat mk)), .val (.ref b1), .val (.ref b3), .val (.ref b6), .unset, .unset, .unset] [(.int (3 : Int32)), (.ref b6)]))
  refine Wp.step (fun t k => XS.iloadN X34.here hx rfl (hb hby at_120) rfl k) ?_
  show Wp p e below _ (T34.setTop (mkF m 121 #[.val (.int p0), .val (.int p1), .val (.int p2), .val (.int p3), .val (.int p4), .val (.int p5), .val (.int (Int32.ofNat nw)), .val (.int (Int32.ofNat mk)), .val (.ref b1), .val (.ref b3), .val (.ref b6), .unset, .unset, .unset] [(.int p0), (.int (3 : Int32)), (.ref b6)]))
  refine Wp.step (fun t k => XS.bipush X34.here hx rfl (hb hby at_121) k) ?_
  show Wp p e below _ (T34.setTop (mkF m 123 #[.val (.int p0), .val (.int p1), .val (.int p2), .val (.int p3), .val (.int p4), .val (.int p5), .val (.int (Int32.ofNat nw)), .val (.int (Int32.ofNat mk)), .val (.ref b1), .val (.ref b3), .val (.ref b6), .unset, .unset, .unset] [(.int (14 : Int32)), (.int p0), (.int (3 : Int32)), (.ref b6)]))
  refine Wp.step (fun t k => XS.iushr X34.here hx rfl (hb hby at_123) rfl k) ?_
  show Wp p e below _ (T34.setTop (mkF m 124 #[.val (.int p0), .val (.int p1), .val (.int p2), .val (.int p3), .val (.int p4), .val (.int p5), .val (.int (Int32.ofNat nw)), .val (.int (Int32.ofNat mk)), .val (.ref b1), .val (.ref b3), .val (.ref b6), .unset, .unset, .unset] [(.int ((p0.toUInt32 >>> ((14 : Int32) &&& 31).toUInt32).toInt32)), (.int (3 : Int32)), (.ref b6)]))
  refine Wp.step (fun t k => XS.iconst X34.here hx rfl (hb hby at_124) k) ?_
  show Wp p e below _ (T34.setTop (mkF m 125 #[.val (.int p0), .val (.int p1), .val (.int p2), .val (.int p3), .val (.int p4), .val (.int p5), .val (.int (Int32.ofNat nw)), .val (.int (Int32.ofNat mk)), .val (.ref b1), .val (.ref b3), .val (.ref b6), .unset, .unset, .unset] [(.int (3 : Int32)), (.int ((p0.toUInt32 >>> ((14 : Int32) &&& 31).toUInt32).toInt32)), (.int (3 : Int32)), (.ref b6)]))
  refine Wp.step (fun t k => XS.iand X34.here hx rfl (hb hby at_125) rfl k) ?_
  show Wp p e below _ (T34.setTop (mkF m 126 #[.val (.int p0), .val (.int p1), .val (.int p2), .val (.int p3), .val (.int p4), .val (.int p5), .val (.int (Int32.ofNat nw)), .val (.int (Int32.ofNat mk)), .val (.ref b1), .val (.ref b3), .val (.ref b6), .unset, .unset, .unset] [(.int (((p0.toUInt32 >>> ((14 : Int32) &&& 31).toUInt32).toInt32) &&& (3 : Int32))), (.int (3 : Int32)), (.ref b6)]))
  refine Wp.step (fun t k => XS.iload X34.here hx rfl (hb hby at_126) rfl k) ?_
  show Wp p e below _ (T34.setTop (mkF m 128 #[.val (.int p0), .val (.int p1), .val (.int p2), .val (.int p3), .val (.int p4), .val (.int p5), .val (.int (Int32.ofNat nw)), .val (.int (Int32.ofNat mk)), .val (.ref b1), .val (.ref b3), .val (.ref b6), .unset, .unset, .unset] [(.int (Int32.ofNat nw)), (.int (((p0.toUInt32 >>> ((14 : Int32) &&& 31).toUInt32).toInt32) &&& (3 : Int32))), (.int (3 : Int32)), (.ref b6)]))
  refine Wp.step (fun t k => Jvm.RoadKit.iremM X34 hx rfl (hb hby at_128) rfl (own_ne0 hn1 hn4) k) ?_
  show Wp p e below _ (T34.setTop (mkF m 129 #[.val (.int p0), .val (.int p1), .val (.int p2), .val (.int p3), .val (.int p4), .val (.int p5), .val (.int (Int32.ofNat nw)), .val (.int (Int32.ofNat mk)), .val (.ref b1), .val (.ref b3), .val (.ref b6), .unset, .unset, .unset] [(.int ((((p0.toUInt32 >>> ((14 : Int32) &&& 31).toUInt32).toInt32) &&& (3 : Int32)) % (Int32.ofNat nw))), (.int (3 : Int32)), (.ref b6)]))
  obtain ⟨l3, hl3, hsl3⟩ := own_mod ((p0.toUInt32 >>> ((14 : Int32) &&& 31).toUInt32).toInt32) hn1 hn4
  rw [show ((((p0.toUInt32 >>> ((14 : Int32) &&& 31).toUInt32).toInt32) &&& (3 : Int32)) % (Int32.ofNat nw)) = (Int32.ofNat l3) from hsl3]
  obtain ⟨cl38, Ar38, Sz38, Nn38, El38⟩ := id B36
  have hin38 : ¬ ((3 : Int32) < 0 ∨ cl38.slots.size ≤ ((3 : Int32)).toNatClampNeg) := inb_of Sz38 ⟨by decide, by decide⟩
  obtain ⟨T38, h38, X38, e38, W38, st38⟩ := stI X34 hx hZ e34 Ar38 (j := (3 : Int32)) hin38 (g := (mkF m 129 #[.val (.int p0), .val (.int p1), .val (.int p2), .val (.int p3), .val (.int p4), .val (.int p5), .val (.int (Int32.ofNat nw)), .val (.int (Int32.ofNat mk)), .val (.ref b1), .val (.ref b3), .val (.ref b6), .unset, .unset, .unset] [(.int (Int32.ofNat l3)), (.int (3 : Int32)), (.ref b6)])) rfl rfl (hb hby at_129)
  have B39 := B35.other W38 ne_b3_b6
  have B40 := B34.other W38 ne_b1_b6
  have K41 := K37.wr W38 (Or.inr sz_b6)
  have N38 := Fr.snoc X38 N34 g_b6
  have B38 := own_IA.set Ar38 Sz38 Nn38 El38 W38 rfl
  rw [show ((3 : Int32)).toNatClampNeg = 3 from rfl] at B38
  refine Wp.step st38 ?_
  show Wp p e below _ (T38.setTop (mkF m 130 #[.val (.int p0), .val (.int p1), .val (.int p2), .val (.int p3), .val (.int p4), .val (.int p5), .val (.int (Int32.ofNat nw)), .val (.int (Int32.ofNat mk)), .val (.ref b1), .val (.ref b3), .val (.ref b6), .unset, .unset, .unset] []))
  refine Wp.step (fun t k => XS.aload X38.here hx rfl (hb hby at_130) rfl rfl k) ?_
  show Wp p e below _ (T38.setTop (mkF m 132 #[.val (.int p0), .val (.int p1), .val (.int p2), .val (.int p3), .val (.int p4), .val (.int p5), .val (.int (Int32.ofNat nw)), .val (.int (Int32.ofNat mk)), .val (.ref b1), .val (.ref b3), .val (.ref b6), .unset, .unset, .unset] [(.ref b3)]))
  refine Wp.step (fun t k => XS.iconst X38.here hx rfl (hb hby at_132) k) ?_
  show Wp p e below _ (T38.setTop (mkF m 133 #[.val (.int p0), .val (.int p1), .val (.int p2), .val (.int p3), .val (.int p4), .val (.int p5), .val (.int (Int32.ofNat nw)), .val (.int (Int32.ofNat mk)), .val (.ref b1), .val (.ref b3), .val (.ref b6), .unset, .unset, .unset] [(.int (0 : Int32)), (.ref b3)]))
  have kont42 : ∀ (rr0 : Int32), Wp p e below (Out s (Q0 Z p0 p1 p2 p3 p4 p5 h0 n0) room_1.cells room_1.slots) (T38.setTop (mkF m 144 #[.val (.int p0), .val (.int p1), .val (.int p2), .val (.int p3), .val (.int p4), .val (.int p5), .val (.int (Int32.ofNat nw)), .val (.int (Int32.ofNat mk)), .val (.ref b1), .val (.ref b3), .val (.ref b6), .unset, .unset, .unset] [(.int rr0), (.int (0 : Int32)), (.ref b3)])) := by
    intro rr0
    obtain ⟨cl43, Ar43, Sz43, Nn43, El43⟩ := id B39
    have hin43 : ¬ ((0 : Int32) < 0 ∨ cl43.slots.size ≤ ((0 : Int32)).toNatClampNeg) := inb_of Sz43 ⟨by decide, by decide⟩
    obtain ⟨T43, h43, X43, e43, W43, st43⟩ := stI X38 hx hZ e38 Ar43 (j := (0 : Int32)) hin43 (g := (mkF m 144 #[.val (.int p0), .val (.int p1), .val (.int p2), .val (.int p3), .val (.int p4), .val (.int p5), .val (.int (Int32.ofNat nw)), .val (.int (Int32.ofNat mk)), .val (.ref b1), .val (.ref b3), .val (.ref b6), .unset, .unset, .unset] [(.int rr0), (.int (0 : Int32)), (.ref b3)])) rfl rfl (hb hby at_144)
    have B44 := B40.other W43 ne_b1_b3
    have B45 := B38.other W43 (Ne.symm ne_b3_b6)
    have K46 := K41.wr W43 (Or.inr sz_b3)
    have N43 := Fr.snoc X43 N38 g_b3
    have B43 := own_IA.set Ar43 Sz43 Nn43 El43 W43 rfl
    rw [show ((0 : Int32)).toNatClampNeg = 0 from rfl] at B43
    refine Wp.step st43 ?_
    show Wp p e below _ (T43.setTop (mkF m 145 #[.val (.int p0), .val (.int p1), .val (.int p2), .val (.int p3), .val (.int p4), .val (.int p5), .val (.int (Int32.ofNat nw)), .val (.int (Int32.ofNat mk)), .val (.ref b1), .val (.ref b3), .val (.ref b6), .unset, .unset, .unset] []))
    refine Wp.step (fun t k => XS.aload X43.here hx rfl (hb hby at_145) rfl rfl k) ?_
    show Wp p e below _ (T43.setTop (mkF m 147 #[.val (.int p0), .val (.int p1), .val (.int p2), .val (.int p3), .val (.int p4), .val (.int p5), .val (.int (Int32.ofNat nw)), .val (.int (Int32.ofNat mk)), .val (.ref b1), .val (.ref b3), .val (.ref b6), .unset, .unset, .unset] [(.ref b3)]))
    refine Wp.step (fun t k => XS.iconst X43.here hx rfl (hb hby at_147) k) ?_
    show Wp p e below _ (T43.setTop (mkF m 148 #[.val (.int p0), .val (.int p1), .val (.int p2), .val (.int p3), .val (.int p4), .val (.int p5), .val (.int (Int32.ofNat nw)), .val (.int (Int32.ofNat mk)), .val (.ref b1), .val (.ref b3), .val (.ref b6), .unset, .unset, .unset] [(.int (1 : Int32)), (.ref b3)]))
    have kont47 : ∀ (rr1 : Int32), Wp p e below (Out s (Q0 Z p0 p1 p2 p3 p4 p5 h0 n0) room_1.cells room_1.slots) (T43.setTop (mkF m 159 #[.val (.int p0), .val (.int p1), .val (.int p2), .val (.int p3), .val (.int p4), .val (.int p5), .val (.int (Int32.ofNat nw)), .val (.int (Int32.ofNat mk)), .val (.ref b1), .val (.ref b3), .val (.ref b6), .unset, .unset, .unset] [(.int rr1), (.int (1 : Int32)), (.ref b3)])) := by
      intro rr1
      obtain ⟨cl48, Ar48, Sz48, Nn48, El48⟩ := id B43
      have hin48 : ¬ ((1 : Int32) < 0 ∨ cl48.slots.size ≤ ((1 : Int32)).toNatClampNeg) := inb_of Sz48 ⟨by decide, by decide⟩
      obtain ⟨T48, h48, X48, e48, W48, st48⟩ := stI X43 hx hZ e43 Ar48 (j := (1 : Int32)) hin48 (g := (mkF m 159 #[.val (.int p0), .val (.int p1), .val (.int p2), .val (.int p3), .val (.int p4), .val (.int p5), .val (.int (Int32.ofNat nw)), .val (.int (Int32.ofNat mk)), .val (.ref b1), .val (.ref b3), .val (.ref b6), .unset, .unset, .unset] [(.int rr1), (.int (1 : Int32)), (.ref b3)])) rfl rfl (hb hby at_159)
      have B49 := B44.other W48 ne_b1_b3
      have B50 := B45.other W48 (Ne.symm ne_b3_b6)
      have K51 := K46.wr W48 (Or.inr sz_b3)
      have N48 := Fr.snoc X48 N43 g_b3
      have B48 := own_IA.set Ar48 Sz48 Nn48 El48 W48 rfl
      rw [show ((1 : Int32)).toNatClampNeg = 1 from rfl] at B48
      refine Wp.step st48 ?_
      show Wp p e below _ (T48.setTop (mkF m 160 #[.val (.int p0), .val (.int p1), .val (.int p2), .val (.int p3), .val (.int p4), .val (.int p5), .val (.int (Int32.ofNat nw)), .val (.int (Int32.ofNat mk)), .val (.ref b1), .val (.ref b3), .val (.ref b6), .unset, .unset, .unset] []))
      refine Wp.step (fun t k => XS.aload X48.here hx rfl (hb hby at_160) rfl rfl k) ?_
      show Wp p e below _ (T48.setTop (mkF m 162 #[.val (.int p0), .val (.int p1), .val (.int p2), .val (.int p3), .val (.int p4), .val (.int p5), .val (.int (Int32.ofNat nw)), .val (.int (Int32.ofNat mk)), .val (.ref b1), .val (.ref b3), .val (.ref b6), .unset, .unset, .unset] [(.ref b3)]))
      refine Wp.step (fun t k => XS.iconst X48.here hx rfl (hb hby at_162) k) ?_
      show Wp p e below _ (T48.setTop (mkF m 163 #[.val (.int p0), .val (.int p1), .val (.int p2), .val (.int p3), .val (.int p4), .val (.int p5), .val (.int (Int32.ofNat nw)), .val (.int (Int32.ofNat mk)), .val (.ref b1), .val (.ref b3), .val (.ref b6), .unset, .unset, .unset] [(.int (2 : Int32)), (.ref b3)]))
      have kont52 : ∀ (rr2 : Int32), Wp p e below (Out s (Q0 Z p0 p1 p2 p3 p4 p5 h0 n0) room_1.cells room_1.slots) (T48.setTop (mkF m 174 #[.val (.int p0), .val (.int p1), .val (.int p2), .val (.int p3), .val (.int p4), .val (.int p5), .val (.int (Int32.ofNat nw)), .val (.int (Int32.ofNat mk)), .val (.ref b1), .val (.ref b3), .val (.ref b6), .unset, .unset, .unset] [(.int rr2), (.int (2 : Int32)), (.ref b3)])) := by
        intro rr2
        obtain ⟨cl53, Ar53, Sz53, Nn53, El53⟩ := id B48
        have hin53 : ¬ ((2 : Int32) < 0 ∨ cl53.slots.size ≤ ((2 : Int32)).toNatClampNeg) := inb_of Sz53 ⟨by decide, by decide⟩
        obtain ⟨T53, h53, X53, e53, W53, st53⟩ := stI X48 hx hZ e48 Ar53 (j := (2 : Int32)) hin53 (g := (mkF m 174 #[.val (.int p0), .val (.int p1), .val (.int p2), .val (.int p3), .val (.int p4), .val (.int p5), .val (.int (Int32.ofNat nw)), .val (.int (Int32.ofNat mk)), .val (.ref b1), .val (.ref b3), .val (.ref b6), .unset, .unset, .unset] [(.int rr2), (.int (2 : Int32)), (.ref b3)])) rfl rfl (hb hby at_174)
        have B54 := B49.other W53 ne_b1_b3
        have B55 := B50.other W53 (Ne.symm ne_b3_b6)
        have K56 := K51.wr W53 (Or.inr sz_b3)
        have N53 := Fr.snoc X53 N48 g_b3
        have B53 := own_IA.set Ar53 Sz53 Nn53 El53 W53 rfl
        rw [show ((2 : Int32)).toNatClampNeg = 2 from rfl] at B53
        refine Wp.step st53 ?_
        show Wp p e below _ (T53.setTop (mkF m 175 #[.val (.int p0), .val (.int p1), .val (.int p2), .val (.int p3), .val (.int p4), .val (.int p5), .val (.int (Int32.ofNat nw)), .val (.int (Int32.ofNat mk)), .val (.ref b1), .val (.ref b3), .val (.ref b6), .unset, .unset, .unset] []))
        refine Wp.step (fun t k => XS.aload X53.here hx rfl (hb hby at_175) rfl rfl k) ?_
        show Wp p e below _ (T53.setTop (mkF m 177 #[.val (.int p0), .val (.int p1), .val (.int p2), .val (.int p3), .val (.int p4), .val (.int p5), .val (.int (Int32.ofNat nw)), .val (.int (Int32.ofNat mk)), .val (.ref b1), .val (.ref b3), .val (.ref b6), .unset, .unset, .unset] [(.ref b3)]))
        refine Wp.step (fun t k => XS.iconst X53.here hx rfl (hb hby at_177) k) ?_
        show Wp p e below _ (T53.setTop (mkF m 178 #[.val (.int p0), .val (.int p1), .val (.int p2), .val (.int p3), .val (.int p4), .val (.int p5), .val (.int (Int32.ofNat nw)), .val (.int (Int32.ofNat mk)), .val (.ref b1), .val (.ref b3), .val (.ref b6), .unset, .unset, .unset] [(.int (3 : Int32)), (.ref b3)]))
        have kont57 : ∀ (rr3 : Int32), Wp p e below (Out s (Q0 Z p0 p1 p2 p3 p4 p5 h0 n0) room_1.cells room_1.slots) (T53.setTop (mkF m 190 #[.val (.int p0), .val (.int p1), .val (.int p2), .val (.int p3), .val (.int p4), .val (.int p5), .val (.int (Int32.ofNat nw)), .val (.int (Int32.ofNat mk)), .val (.ref b1), .val (.ref b3), .val (.ref b6), .unset, .unset, .unset] [(.int rr3), (.int (3 : Int32)), (.ref b3)])) := by
          intro rr3
          obtain ⟨cl58, Ar58, Sz58, Nn58, El58⟩ := id B53
          have hin58 : ¬ ((3 : Int32) < 0 ∨ cl58.slots.size ≤ ((3 : Int32)).toNatClampNeg) := inb_of Sz58 ⟨by decide, by decide⟩
          obtain ⟨T58, h58, X58, e58, W58, st58⟩ := stI X53 hx hZ e53 Ar58 (j := (3 : Int32)) hin58 (g := (mkF m 190 #[.val (.int p0), .val (.int p1), .val (.int p2), .val (.int p3), .val (.int p4), .val (.int p5), .val (.int (Int32.ofNat nw)), .val (.int (Int32.ofNat mk)), .val (.ref b1), .val (.ref b3), .val (.ref b6), .unset, .unset, .unset] [(.int rr3), (.int (3 : Int32)), (.ref b3)])) rfl rfl (hb hby at_190)
          have B59 := B54.other W58 ne_b1_b3
          have B60 := B55.other W58 (Ne.symm ne_b3_b6)
          have K61 := K56.wr W58 (Or.inr sz_b3)
          have N58 := Fr.snoc X58 N53 g_b3
          have B58 := own_IA.set Ar58 Sz58 Nn58 El58 W58 rfl
          rw [show ((3 : Int32)).toNatClampNeg = 3 from rfl] at B58
          refine Wp.step st58 ?_
          show Wp p e below _ (T58.setTop (mkF m 191 #[.val (.int p0), .val (.int p1), .val (.int p2), .val (.int p3), .val (.int p4), .val (.int p5), .val (.int (Int32.ofNat nw)), .val (.int (Int32.ofNat mk)), .val (.ref b1), .val (.ref b3), .val (.ref b6), .unset, .unset, .unset] []))
          obtain ⟨gs, hgs⟩ : ∃ z, z = (own_upd (own_upd (own_upd (own_upd (fun _ => (0 : Int32)) 0 (Int32.ofNat k0)) 1 (Int32.ofNat k1)) 2 (Int32.ofNat k2)) 3 (Int32.ofNat k3)) := ⟨_, rfl⟩
          rw [← hgs] at B59
          obtain ⟨gp, hgp⟩ : ∃ z, z = (own_upd (own_upd (own_upd (own_upd (fun _ => (0 : Int32)) 0 rr0) 1 rr1) 2 rr2) 3 rr3) := ⟨_, rfl⟩
          rw [← hgp] at B58
          obtain ⟨gt, hgt⟩ : ∃ z, z = (own_upd (own_upd (own_upd (own_upd (fun _ => (0 : Int32)) 0 (Int32.ofNat l0)) 1 (Int32.ofNat l1)) 2 (Int32.ofNat l2)) 3 (Int32.ofNat l3)) := ⟨_, rfl⟩
          rw [← hgt] at B60
          let LL62 : Array Slot := #[.val (.int p0), .val (.int p1), .val (.int p2), .val (.int p3), .val (.int p4), .val (.int p5), .val (.int (Int32.ofNat nw)), .val (.int (Int32.ofNat mk)), .val (.ref b1), .val (.ref b3), .val (.ref b6), .unset, .unset, .unset]
          show Wp p e below _ (T58.setTop (mkF m 191 LL62 []))
          have kont63 : ∀ (qq : Int32) (hqq : 0 ≤ qq.toInt), Wp p e below (Out s (Q0 Z p0 p1 p2 p3 p4 p5 h0 n0) room_1.cells room_1.slots) (T58.setTop (mkF m 213 LL62 [(.int qq)])) := by
            intro qq hqq
            refine Wp.step (fun t k => XS.istore X58.here hx rfl (hb hby at_213) rfl (l' := #[.val (.int p0), .val (.int p1), .val (.int p2), .val (.int p3), .val (.int p4), .val (.int p5), .val (.int (Int32.ofNat nw)), .val (.int (Int32.ofNat mk)), .val (.ref b1), .val (.ref b3), .val (.ref b6), .val (.int qq), .unset, .unset]) rfl k) ?_
            show Wp p e below _ (T58.setTop (mkF m 215 #[.val (.int p0), .val (.int p1), .val (.int p2), .val (.int p3), .val (.int p4), .val (.int p5), .val (.int (Int32.ofNat nw)), .val (.int (Int32.ofNat mk)), .val (.ref b1), .val (.ref b3), .val (.ref b6), .val (.int qq), .unset, .unset] []))
            obtain ⟨qw, hqw, hqe⟩ := own_nn31 hqq
            rw [hqe]
            show Wp p e below _ (T58.setTop (mkF m 215 #[.val (.int p0), .val (.int p1), .val (.int p2), .val (.int p3), .val (.int p4), .val (.int p5), .val (.int (Int32.ofNat nw)), .val (.int (Int32.ofNat mk)), .val (.ref b1), .val (.ref b3), .val (.ref b6), .val (.int (Int32.ofNat qw)), .unset, .unset] []))
            obtain ⟨T64, h64, X64, e64, E64, A64, D64, -, st64⟩ := newO X58 hx hZ hown (hw _ (List.mem_of_getElem? (i := 1) rfl)) (hw _ (List.mem_of_getElem? (i := 2) rfl)) (hw _ (List.mem_of_getElem? (i := 3) rfl)) e58 (g := (mkF m 215 #[.val (.int p0), .val (.int p1), .val (.int p2), .val (.int p3), .val (.int p4), .val (.int p5), .val (.int (Int32.ofNat nw)), .val (.int (Int32.ofNat mk)), .val (.ref b1), .val (.ref b3), .val (.ref b6), .val (.int (Int32.ofNat qw)), .unset, .unset] [])) rfl (hb hby at_215) (by decide) (by decide)
            obtain ⟨b64, g64⟩ : ∃ z, z = h58.size := ⟨_, rfl⟩
            rw [← g64] at A64 D64 st64
            have g_b64 : n0 ≤ b64 := Nat.le_trans (Nat.le_trans Z0 K61.1) (Nat.le_of_eq g64.symm)
            have sz_b64 : h0.size ≤ b64 := Nat.le_trans K61.1 (Nat.le_of_eq g64.symm)
            have ne_b1_b64 : b1 ≠ b64 := Nat.ne_of_lt (Nat.lt_of_lt_of_le B59.lt (Nat.le_of_eq g64.symm))
            have ne_b3_b64 : b3 ≠ b64 := Nat.ne_of_lt (Nat.lt_of_lt_of_le B58.lt (Nat.le_of_eq g64.symm))
            have ne_b6_b64 : b6 ≠ b64 := Nat.ne_of_lt (Nat.lt_of_lt_of_le B60.lt (Nat.le_of_eq g64.symm))
            have B65 := B59.ext E64
            have B66 := B60.ext E64
            have B67 := B58.ext E64
            have K68 := K61.ext E64
            have c69 : Fld Z h64 b64 "com/example/erotema/erotema/model/ToldEdges" "sources" "[I" .null := D64 (Or.inl (hw _ (List.mem_of_getElem? (i := 11) rfl))) (ty := (.array .int)) (by decide)
            have c70 : Fld Z h64 b64 "com/example/erotema/erotema/model/ToldEdges" "properties" "[I" .null := D64 (Or.inl (hw _ (List.mem_of_getElem? (i := 13) rfl))) (ty := (.array .int)) (by decide)
            have c71 : Fld Z h64 b64 "com/example/erotema/erotema/model/ToldEdges" "targets" "[I" .null := D64 (Or.inl (hw _ (List.mem_of_getElem? (i := 15) rfl))) (ty := (.array .int)) (by decide)
            have c72 : Fld Z h64 b64 "com/example/erotema/erotema/model/ToldEdges" "bySourceStart" "[I" .null := D64 (Or.inl (hw _ (List.mem_of_getElem? (i := 22) rfl))) (ty := (.array .int)) (by decide)
            have c73 : Fld Z h64 b64 "com/example/erotema/erotema/model/ToldEdges" "added" "I" (.int (0 : Int32)) := D64 (Or.inl (hw _ (List.mem_of_getElem? (i := 24) rfl))) (ty := .int) (by decide)
            have c74 : Fld Z h64 b64 "com/example/erotema/erotema/model/ToldEdges" "bySource" "[J" .null := D64 (Or.inl (hw _ (List.mem_of_getElem? (i := 70) rfl))) (ty := (.array .long)) (by decide)
            have c75 : Fld Z h64 b64 "com/example/erotema/erotema/model/ToldEdges" "byTargetStart" "[I" .null := D64 (Or.inl (hw _ (List.mem_of_getElem? (i := 72) rfl))) (ty := (.array .int)) (by decide)
            have c76 : Fld Z h64 b64 "com/example/erotema/erotema/model/ToldEdges" "byTarget" "[J" .null := D64 (Or.inl (hw _ (List.mem_of_getElem? (i := 74) rfl))) (ty := (.array .long)) (by decide)
            refine Wp.step st64 ?_
            show Wp p e below _ (T64.setTop (mkF m 218 #[.val (.int p0), .val (.int p1), .val (.int p2), .val (.int p3), .val (.int p4), .val (.int p5), .val (.int (Int32.ofNat nw)), .val (.int (Int32.ofNat mk)), .val (.ref b1), .val (.ref b3), .val (.ref b6), .val (.int (Int32.ofNat qw)), .unset, .unset] [(.ref b64)]))
            refine Wp.step (fun t k => XS.dup X64.here hx rfl (hb hby at_218) rfl rfl k) ?_
            show Wp p e below _ (T64.setTop (mkF m 219 #[.val (.int p0), .val (.int p1), .val (.int p2), .val (.int p3), .val (.int p4), .val (.int p5), .val (.int (Int32.ofNat nw)), .val (.int (Int32.ofNat mk)), .val (.ref b1), .val (.ref b3), .val (.ref b6), .val (.int (Int32.ofNat qw)), .unset, .unset] [(.ref b64), (.ref b64)]))
            obtain ⟨_, _, ⟨T77, L77, k77, n77⟩, -, X77, ⟨Lc77, hQ77, l77, y77, z77⟩, st77⟩ := X64.specialBack hx (y := (⟨"com/example/erotema/erotema/model/ToldEdges", "<init>", "()V"⟩ : MethodName)) rfl hown (mvT hZ (hw _ (List.mem_of_getElem? (i := 4) rfl))) (mvT hZ (hw _ (List.mem_of_getElem? (i := 5) rfl))) (mvT hZ (hw _ (List.mem_of_getElem? (i := 6) rfl))) (by decide) (backOf (W := 1) (rm1 l Z a0 hw [] b64 h64 n0 (Nat.le_trans Z0 K68.1) g_b64 A64 c69 c70 c71 c73 c72 c74 c75 c76) hZ (hw _ (List.mem_of_getElem? (i := 6) rfl)) (hw _ (List.mem_of_getElem? (i := 3) rfl)) (by decide) (by decide)) (g := (mkF m 219 #[.val (.int p0), .val (.int p1), .val (.int p2), .val (.int p3), .val (.int p4), .val (.int p5), .val (.int (Int32.ofNat nw)), .val (.int (Int32.ofNat mk)), .val (.ref b1), .val (.ref b3), .val (.ref b6), .val (.int (Int32.ofNat qw)), .unset, .unset] [(.ref b64), (.ref b64)])) rfl (by rw [hml]; rfl) (Steps.refl _) (a := b64) (argsL := []) (rest := [(.ref b64)]) (lenOf pd_2829V rfl) rfl (by show 2 * 0 + _ ≤ _; exact Nat.le_of_eq rfl) (hb hby at_219) (fun _ _ => ⟨rfl, e64, (by decide : 4 + 3 ≤ _), (by decide : 20 + 3072 ≤ _)⟩)
            dsimp only [Pt.U, Pt.locs, Pt.cells, Pt.slots] at X77 l77 y77 z77 st77 hQ77
            subst l77 y77 z77
            obtain ⟨h77, e77⟩ : ∃ z, T77.heap = z := ⟨_, rfl⟩
            rw [e77] at hQ77
            obtain ⟨b77_1, b77_2, b77_3, rfl, N77q, Kc77, zz1, zz2, zz3, nb12, nb13, nb23, Bb77_1, Bb77_2, Bb77_3, cE77, c77_sources, c77_properties, c77_targets, c77_added, c77_bySourceStart, c77_bySource, c77_byTargetStart, c77_byTarget⟩ := hQ77
            have N77 := Fr.app N58 N77q
            have g_b77_1 : n0 ≤ b77_1 := Nat.le_trans (Nat.le_trans Z0 K68.1) zz1
            have sz_b77_1 : h0.size ≤ b77_1 := Nat.le_trans K68.1 zz1
            have ne_b1_b77_1 : b1 ≠ b77_1 := Nat.ne_of_lt (Nat.lt_of_lt_of_le B65.lt zz1)
            have ne_b3_b77_1 : b3 ≠ b77_1 := Nat.ne_of_lt (Nat.lt_of_lt_of_le B67.lt zz1)
            have ne_b6_b77_1 : b6 ≠ b77_1 := Nat.ne_of_lt (Nat.lt_of_lt_of_le B66.lt zz1)
            have ne_b64_b77_1 : b64 ≠ b77_1 := Nat.ne_of_lt (Nat.lt_of_lt_of_le A64.lt zz1)
            have g_b77_2 : n0 ≤ b77_2 := Nat.le_trans (Nat.le_trans Z0 K68.1) zz2
            have sz_b77_2 : h0.size ≤ b77_2 := Nat.le_trans K68.1 zz2
            have ne_b1_b77_2 : b1 ≠ b77_2 := Nat.ne_of_lt (Nat.lt_of_lt_of_le B65.lt zz2)
            have ne_b3_b77_2 : b3 ≠ b77_2 := Nat.ne_of_lt (Nat.lt_of_lt_of_le B67.lt zz2)
            have ne_b6_b77_2 : b6 ≠ b77_2 := Nat.ne_of_lt (Nat.lt_of_lt_of_le B66.lt zz2)
            have ne_b64_b77_2 : b64 ≠ b77_2 := Nat.ne_of_lt (Nat.lt_of_lt_of_le A64.lt zz2)
            have g_b77_3 : n0 ≤ b77_3 := Nat.le_trans (Nat.le_trans Z0 K68.1) zz3
            have sz_b77_3 : h0.size ≤ b77_3 := Nat.le_trans K68.1 zz3
            have ne_b1_b77_3 : b1 ≠ b77_3 := Nat.ne_of_lt (Nat.lt_of_lt_of_le B65.lt zz3)
            have ne_b3_b77_3 : b3 ≠ b77_3 := Nat.ne_of_lt (Nat.lt_of_lt_of_le B67.lt zz3)
            have ne_b6_b77_3 : b6 ≠ b77_3 := Nat.ne_of_lt (Nat.lt_of_lt_of_le B66.lt zz3)
            have ne_b64_b77_3 : b64 ≠ b77_3 := Nat.ne_of_lt (Nat.lt_of_lt_of_le A64.lt zz3)
            have B78 := B65.keep Kc77 (ninS ne_b1_b64 nin0)
            have B79 := B66.keep Kc77 (ninS ne_b6_b64 nin0)
            have B80 := B67.keep Kc77 (ninS ne_b3_b64 nin0)
            have c81 := A64.keep Kc77
            have K77 := K68.trans Kc77 (allS (Or.inr sz_b64) all0)
            refine Wp.go st77 ?_
            show Wp p e below _ (T77.setTop (mkF m 222 #[.val (.int p0), .val (.int p1), .val (.int p2), .val (.int p3), .val (.int p4), .val (.int p5), .val (.int (Int32.ofNat nw)), .val (.int (Int32.ofNat mk)), .val (.ref b1), .val (.ref b3), .val (.ref b6), .val (.int (Int32.ofNat qw)), .unset, .unset] [(.ref b64)]))
            refine Wp.step (fun t k => XS.astore X77.here hx rfl (hb hby at_222) rfl rfl (l' := #[.val (.int p0), .val (.int p1), .val (.int p2), .val (.int p3), .val (.int p4), .val (.int p5), .val (.int (Int32.ofNat nw)), .val (.int (Int32.ofNat mk)), .val (.ref b1), .val (.ref b3), .val (.ref b6), .val (.int (Int32.ofNat qw)), .val (.ref b64), .unset]) rfl k) ?_
            show Wp p e below _ (T77.setTop (mkF m 224 #[.val (.int p0), .val (.int p1), .val (.int p2), .val (.int p3), .val (.int p4), .val (.int p5), .val (.int (Int32.ofNat nw)), .val (.int (Int32.ofNat mk)), .val (.ref b1), .val (.ref b3), .val (.ref b6), .val (.int (Int32.ofNat qw)), .val (.ref b64), .unset] []))
            obtain rfl | rfl | rfl | rfl | rfl : mk = 0 ∨ mk = 1 ∨ mk = 2 ∨ mk = 3 ∨ mk = 4 := by omega
            · show Wp p e below _ (T77.setTop (mkF m 224 #[.val (.int p0), .val (.int p1), .val (.int p2), .val (.int p3), .val (.int p4), .val (.int p5), .val (.int (Int32.ofNat nw)), .val (.int (0 : Int32)), .val (.ref b1), .val (.ref b3), .val (.ref b6), .val (.int (Int32.ofNat qw)), .val (.ref b64), .unset] []))
              let LL82 : Array Slot := #[.val (.int p0), .val (.int p1), .val (.int p2), .val (.int p3), .val (.int p4), .val (.int p5), .val (.int (Int32.ofNat nw)), .val (.int (0 : Int32)), .val (.ref b1), .val (.ref b3), .val (.ref b6), .val (.int (Int32.ofNat qw)), .val (.ref b64), .unset]
              show Wp p e below _ (T77.setTop (mkF m 224 LL82 []))
              refine Wp.step (fun t k => XS.iload X77.here hx rfl (hb hby at_224) rfl k) ?_
              show Wp p e below _ (T77.setTop (mkF m 226 LL82 [(.int (0 : Int32))]))
              refine Wp.step (fun t k => XS.ifYes X77.here hx rfl (pc0 := 226) (pc' := 246) rfl (hb hby at_226) rfl ((if0 _ _).trans (flt (show ¬ ((0 : Int32) < (0 : Int32)) by decide)).2.2.2) (by decide) (by decide) k) ?_
              show Wp p e below _ (T77.setTop (mkF m 246 LL82 []))
              refine Wp.step (fun t k => XS.iload X77.here hx rfl (hb hby at_246) rfl k) ?_
              show Wp p e below _ (T77.setTop (mkF m 248 LL82 [(.int (0 : Int32))]))
              refine Wp.step (fun t k => XS.iconst X77.here hx rfl (hb hby at_248) k) ?_
              show Wp p e below _ (T77.setTop (mkF m 249 LL82 [(.int (1 : Int32)), (.int (0 : Int32))]))
              refine Wp.step (fun t k => XS.icmpYes X77.here hx rfl (pc0 := 249) (pc' := 269) rfl (hb hby at_249) rfl (flt (show ¬ ((1 : Int32) < (0 : Int32)) by decide)).2.2.2 (by decide) (by decide) k) ?_
              show Wp p e below _ (T77.setTop (mkF m 269 LL82 []))
              refine Wp.step (fun t k => XS.iload X77.here hx rfl (hb hby at_269) rfl k) ?_
              show Wp p e below _ (T77.setTop (mkF m 271 LL82 [(.int (0 : Int32))]))
              refine Wp.step (fun t k => XS.iconst X77.here hx rfl (hb hby at_271) k) ?_
              show Wp p e below _ (T77.setTop (mkF m 272 LL82 [(.int (2 : Int32)), (.int (0 : Int32))]))
              refine Wp.step (fun t k => XS.icmpYes X77.here hx rfl (pc0 := 272) (pc' := 292) rfl (hb hby at_272) rfl (flt (show ¬ ((2 : Int32) < (0 : Int32)) by decide)).2.2.2 (by decide) (by decide) k) ?_
              show Wp p e below _ (T77.setTop (mkF m 292 LL82 []))
              refine Wp.step (fun t k => XS.iload X77.here hx rfl (hb hby at_292) rfl k) ?_
              show Wp p e below _ (T77.setTop (mkF m 294 LL82 [(.int (0 : Int32))]))
              refine Wp.step (fun t k => XS.iconst X77.here hx rfl (hb hby at_294) k) ?_
              show Wp p e below _ (T77.setTop (mkF m 295 LL82 [(.int (3 : Int32)), (.int (0 : Int32))]))
              refine Wp.step (fun t k => XS.icmpYes X77.here hx rfl (pc0 := 295) (pc' := 315) rfl (hb hby at_295) rfl (flt (show ¬ ((3 : Int32) < (0 : Int32)) by decide)).2.2.2 (by decide) (by decide) k) ?_
              show Wp p e below _ (T77.setTop (mkF m 315 LL82 []))
              refine Wp.step (fun t k => XS.aload X77.here hx rfl (hb hby at_315) rfl rfl k) ?_
              show Wp p e below _ (T77.setTop (mkF m 317 LL82 [(.ref b64)]))
              refine Wp.step (fun t k => XS.iload X77.here hx rfl (hb hby at_317) rfl k) ?_
              show Wp p e below _ (T77.setTop (mkF m 319 LL82 [(.int (Int32.ofNat nw)), (.ref b64)]))
              have hKK : ∀ i, i < 0 → (fun _ => (0 : Int32)) i = Int32.ofNat ((own_lk k0 k1 k2 k3) i) ∧ (own_lk k0 k1 k2 k3) i < nw := fun i hi => by
                match i, hi with
                | i, hi => exact absurd hi (Nat.not_lt_zero _)
              have hTT : ∀ i, i < 0 → (fun _ => (0 : Int32)) i = Int32.ofNat ((own_lk l0 l1 l2 l3) i) ∧ (own_lk l0 l1 l2 l3) i < nw := fun i hi => by
                match i, hi with
                | i, hi => exact absurd hi (Nat.not_lt_zero _)
              obtain ⟨cq87, kq87, q87a, q87b, q87c⟩ := isOf hZ e77 cE77
              obtain ⟨_, _, ⟨T87, L87, k87, n87⟩, -, X87, ⟨Lc87, hQ87, l87, y87, z87⟩, st87⟩ := X77.virtualBack hx (y := (⟨"com/example/erotema/erotema/model/ToldEdges", "index", "(I)V"⟩ : MethodName)) (z := (⟨"com/example/erotema/erotema/model/ToldEdges", "index", "(I)V"⟩ : MethodName)) hown (mvT hZ (hw _ (List.mem_of_getElem? (i := 16) rfl))) (mvT hZ (hw _ (List.mem_of_getElem? (i := 17) rfl))) (notFace_of_selects (args := #[]) (mvT hZ (hw _ (List.mem_of_getElem? (i := 19) rfl)))) (mvT hZ (hw _ (List.mem_of_getElem? (i := 19) rfl))) (mvT hZ (hw _ (List.mem_of_getElem? (i := 18) rfl))) (by decide) (backOf (W := 0) (rm3 l Z a0 hw [] b64 (Int32.ofNat nw) b77_1 b77_2 b77_3 0 nw (own_lk k0 k1 k2 k3) (own_lk l0 l1 l2 l3) (fun _ => (0 : Int32)) (fun _ => (0 : Int32)) (fun _ => (0 : Int32)) h77 n0 (Nat.le_trans Z0 K77.1) rfl g_b64 cE77 c77_sources c77_properties c77_targets c77_added c77_bySourceStart c77_bySource c77_byTargetStart c77_byTarget (Ne.symm ne_b64_b77_1) (Ne.symm ne_b64_b77_2) (Ne.symm ne_b64_b77_3) Bb77_1 Bb77_2 Bb77_3 (by omega) (by omega) hKK hTT) hZ (hw _ (List.mem_of_getElem? (i := 20) rfl)) (hw _ (List.mem_of_getElem? (i := 3) rfl)) (by decide) (by decide)) q87a q87c (g := (mkF m 319 LL82 [(.int (Int32.ofNat nw)), (.ref b64)])) rfl (by rw [hml]; rfl) (Steps.refl _) (argsL := [(.int (Int32.ofNat nw))]) (rest := []) (lenOf pd_28I29V rfl) rfl (by show 2 * 0 + _ ≤ _; exact Nat.le_of_eq rfl) (hb hby at_319) (fun _ _ => ⟨rfl, e77, (by decide : 7 + 10 ≤ _), (by decide : 3092 + 50 ≤ _)⟩)
              dsimp only [Pt.U, Pt.locs, Pt.cells, Pt.slots] at X87 l87 y87 z87 st87 hQ87
              subst l87 y87 z87
              obtain ⟨h87, e87⟩ : ∃ z, T87.heap = z := ⟨_, rfl⟩
              rw [e87] at hQ87
              obtain ⟨bs87, bt87, FF87, rfl, N87q, Kc87, cE87, cs87, Bs87, ct87, Bt87, f487, fq87⟩ := hQ87
              have N87 := Fr.app N77 N87q
              have B88 := B78.keep Kc87 (ninS ne_b1_b64 nin0)
              have B89 := B79.keep Kc87 (ninS ne_b6_b64 nin0)
              have B90 := B80.keep Kc87 (ninS ne_b3_b64 nin0)
              have c91 := cE77.keep Kc87
              have B92 := Bb77_1.keep Kc87 (ninS (Ne.symm ne_b64_b77_1) nin0)
              have B93 := Bb77_2.keep Kc87 (ninS (Ne.symm ne_b64_b77_2) nin0)
              have B94 := Bb77_3.keep Kc87 (ninS (Ne.symm ne_b64_b77_3) nin0)
              have K87 := K77.trans Kc87 (allS (Or.inr sz_b64) all0)
              refine Wp.go st87 ?_
              show Wp p e below _ (T87.setTop (mkF m 322 LL82 []))
              refine Wp.step (fun t k => XS.iconst X87.here hx rfl (hb hby at_322) k) ?_
              show Wp p e below _ (T87.setTop (mkF m 323 LL82 [(.int (0 : Int32))]))
              refine Wp.step (fun t k => XS.istore X87.here hx rfl (hb hby at_323) rfl (l' := #[.val (.int p0), .val (.int p1), .val (.int p2), .val (.int p3), .val (.int p4), .val (.int p5), .val (.int (Int32.ofNat nw)), .val (.int (0 : Int32)), .val (.ref b1), .val (.ref b3), .val (.ref b6), .val (.int (Int32.ofNat qw)), .val (.ref b64), .val (.int (0 : Int32))]) rfl k) ?_
              show Wp p e below _ (T87.setTop (mkF m 325 #[.val (.int p0), .val (.int p1), .val (.int p2), .val (.int p3), .val (.int p4), .val (.int p5), .val (.int (Int32.ofNat nw)), .val (.int (0 : Int32)), .val (.ref b1), .val (.ref b3), .val (.ref b6), .val (.int (Int32.ofNat qw)), .val (.ref b64), .val (.int (0 : Int32))] []))
              let LL95 : Array Slot := #[.val (.int p0), .val (.int p1), .val (.int p2), .val (.int p3), .val (.int p4), .val (.int p5), .val (.int (Int32.ofNat nw)), .val (.int (0 : Int32)), .val (.ref b1), .val (.ref b3), .val (.ref b6), .val (.int (Int32.ofNat qw)), .val (.ref b64), .val (.int (0 : Int32))]
              show Wp p e below _ (T87.setTop (mkF m 325 LL95 []))
              have kont96 : ∀ (cv1 : Int32) (hh_96 : Heap) (locs_96 : List Loc) (T_96 : State) (X_96 : Stand p l e room_1 s m #[(.int p0), (.int p1), (.int p2), (.int p3), (.int p4), (.int p5)] below meth c T_96 locs_96 17 3142) (eT_96 : T_96.heap = hh_96) (NN_96 : Fr n0 locs_96) (KK_96 : Keep h0 hh_96 []) (q0_96 : own_IA .int Z hh_96 b1 (4 : Int32) gs) (q1_96 : own_IA .int Z hh_96 b6 (4 : Int32) gt) (q2_96 : own_IA .int Z hh_96 b3 (4 : Int32) gp) (q3_96 : Exa Z hh_96 b64 "com/example/erotema/erotema/model/ToldEdges") (q4_96 : own_IA .int Z hh_96 b77_1 (Int32.ofNat 1024) (fun _ => (0 : Int32))) (q5_96 : own_IA .int Z hh_96 b77_2 (Int32.ofNat 1024) (fun _ => (0 : Int32))) (q6_96 : own_IA .int Z hh_96 b77_3 (Int32.ofNat 1024) (fun _ => (0 : Int32))) (q7_96 : Fld Z hh_96 b64 "com/example/erotema/erotema/model/ToldEdges" "bySourceStart" "[I" (.ref bs87)) (q8_96 : Fld Z hh_96 b64 "com/example/erotema/erotema/model/ToldEdges" "byTargetStart" "[I" (.ref bt87)) (q9_96 : own_IA .int Z hh_96 bs87 (Int32.ofNat (nw + 1)) (own_DI (own_lk k0 k1 k2 k3) (own_W (fun _ => (0 : Int32)) (fun _ => (0 : Int32))) 0)) (q10_96 : own_IA .int Z hh_96 bt87 (Int32.ofNat (nw + 1)) (fun v => Int32.ofNat (FF87 v))) (hcv1 : cv1 = own_ey gs gp gt (Int32.ofNat qw) 0), Wp p e below (Out s (Q0 Z p0 p1 p2 p3 p4 p5 h0 n0) room_1.cells room_1.slots) (T_96.setTop (mkF m 342 #[.val (.int p0), .val (.int p1), .val (.int p2), .val (.int p3), .val (.int p4), .val (.int p5), .val (.int (Int32.ofNat nw)), .val (.int (0 : Int32)), .val (.ref b1), .val (.ref b3), .val (.ref b6), .val (.int (Int32.ofNat qw)), .val (.ref b64), .val (.int cv1)] [])) := by
                intro cv1 hh_96 locs_96 T_96 X_96 eT_96 NN_96 KK_96 q0_96 q1_96 q2_96 q3_96 q4_96 q5_96 q6_96 q7_96 q8_96 q9_96 q10_96 hcv1
                let LL97 : Array Slot := #[.val (.int p0), .val (.int p1), .val (.int p2), .val (.int p3), .val (.int p4), .val (.int p5), .val (.int (Int32.ofNat nw)), .val (.int (0 : Int32)), .val (.ref b1), .val (.ref b3), .val (.ref b6), .val (.int (Int32.ofNat qw)), .val (.ref b64), .val (.int cv1)]
                show Wp p e below _ (T_96.setTop (mkF m 342 LL97 []))
                have kont98 : ∀ (cv2 : Int32) (hh_98 : Heap) (locs_98 : List Loc) (T_98 : State) (X_98 : Stand p l e room_1 s m #[(.int p0), (.int p1), (.int p2), (.int p3), (.int p4), (.int p5)] below meth c T_98 locs_98 17 3142) (eT_98 : T_98.heap = hh_98) (NN_98 : Fr n0 locs_98) (KK_98 : Keep h0 hh_98 []) (q0_98 : own_IA .int Z hh_98 b1 (4 : Int32) gs) (q1_98 : own_IA .int Z hh_98 b6 (4 : Int32) gt) (q2_98 : own_IA .int Z hh_98 b3 (4 : Int32) gp) (q3_98 : Exa Z hh_98 b64 "com/example/erotema/erotema/model/ToldEdges") (q4_98 : own_IA .int Z hh_98 b77_1 (Int32.ofNat 1024) (fun _ => (0 : Int32))) (q5_98 : own_IA .int Z hh_98 b77_2 (Int32.ofNat 1024) (fun _ => (0 : Int32))) (q6_98 : own_IA .int Z hh_98 b77_3 (Int32.ofNat 1024) (fun _ => (0 : Int32))) (q7_98 : Fld Z hh_98 b64 "com/example/erotema/erotema/model/ToldEdges" "bySourceStart" "[I" (.ref bs87)) (q8_98 : Fld Z hh_98 b64 "com/example/erotema/erotema/model/ToldEdges" "byTargetStart" "[I" (.ref bt87)) (q9_98 : own_IA .int Z hh_98 bs87 (Int32.ofNat (nw + 1)) (own_DI (own_lk k0 k1 k2 k3) (own_W (fun _ => (0 : Int32)) (fun _ => (0 : Int32))) 0)) (q10_98 : own_IA .int Z hh_98 bt87 (Int32.ofNat (nw + 1)) (fun v => Int32.ofNat (FF87 v))) (hcv2 : cv2 = own_ey gs gp gt (Int32.ofNat qw) 0), Wp p e below (Out s (Q0 Z p0 p1 p2 p3 p4 p5 h0 n0) room_1.cells room_1.slots) (T_98.setTop (mkF m 374 #[.val (.int p0), .val (.int p1), .val (.int p2), .val (.int p3), .val (.int p4), .val (.int p5), .val (.int (Int32.ofNat nw)), .val (.int (0 : Int32)), .val (.ref b1), .val (.ref b3), .val (.ref b6), .val (.int (Int32.ofNat qw)), .val (.ref b64), .val (.int cv2)] [])) := by
                  intro cv2 hh_98 locs_98 T_98 X_98 eT_98 NN_98 KK_98 q0_98 q1_98 q2_98 q3_98 q4_98 q5_98 q6_98 q7_98 q8_98 q9_98 q10_98 hcv2
                  let LL99 : Array Slot := #[.val (.int p0), .val (.int p1), .val (.int p2), .val (.int p3), .val (.int p4), .val (.int p5), .val (.int (Int32.ofNat nw)), .val (.int (0 : Int32)), .val (.ref b1), .val (.ref b3), .val (.ref b6), .val (.int (Int32.ofNat qw)), .val (.ref b64), .val (.int cv2)]
                  show Wp p e below _ (T_98.setTop (mkF m 374 LL99 []))
                  have kont100 : ∀ (cv3 : Int32) (hh_100 : Heap) (locs_100 : List Loc) (T_100 : State) (X_100 : Stand p l e room_1 s m #[(.int p0), (.int p1), (.int p2), (.int p3), (.int p4), (.int p5)] below meth c T_100 locs_100 17 3142) (eT_100 : T_100.heap = hh_100) (NN_100 : Fr n0 locs_100) (KK_100 : Keep h0 hh_100 []) (q0_100 : own_IA .int Z hh_100 b1 (4 : Int32) gs) (q1_100 : own_IA .int Z hh_100 b6 (4 : Int32) gt) (q2_100 : own_IA .int Z hh_100 b3 (4 : Int32) gp) (q3_100 : Exa Z hh_100 b64 "com/example/erotema/erotema/model/ToldEdges") (q4_100 : own_IA .int Z hh_100 b77_1 (Int32.ofNat 1024) (fun _ => (0 : Int32))) (q5_100 : own_IA .int Z hh_100 b77_2 (Int32.ofNat 1024) (fun _ => (0 : Int32))) (q6_100 : own_IA .int Z hh_100 b77_3 (Int32.ofNat 1024) (fun _ => (0 : Int32))) (q7_100 : Fld Z hh_100 b64 "com/example/erotema/erotema/model/ToldEdges" "bySourceStart" "[I" (.ref bs87)) (q8_100 : Fld Z hh_100 b64 "com/example/erotema/erotema/model/ToldEdges" "byTargetStart" "[I" (.ref bt87)) (q9_100 : own_IA .int Z hh_100 bs87 (Int32.ofNat (nw + 1)) (own_DI (own_lk k0 k1 k2 k3) (own_W (fun _ => (0 : Int32)) (fun _ => (0 : Int32))) 0)) (q10_100 : own_IA .int Z hh_100 bt87 (Int32.ofNat (nw + 1)) (fun v => Int32.ofNat (FF87 v))) (hcv3 : cv3 = own_ey gs gp gt (Int32.ofNat qw) 0), Wp p e below (Out s (Q0 Z p0 p1 p2 p3 p4 p5 h0 n0) room_1.cells room_1.slots) (T_100.setTop (mkF m 420 #[.val (.int p0), .val (.int p1), .val (.int p2), .val (.int p3), .val (.int p4), .val (.int p5), .val (.int (Int32.ofNat nw)), .val (.int (0 : Int32)), .val (.ref b1), .val (.ref b3), .val (.ref b6), .val (.int (Int32.ofNat qw)), .val (.ref b64), .val (.int cv3)] [])) := by
                    intro cv3 hh_100 locs_100 T_100 X_100 eT_100 NN_100 KK_100 q0_100 q1_100 q2_100 q3_100 q4_100 q5_100 q6_100 q7_100 q8_100 q9_100 q10_100 hcv3
                    let LL101 : Array Slot := #[.val (.int p0), .val (.int p1), .val (.int p2), .val (.int p3), .val (.int p4), .val (.int p5), .val (.int (Int32.ofNat nw)), .val (.int (0 : Int32)), .val (.ref b1), .val (.ref b3), .val (.ref b6), .val (.int (Int32.ofNat qw)), .val (.ref b64), .val (.int cv3)]
                    show Wp p e below _ (T_100.setTop (mkF m 420 LL101 []))
                    have kont102 : ∀ (cv4 : Int32) (hh_102 : Heap) (locs_102 : List Loc) (T_102 : State) (X_102 : Stand p l e room_1 s m #[(.int p0), (.int p1), (.int p2), (.int p3), (.int p4), (.int p5)] below meth c T_102 locs_102 17 3142) (eT_102 : T_102.heap = hh_102) (NN_102 : Fr n0 locs_102) (KK_102 : Keep h0 hh_102 []) (q0_102 : own_IA .int Z hh_102 b1 (4 : Int32) gs) (q1_102 : own_IA .int Z hh_102 b6 (4 : Int32) gt) (q2_102 : own_IA .int Z hh_102 b3 (4 : Int32) gp) (q3_102 : Exa Z hh_102 b64 "com/example/erotema/erotema/model/ToldEdges") (q4_102 : own_IA .int Z hh_102 b77_1 (Int32.ofNat 1024) (fun _ => (0 : Int32))) (q5_102 : own_IA .int Z hh_102 b77_2 (Int32.ofNat 1024) (fun _ => (0 : Int32))) (q6_102 : own_IA .int Z hh_102 b77_3 (Int32.ofNat 1024) (fun _ => (0 : Int32))) (q7_102 : Fld Z hh_102 b64 "com/example/erotema/erotema/model/ToldEdges" "bySourceStart" "[I" (.ref bs87)) (q8_102 : Fld Z hh_102 b64 "com/example/erotema/erotema/model/ToldEdges" "byTargetStart" "[I" (.ref bt87)) (q9_102 : own_IA .int Z hh_102 bs87 (Int32.ofNat (nw + 1)) (own_DI (own_lk k0 k1 k2 k3) (own_W (fun _ => (0 : Int32)) (fun _ => (0 : Int32))) 0)) (q10_102 : own_IA .int Z hh_102 bt87 (Int32.ofNat (nw + 1)) (fun v => Int32.ofNat (FF87 v))) (hcv4 : cv4 = own_ey gs gp gt (Int32.ofNat qw) 0), Wp p e below (Out s (Q0 Z p0 p1 p2 p3 p4 p5 h0 n0) room_1.cells room_1.slots) (T_102.setTop (mkF m 480 #[.val (.int p0), .val (.int p1), .val (.int p2), .val (.int p3), .val (.int p4), .val (.int p5), .val (.int (Int32.ofNat nw)), .val (.int (0 : Int32)), .val (.ref b1), .val (.ref b3), .val (.ref b6), .val (.int (Int32.ofNat qw)), .val (.ref b64), .val (.int cv4)] [])) := by
                      intro cv4 hh_102 locs_102 T_102 X_102 eT_102 NN_102 KK_102 q0_102 q1_102 q2_102 q3_102 q4_102 q5_102 q6_102 q7_102 q8_102 q9_102 q10_102 hcv4
                      let LL103 : Array Slot := #[.val (.int p0), .val (.int p1), .val (.int p2), .val (.int p3), .val (.int p4), .val (.int p5), .val (.int (Int32.ofNat nw)), .val (.int (0 : Int32)), .val (.ref b1), .val (.ref b3), .val (.ref b6), .val (.int (Int32.ofNat qw)), .val (.ref b64), .val (.int cv4)]
                      show Wp p e below _ (T_102.setTop (mkF m 480 LL103 []))
                      refine Wp.step (fun t k => XS.aload X_102.here hx rfl (hb hby at_480) rfl rfl k) ?_
                      show Wp p e below _ (T_102.setTop (mkF m 482 LL103 [(.ref b64)]))
                      refine Wp.step (fun t k => XS.iload X_102.here hx rfl (hb hby at_482) rfl k) ?_
                      show Wp p e below _ (T_102.setTop (mkF m 484 LL103 [(.int (Int32.ofNat qw)), (.ref b64)]))
                      have hS : ∀ i, i < 0 → gs i = Int32.ofNat ((own_lk k0 k1 k2 k3) i) ∧ gp i = (fun _ => (0 : Int32)) i ∧ gt i = (fun _ => (0 : Int32)) i := fun i hi => by
                        match i, hi with
                        | i, hi => exact absurd hi (Nat.not_lt_zero _)
                      obtain ⟨cq104, kq104, q104a, q104b, q104c⟩ := isOf hZ eT_102 q3_102
                      obtain ⟨_, _, ⟨T104, L104, k104, n104⟩, -, X104, ⟨Lc104, hQ104, l104, y104, z104⟩, st104⟩ := X_102.virtualBack hx (y := (⟨"com/example/erotema/erotema/model/ToldEdges", "countTo", "(I)I"⟩ : MethodName)) (z := (⟨"com/example/erotema/erotema/model/ToldEdges", "countTo", "(I)I"⟩ : MethodName)) hown (mvT hZ (hw _ (List.mem_of_getElem? (i := 75) rfl))) (mvT hZ (hw _ (List.mem_of_getElem? (i := 76) rfl))) (notFace_of_selects (args := #[]) (mvT hZ (hw _ (List.mem_of_getElem? (i := 78) rfl)))) (mvT hZ (hw _ (List.mem_of_getElem? (i := 78) rfl))) (mvT hZ (hw _ (List.mem_of_getElem? (i := 77) rfl))) (by decide) (backOf (W := 0) (rm13 l Z a0 hw [] b64 (Int32.ofNat qw) bt87 0 nw (own_lk k0 k1 k2 k3) (own_lk l0 l1 l2 l3) (fun _ => (0 : Int32)) (fun _ => (0 : Int32)) FF87 qw hh_102 n0 (Nat.le_trans Z0 KK_102.1) rfl q8_102 q10_102 (by omega) (by omega) hTT f487 fq87) hZ (hw _ (List.mem_of_getElem? (i := 79) rfl)) (hw _ (List.mem_of_getElem? (i := 3) rfl)) (by decide) (by decide)) q104a q104c (g := (mkF m 484 LL103 [(.int (Int32.ofNat qw)), (.ref b64)])) rfl (by rw [hml]; rfl) (Steps.refl _) (argsL := [(.int (Int32.ofNat qw))]) (rest := []) (lenOf pd_28I29I rfl) rfl (by show 2 * 0 + _ ≤ _; exact Nat.le_of_eq rfl) (hb hby at_484) (fun _ _ => ⟨rfl, eT_102, (by decide : 17 + 0 ≤ _), (by decide : 3142 + 0 ≤ _)⟩)
                      dsimp only [Pt.U, Pt.locs, Pt.cells, Pt.slots] at X104 l104 y104 z104 st104 hQ104
                      subst l104 y104 z104
                      obtain ⟨rfl, N104q, e104⟩ := hQ104
                      have N104 := Fr.app NN_102 N104q
                      refine Wp.go st104 ?_
                      show Wp p e below _ (T104.setTop (mkF m 487 LL103 [(.int (Int32.ofNat (own_D (fun z => own_el z == Int32.ofNat qw) (own_lk k0 k1 k2 k3) (own_W (fun _ => (0 : Int32)) (fun _ => (0 : Int32))) 0 nw)))]))
                      refine Wp.step (fun t k => XS.iload X104.here hx rfl (hb hby at_487) rfl k) ?_
                      show Wp p e below _ (T104.setTop (mkF m 489 LL103 [(.int cv4), (.int (Int32.ofNat (own_D (fun z => own_el z == Int32.ofNat qw) (own_lk k0 k1 k2 k3) (own_W (fun _ => (0 : Int32)) (fun _ => (0 : Int32))) 0 nw)))]))
                      refine Wp.step (fun t k => XS.icmpNo X104.here hx rfl (hb hby at_489) rfl (teq (show (Int32.ofNat (own_D (fun z => own_el z == Int32.ofNat qw) (own_lk k0 k1 k2 k3) (own_W (fun _ => (0 : Int32)) (fun _ => (0 : Int32))) 0 nw)) = cv4 from (own_y (K := (own_lk k0 k1 k2 k3)) (Tg := (own_lk l0 l1 l2 l3)) (g2 := (fun _ => (0 : Int32))) (g3 := (fun _ => (0 : Int32))) (S := gs) (R := gp) (T := gt) hn4 hqw (fun i hi => (hKK i hi).2) hTT hS).trans hcv4.symm)).2 k) ?_
                      show Wp p e below _ (T104.setTop (mkF m 492 LL103 []))
                      refine Wp.step (fun t k => XS.iconst X104.here hx rfl (hb hby at_492) k) ?_
                      show Wp p e below _ (T104.setTop (mkF m 493 LL103 [(.int (1 : Int32))]))
                      refine Wp.step (fun t k => XS.goto X104.here hx rfl (pc0 := 493) (pc' := 497) rfl (hb hby at_493) (by decide) (by decide) k) ?_
                      show Wp p e below _ (T104.setTop (mkF m 497 LL103 [(.int (1 : Int32))]))
                      refine Wp.retN X104 hx (t := .boolean) Bd.returns (by simp) (hb hby at_497) hlk ?_ (by decide) (by decide)
                      show Q0 Z p0 p1 p2 p3 p4 p5 h0 n0 (some (.int (nar .boolean (1 : Int32)))) T104.heap _
                      rw [e104]
                      exact ⟨rfl, N104⟩
                    refine Wp.step (fun t k => XS.iload X_100.here hx rfl (hb hby at_420) rfl k) ?_
                    show Wp p e below _ (T_100.setTop (mkF m 422 LL101 [(.int (0 : Int32))]))
                    refine Wp.step (fun t k => XS.iconst X_100.here hx rfl (hb hby at_422) k) ?_
                    show Wp p e below _ (T_100.setTop (mkF m 423 LL101 [(.int (3 : Int32)), (.int (0 : Int32))]))
                    refine Wp.step (fun t k => XS.icmpYes X_100.here hx rfl (pc0 := 423) (pc' := 480) rfl (hb hby at_423) rfl (flt (show ¬ ((3 : Int32) < (0 : Int32)) by decide)).2.2.2 (by decide) (by decide) k) ?_
                    show Wp p e below _ (T_100.setTop (mkF m 480 LL101 []))
                    exact kont102 _ _ _ T_100 X_100 eT_100 NN_100 KK_100 q0_100 q1_100 q2_100 q3_100 q4_100 q5_100 q6_100 q7_100 q8_100 q9_100 q10_100 hcv3
                  refine Wp.step (fun t k => XS.iload X_98.here hx rfl (hb hby at_374) rfl k) ?_
                  show Wp p e below _ (T_98.setTop (mkF m 376 LL99 [(.int (0 : Int32))]))
                  refine Wp.step (fun t k => XS.iconst X_98.here hx rfl (hb hby at_376) k) ?_
                  show Wp p e below _ (T_98.setTop (mkF m 377 LL99 [(.int (2 : Int32)), (.int (0 : Int32))]))
                  refine Wp.step (fun t k => XS.icmpYes X_98.here hx rfl (pc0 := 377) (pc' := 420) rfl (hb hby at_377) rfl (flt (show ¬ ((2 : Int32) < (0 : Int32)) by decide)).2.2.2 (by decide) (by decide) k) ?_
                  show Wp p e below _ (T_98.setTop (mkF m 420 LL99 []))
                  exact kont100 _ _ _ T_98 X_98 eT_98 NN_98 KK_98 q0_98 q1_98 q2_98 q3_98 q4_98 q5_98 q6_98 q7_98 q8_98 q9_98 q10_98 hcv2
                refine Wp.step (fun t k => XS.iload X_96.here hx rfl (hb hby at_342) rfl k) ?_
                show Wp p e below _ (T_96.setTop (mkF m 344 LL97 [(.int (0 : Int32))]))
                refine Wp.step (fun t k => XS.iconst X_96.here hx rfl (hb hby at_344) k) ?_
                show Wp p e below _ (T_96.setTop (mkF m 345 LL97 [(.int (1 : Int32)), (.int (0 : Int32))]))
                refine Wp.step (fun t k => XS.icmpYes X_96.here hx rfl (pc0 := 345) (pc' := 374) rfl (hb hby at_345) rfl (flt (show ¬ ((1 : Int32) < (0 : Int32)) by decide)).2.2.2 (by decide) (by decide) k) ?_
                show Wp p e below _ (T_96.setTop (mkF m 374 LL97 []))
                exact kont98 _ _ _ T_96 X_96 eT_96 NN_96 KK_96 q0_96 q1_96 q2_96 q3_96 q4_96 q5_96 q6_96 q7_96 q8_96 q9_96 q10_96 hcv1
              refine Wp.step (fun t k => XS.iload X87.here hx rfl (hb hby at_325) rfl k) ?_
              show Wp p e below _ (T87.setTop (mkF m 327 LL95 [(.int (0 : Int32))]))
              refine Wp.step (fun t k => XS.ifYes X87.here hx rfl (pc0 := 327) (pc' := 342) rfl (hb hby at_327) rfl ((if0 _ _).trans (flt (show ¬ ((0 : Int32) < (0 : Int32)) by decide)).2.2.2) (by decide) (by decide) k) ?_
              show Wp p e below _ (T87.setTop (mkF m 342 LL95 []))
              exact kont96 _ _ _ T87 X87 e87 N87 K87 B88 B89 B90 cE87 B92 B93 B94 cs87 ct87 Bs87 Bt87 rfl
            · show Wp p e below _ (T77.setTop (mkF m 224 #[.val (.int p0), .val (.int p1), .val (.int p2), .val (.int p3), .val (.int p4), .val (.int p5), .val (.int (Int32.ofNat nw)), .val (.int (1 : Int32)), .val (.ref b1), .val (.ref b3), .val (.ref b6), .val (.int (Int32.ofNat qw)), .val (.ref b64), .unset] []))
              let LL110 : Array Slot := #[.val (.int p0), .val (.int p1), .val (.int p2), .val (.int p3), .val (.int p4), .val (.int p5), .val (.int (Int32.ofNat nw)), .val (.int (1 : Int32)), .val (.ref b1), .val (.ref b3), .val (.ref b6), .val (.int (Int32.ofNat qw)), .val (.ref b64), .unset]
              show Wp p e below _ (T77.setTop (mkF m 224 LL110 []))
              refine Wp.step (fun t k => XS.iload X77.here hx rfl (hb hby at_224) rfl k) ?_
              show Wp p e below _ (T77.setTop (mkF m 226 LL110 [(.int (1 : Int32))]))
              refine Wp.step (fun t k => XS.ifNo X77.here hx rfl (hb hby at_226) rfl ((if0 _ _).trans (tlt (show (0 : Int32) < (1 : Int32) by decide)).2.2.2) k) ?_
              show Wp p e below _ (T77.setTop (mkF m 229 LL110 []))
              refine Wp.step (fun t k => XS.aload X77.here hx rfl (hb hby at_229) rfl rfl k) ?_
              show Wp p e below _ (T77.setTop (mkF m 231 LL110 [(.ref b64)]))
              refine Wp.step (fun t k => XS.aload X77.here hx rfl (hb hby at_231) rfl rfl k) ?_
              show Wp p e below _ (T77.setTop (mkF m 233 LL110 [(.ref b1), (.ref b64)]))
              refine Wp.step (fun t k => XS.iconst X77.here hx rfl (hb hby at_233) k) ?_
              show Wp p e below _ (T77.setTop (mkF m 234 LL110 [(.int (0 : Int32)), (.ref b1), (.ref b64)]))
              obtain ⟨cl112, Ar112, Sz112, Nn112, El112⟩ := id B78
              have hin112 : ¬ ((0 : Int32) < 0 ∨ cl112.slots.size ≤ ((0 : Int32)).toNatClampNeg) := inb_of Sz112 ⟨by decide, by decide⟩
              have hat112 : cl112.slots[((0 : Int32)).toNatClampNeg]? = some (.int (gs ((0 : Int32)).toNatClampNeg)) := (El112 _ (by have q := Nat.lt_of_not_le fun q => hin112 (Or.inr q); rw [Sz112] at q; exact q)).1
              rw [show (gs ((0 : Int32)).toNatClampNeg) = (gs 0) from rfl] at hat112
              rw [show (gs 0) = (Int32.ofNat k0) from (by rw [hgs]; rfl)] at hat112
              refine Wp.step (X77.iaload hx (j := (0 : Int32)) (v := (.int (Int32.ofNat k0))) (by rw [e77]; exact Ar112.1) (State.isArrayOf_alike hZ.alike Ar112.2.1) Ar112.2.2 hin112 hat112 (g := (mkF m 234 LL110 [(.int (0 : Int32)), (.ref b1), (.ref b64)])) rfl rfl (hb hby at_234)) ?_
              show Wp p e below _ (T77.setTop (mkF m 235 LL110 [(.int (Int32.ofNat k0)), (.ref b64)]))
              refine Wp.step (fun t k => XS.aload X77.here hx rfl (hb hby at_235) rfl rfl k) ?_
              show Wp p e below _ (T77.setTop (mkF m 237 LL110 [(.ref b3), (.int (Int32.ofNat k0)), (.ref b64)]))
              refine Wp.step (fun t k => XS.iconst X77.here hx rfl (hb hby at_237) k) ?_
              show Wp p e below _ (T77.setTop (mkF m 238 LL110 [(.int (0 : Int32)), (.ref b3), (.int (Int32.ofNat k0)), (.ref b64)]))
              obtain ⟨cl113, Ar113, Sz113, Nn113, El113⟩ := id B80
              have hin113 : ¬ ((0 : Int32) < 0 ∨ cl113.slots.size ≤ ((0 : Int32)).toNatClampNeg) := inb_of Sz113 ⟨by decide, by decide⟩
              have hat113 : cl113.slots[((0 : Int32)).toNatClampNeg]? = some (.int (gp ((0 : Int32)).toNatClampNeg)) := (El113 _ (by have q := Nat.lt_of_not_le fun q => hin113 (Or.inr q); rw [Sz113] at q; exact q)).1
              rw [show (gp ((0 : Int32)).toNatClampNeg) = (gp 0) from rfl] at hat113
              rw [show (gp 0) = rr0 from (by rw [hgp]; rfl)] at hat113
              refine Wp.step (X77.iaload hx (j := (0 : Int32)) (v := (.int rr0)) (by rw [e77]; exact Ar113.1) (State.isArrayOf_alike hZ.alike Ar113.2.1) Ar113.2.2 hin113 hat113 (g := (mkF m 238 LL110 [(.int (0 : Int32)), (.ref b3), (.int (Int32.ofNat k0)), (.ref b64)])) rfl rfl (hb hby at_238)) ?_
              show Wp p e below _ (T77.setTop (mkF m 239 LL110 [(.int rr0), (.int (Int32.ofNat k0)), (.ref b64)]))
              refine Wp.step (fun t k => XS.aload X77.here hx rfl (hb hby at_239) rfl rfl k) ?_
              show Wp p e below _ (T77.setTop (mkF m 241 LL110 [(.ref b6), (.int rr0), (.int (Int32.ofNat k0)), (.ref b64)]))
              refine Wp.step (fun t k => XS.iconst X77.here hx rfl (hb hby at_241) k) ?_
              show Wp p e below _ (T77.setTop (mkF m 242 LL110 [(.int (0 : Int32)), (.ref b6), (.int rr0), (.int (Int32.ofNat k0)), (.ref b64)]))
              obtain ⟨cl114, Ar114, Sz114, Nn114, El114⟩ := id B79
              have hin114 : ¬ ((0 : Int32) < 0 ∨ cl114.slots.size ≤ ((0 : Int32)).toNatClampNeg) := inb_of Sz114 ⟨by decide, by decide⟩
              have hat114 : cl114.slots[((0 : Int32)).toNatClampNeg]? = some (.int (gt ((0 : Int32)).toNatClampNeg)) := (El114 _ (by have q := Nat.lt_of_not_le fun q => hin114 (Or.inr q); rw [Sz114] at q; exact q)).1
              rw [show (gt ((0 : Int32)).toNatClampNeg) = (gt 0) from rfl] at hat114
              rw [show (gt 0) = (Int32.ofNat l0) from (by rw [hgt]; rfl)] at hat114
              refine Wp.step (X77.iaload hx (j := (0 : Int32)) (v := (.int (Int32.ofNat l0))) (by rw [e77]; exact Ar114.1) (State.isArrayOf_alike hZ.alike Ar114.2.1) Ar114.2.2 hin114 hat114 (g := (mkF m 242 LL110 [(.int (0 : Int32)), (.ref b6), (.int rr0), (.int (Int32.ofNat k0)), (.ref b64)])) rfl rfl (hb hby at_242)) ?_
              show Wp p e below _ (T77.setTop (mkF m 243 LL110 [(.int (Int32.ofNat l0)), (.int rr0), (.int (Int32.ofNat k0)), (.ref b64)]))
              obtain ⟨cq115, kq115, q115a, q115b, q115c⟩ := isOf hZ e77 cE77
              obtain ⟨_, _, ⟨T115, L115, k115, n115⟩, -, X115, ⟨Lc115, hQ115, l115, y115, z115⟩, st115⟩ := X77.virtualBack hx (y := (⟨"com/example/erotema/erotema/model/ToldEdges", "add", "(III)V"⟩ : MethodName)) (z := (⟨"com/example/erotema/erotema/model/ToldEdges", "add", "(III)V"⟩ : MethodName)) hown (mvT hZ (hw _ (List.mem_of_getElem? (i := 81) rfl))) (mvT hZ (hw _ (List.mem_of_getElem? (i := 82) rfl))) (notFace_of_selects (args := #[]) (mvT hZ (hw _ (List.mem_of_getElem? (i := 84) rfl)))) (mvT hZ (hw _ (List.mem_of_getElem? (i := 84) rfl))) (mvT hZ (hw _ (List.mem_of_getElem? (i := 83) rfl))) (by decide) (backOf (W := 0) (rm14 l Z a0 hw [] b64 (Int32.ofNat k0) rr0 (Int32.ofNat l0) b77_1 b77_2 b77_3 0 (fun _ => (0 : Int32)) (fun _ => (0 : Int32)) (fun _ => (0 : Int32)) h77 n0 (Nat.le_trans Z0 K77.1) g_b64 cE77 c77_sources c77_properties c77_targets c77_added c77_bySourceStart c77_bySource c77_byTargetStart c77_byTarget g_b77_1 g_b77_2 g_b77_3 (Ne.symm ne_b64_b77_1) (Ne.symm ne_b64_b77_2) (Ne.symm ne_b64_b77_3) nb12 nb13 nb23 Bb77_1 Bb77_2 Bb77_3 (by omega)) hZ (hw _ (List.mem_of_getElem? (i := 85) rfl)) (hw _ (List.mem_of_getElem? (i := 3) rfl)) (by decide) (by decide)) q115a q115c (g := (mkF m 243 LL110 [(.int (Int32.ofNat l0)), (.int rr0), (.int (Int32.ofNat k0)), (.ref b64)])) rfl (by rw [hml]; rfl) (Steps.refl _) (argsL := [(.int (Int32.ofNat k0)), (.int rr0), (.int (Int32.ofNat l0))]) (rest := []) (lenOf pd_28III29V rfl) rfl (by show 2 * 0 + _ ≤ _; exact Nat.le_of_eq rfl) (hb hby at_243) (fun _ _ => ⟨rfl, e77, (by decide : 7 + 0 ≤ _), (by decide : 3092 + 0 ≤ _)⟩)
              dsimp only [Pt.U, Pt.locs, Pt.cells, Pt.slots] at X115 l115 y115 z115 st115 hQ115
              subst l115 y115 z115
              obtain ⟨h115, e115⟩ : ∃ z, T115.heap = z := ⟨_, rfl⟩
              rw [e115] at hQ115
              obtain ⟨rfl, N115q, Kc115, cE115, c115_sources, c115_properties, c115_targets, c115_added, c115_bySourceStart, c115_bySource, c115_byTargetStart, c115_byTarget, Ba115, Bb115, Bc115⟩ := hQ115
              have N115 := Fr.app N77 N115q
              have B116 := B78.keep Kc115 (ninS ne_b1_b64 (ninS ne_b1_b77_1 (ninS ne_b1_b77_2 (ninS ne_b1_b77_3 nin0))))
              have B117 := B79.keep Kc115 (ninS ne_b6_b64 (ninS ne_b6_b77_1 (ninS ne_b6_b77_2 (ninS ne_b6_b77_3 nin0))))
              have B118 := B80.keep Kc115 (ninS ne_b3_b64 (ninS ne_b3_b77_1 (ninS ne_b3_b77_2 (ninS ne_b3_b77_3 nin0))))
              have c119 := cE77.keep Kc115
              have K115 := K77.trans Kc115 (allS (Or.inr sz_b64) (allS (Or.inr sz_b77_1) (allS (Or.inr sz_b77_2) (allS (Or.inr sz_b77_3) all0))))
              refine Wp.go st115 ?_
              show Wp p e below _ (T115.setTop (mkF m 246 LL110 []))
              refine Wp.step (fun t k => XS.iload X115.here hx rfl (hb hby at_246) rfl k) ?_
              show Wp p e below _ (T115.setTop (mkF m 248 LL110 [(.int (1 : Int32))]))
              refine Wp.step (fun t k => XS.iconst X115.here hx rfl (hb hby at_248) k) ?_
              show Wp p e below _ (T115.setTop (mkF m 249 LL110 [(.int (1 : Int32)), (.int (1 : Int32))]))
              refine Wp.step (fun t k => XS.icmpYes X115.here hx rfl (pc0 := 249) (pc' := 269) rfl (hb hby at_249) rfl (flt (show ¬ ((1 : Int32) < (1 : Int32)) by decide)).2.2.2 (by decide) (by decide) k) ?_
              show Wp p e below _ (T115.setTop (mkF m 269 LL110 []))
              refine Wp.step (fun t k => XS.iload X115.here hx rfl (hb hby at_269) rfl k) ?_
              show Wp p e below _ (T115.setTop (mkF m 271 LL110 [(.int (1 : Int32))]))
              refine Wp.step (fun t k => XS.iconst X115.here hx rfl (hb hby at_271) k) ?_
              show Wp p e below _ (T115.setTop (mkF m 272 LL110 [(.int (2 : Int32)), (.int (1 : Int32))]))
              refine Wp.step (fun t k => XS.icmpYes X115.here hx rfl (pc0 := 272) (pc' := 292) rfl (hb hby at_272) rfl (flt (show ¬ ((2 : Int32) < (1 : Int32)) by decide)).2.2.2 (by decide) (by decide) k) ?_
              show Wp p e below _ (T115.setTop (mkF m 292 LL110 []))
              refine Wp.step (fun t k => XS.iload X115.here hx rfl (hb hby at_292) rfl k) ?_
              show Wp p e below _ (T115.setTop (mkF m 294 LL110 [(.int (1 : Int32))]))
              refine Wp.step (fun t k => XS.iconst X115.here hx rfl (hb hby at_294) k) ?_
              show Wp p e below _ (T115.setTop (mkF m 295 LL110 [(.int (3 : Int32)), (.int (1 : Int32))]))
              refine Wp.step (fun t k => XS.icmpYes X115.here hx rfl (pc0 := 295) (pc' := 315) rfl (hb hby at_295) rfl (flt (show ¬ ((3 : Int32) < (1 : Int32)) by decide)).2.2.2 (by decide) (by decide) k) ?_
              show Wp p e below _ (T115.setTop (mkF m 315 LL110 []))
              refine Wp.step (fun t k => XS.aload X115.here hx rfl (hb hby at_315) rfl rfl k) ?_
              show Wp p e below _ (T115.setTop (mkF m 317 LL110 [(.ref b64)]))
              refine Wp.step (fun t k => XS.iload X115.here hx rfl (hb hby at_317) rfl k) ?_
              show Wp p e below _ (T115.setTop (mkF m 319 LL110 [(.int (Int32.ofNat nw)), (.ref b64)]))
              have hKK : ∀ i, i < 1 → (own_upd (fun _ => (0 : Int32)) 0 (Int32.ofNat k0)) i = Int32.ofNat ((own_lk k0 k1 k2 k3) i) ∧ (own_lk k0 k1 k2 k3) i < nw := fun i hi => by
                match i, hi with
                | 0, _ => exact ⟨rfl, hk0⟩
                | i + 1, hi => exact absurd hi (by omega)
              have hTT : ∀ i, i < 1 → (own_upd (fun _ => (0 : Int32)) 0 (Int32.ofNat l0)) i = Int32.ofNat ((own_lk l0 l1 l2 l3) i) ∧ (own_lk l0 l1 l2 l3) i < nw := fun i hi => by
                match i, hi with
                | 0, _ => exact ⟨rfl, hl0⟩
                | i + 1, hi => exact absurd hi (by omega)
              obtain ⟨cq126, kq126, q126a, q126b, q126c⟩ := isOf hZ e115 cE115
              obtain ⟨_, _, ⟨T126, L126, k126, n126⟩, -, X126, ⟨Lc126, hQ126, l126, y126, z126⟩, st126⟩ := X115.virtualBack hx (y := (⟨"com/example/erotema/erotema/model/ToldEdges", "index", "(I)V"⟩ : MethodName)) (z := (⟨"com/example/erotema/erotema/model/ToldEdges", "index", "(I)V"⟩ : MethodName)) hown (mvT hZ (hw _ (List.mem_of_getElem? (i := 16) rfl))) (mvT hZ (hw _ (List.mem_of_getElem? (i := 17) rfl))) (notFace_of_selects (args := #[]) (mvT hZ (hw _ (List.mem_of_getElem? (i := 19) rfl)))) (mvT hZ (hw _ (List.mem_of_getElem? (i := 19) rfl))) (mvT hZ (hw _ (List.mem_of_getElem? (i := 18) rfl))) (by decide) (backOf (W := 0) (rm3 l Z a0 hw [] b64 (Int32.ofNat nw) b77_1 b77_2 b77_3 1 nw (own_lk k0 k1 k2 k3) (own_lk l0 l1 l2 l3) (own_upd (fun _ => (0 : Int32)) 0 (Int32.ofNat k0)) (own_upd (fun _ => (0 : Int32)) 0 rr0) (own_upd (fun _ => (0 : Int32)) 0 (Int32.ofNat l0)) h115 n0 (Nat.le_trans Z0 K115.1) rfl g_b64 cE115 c115_sources c115_properties c115_targets c115_added c115_bySourceStart c115_bySource c115_byTargetStart c115_byTarget (Ne.symm ne_b64_b77_1) (Ne.symm ne_b64_b77_2) (Ne.symm ne_b64_b77_3) Ba115 Bb115 Bc115 (by omega) (by omega) hKK hTT) hZ (hw _ (List.mem_of_getElem? (i := 20) rfl)) (hw _ (List.mem_of_getElem? (i := 3) rfl)) (by decide) (by decide)) q126a q126c (g := (mkF m 319 LL110 [(.int (Int32.ofNat nw)), (.ref b64)])) rfl (by rw [hml]; rfl) (Steps.refl _) (argsL := [(.int (Int32.ofNat nw))]) (rest := []) (lenOf pd_28I29V rfl) rfl (by show 2 * 0 + _ ≤ _; exact Nat.le_of_eq rfl) (hb hby at_319) (fun _ _ => ⟨rfl, e115, (by decide : 7 + 10 ≤ _), (by decide : 3092 + 50 ≤ _)⟩)
              dsimp only [Pt.U, Pt.locs, Pt.cells, Pt.slots] at X126 l126 y126 z126 st126 hQ126
              subst l126 y126 z126
              obtain ⟨h126, e126⟩ : ∃ z, T126.heap = z := ⟨_, rfl⟩
              rw [e126] at hQ126
              obtain ⟨bs126, bt126, FF126, rfl, N126q, Kc126, cE126, cs126, Bs126, ct126, Bt126, f4126, fq126⟩ := hQ126
              have N126 := Fr.app N115 N126q
              have B127 := B116.keep Kc126 (ninS ne_b1_b64 nin0)
              have B128 := B117.keep Kc126 (ninS ne_b6_b64 nin0)
              have B129 := B118.keep Kc126 (ninS ne_b3_b64 nin0)
              have c130 := cE115.keep Kc126
              have B131 := Ba115.keep Kc126 (ninS (Ne.symm ne_b64_b77_1) nin0)
              have B132 := Bb115.keep Kc126 (ninS (Ne.symm ne_b64_b77_2) nin0)
              have B133 := Bc115.keep Kc126 (ninS (Ne.symm ne_b64_b77_3) nin0)
              have K126 := K115.trans Kc126 (allS (Or.inr sz_b64) all0)
              refine Wp.go st126 ?_
              show Wp p e below _ (T126.setTop (mkF m 322 LL110 []))
              refine Wp.step (fun t k => XS.iconst X126.here hx rfl (hb hby at_322) k) ?_
              show Wp p e below _ (T126.setTop (mkF m 323 LL110 [(.int (0 : Int32))]))
              refine Wp.step (fun t k => XS.istore X126.here hx rfl (hb hby at_323) rfl (l' := #[.val (.int p0), .val (.int p1), .val (.int p2), .val (.int p3), .val (.int p4), .val (.int p5), .val (.int (Int32.ofNat nw)), .val (.int (1 : Int32)), .val (.ref b1), .val (.ref b3), .val (.ref b6), .val (.int (Int32.ofNat qw)), .val (.ref b64), .val (.int (0 : Int32))]) rfl k) ?_
              show Wp p e below _ (T126.setTop (mkF m 325 #[.val (.int p0), .val (.int p1), .val (.int p2), .val (.int p3), .val (.int p4), .val (.int p5), .val (.int (Int32.ofNat nw)), .val (.int (1 : Int32)), .val (.ref b1), .val (.ref b3), .val (.ref b6), .val (.int (Int32.ofNat qw)), .val (.ref b64), .val (.int (0 : Int32))] []))
              let LL134 : Array Slot := #[.val (.int p0), .val (.int p1), .val (.int p2), .val (.int p3), .val (.int p4), .val (.int p5), .val (.int (Int32.ofNat nw)), .val (.int (1 : Int32)), .val (.ref b1), .val (.ref b3), .val (.ref b6), .val (.int (Int32.ofNat qw)), .val (.ref b64), .val (.int (0 : Int32))]
              show Wp p e below _ (T126.setTop (mkF m 325 LL134 []))
              have kont135 : ∀ (cv1 : Int32) (hh_135 : Heap) (locs_135 : List Loc) (T_135 : State) (X_135 : Stand p l e room_1 s m #[(.int p0), (.int p1), (.int p2), (.int p3), (.int p4), (.int p5)] below meth c T_135 locs_135 17 3142) (eT_135 : T_135.heap = hh_135) (NN_135 : Fr n0 locs_135) (KK_135 : Keep h0 hh_135 []) (q0_135 : own_IA .int Z hh_135 b1 (4 : Int32) gs) (q1_135 : own_IA .int Z hh_135 b6 (4 : Int32) gt) (q2_135 : own_IA .int Z hh_135 b3 (4 : Int32) gp) (q3_135 : Exa Z hh_135 b64 "com/example/erotema/erotema/model/ToldEdges") (q4_135 : own_IA .int Z hh_135 b77_1 (Int32.ofNat 1024) (own_upd (fun _ => (0 : Int32)) 0 (Int32.ofNat k0))) (q5_135 : own_IA .int Z hh_135 b77_2 (Int32.ofNat 1024) (own_upd (fun _ => (0 : Int32)) 0 rr0)) (q6_135 : own_IA .int Z hh_135 b77_3 (Int32.ofNat 1024) (own_upd (fun _ => (0 : Int32)) 0 (Int32.ofNat l0))) (q7_135 : Fld Z hh_135 b64 "com/example/erotema/erotema/model/ToldEdges" "bySourceStart" "[I" (.ref bs126)) (q8_135 : Fld Z hh_135 b64 "com/example/erotema/erotema/model/ToldEdges" "byTargetStart" "[I" (.ref bt126)) (q9_135 : own_IA .int Z hh_135 bs126 (Int32.ofNat (nw + 1)) (own_DI (own_lk k0 k1 k2 k3) (own_W (own_upd (fun _ => (0 : Int32)) 0 rr0) (own_upd (fun _ => (0 : Int32)) 0 (Int32.ofNat l0))) 1)) (q10_135 : own_IA .int Z hh_135 bt126 (Int32.ofNat (nw + 1)) (fun v => Int32.ofNat (FF126 v))) (hcv1 : cv1 = own_ey gs gp gt (Int32.ofNat qw) 1), Wp p e below (Out s (Q0 Z p0 p1 p2 p3 p4 p5 h0 n0) room_1.cells room_1.slots) (T_135.setTop (mkF m 342 #[.val (.int p0), .val (.int p1), .val (.int p2), .val (.int p3), .val (.int p4), .val (.int p5), .val (.int (Int32.ofNat nw)), .val (.int (1 : Int32)), .val (.ref b1), .val (.ref b3), .val (.ref b6), .val (.int (Int32.ofNat qw)), .val (.ref b64), .val (.int cv1)] [])) := by
                intro cv1 hh_135 locs_135 T_135 X_135 eT_135 NN_135 KK_135 q0_135 q1_135 q2_135 q3_135 q4_135 q5_135 q6_135 q7_135 q8_135 q9_135 q10_135 hcv1
                let LL136 : Array Slot := #[.val (.int p0), .val (.int p1), .val (.int p2), .val (.int p3), .val (.int p4), .val (.int p5), .val (.int (Int32.ofNat nw)), .val (.int (1 : Int32)), .val (.ref b1), .val (.ref b3), .val (.ref b6), .val (.int (Int32.ofNat qw)), .val (.ref b64), .val (.int cv1)]
                show Wp p e below _ (T_135.setTop (mkF m 342 LL136 []))
                have kont137 : ∀ (cv2 : Int32) (hh_137 : Heap) (locs_137 : List Loc) (T_137 : State) (X_137 : Stand p l e room_1 s m #[(.int p0), (.int p1), (.int p2), (.int p3), (.int p4), (.int p5)] below meth c T_137 locs_137 17 3142) (eT_137 : T_137.heap = hh_137) (NN_137 : Fr n0 locs_137) (KK_137 : Keep h0 hh_137 []) (q0_137 : own_IA .int Z hh_137 b1 (4 : Int32) gs) (q1_137 : own_IA .int Z hh_137 b6 (4 : Int32) gt) (q2_137 : own_IA .int Z hh_137 b3 (4 : Int32) gp) (q3_137 : Exa Z hh_137 b64 "com/example/erotema/erotema/model/ToldEdges") (q4_137 : own_IA .int Z hh_137 b77_1 (Int32.ofNat 1024) (own_upd (fun _ => (0 : Int32)) 0 (Int32.ofNat k0))) (q5_137 : own_IA .int Z hh_137 b77_2 (Int32.ofNat 1024) (own_upd (fun _ => (0 : Int32)) 0 rr0)) (q6_137 : own_IA .int Z hh_137 b77_3 (Int32.ofNat 1024) (own_upd (fun _ => (0 : Int32)) 0 (Int32.ofNat l0))) (q7_137 : Fld Z hh_137 b64 "com/example/erotema/erotema/model/ToldEdges" "bySourceStart" "[I" (.ref bs126)) (q8_137 : Fld Z hh_137 b64 "com/example/erotema/erotema/model/ToldEdges" "byTargetStart" "[I" (.ref bt126)) (q9_137 : own_IA .int Z hh_137 bs126 (Int32.ofNat (nw + 1)) (own_DI (own_lk k0 k1 k2 k3) (own_W (own_upd (fun _ => (0 : Int32)) 0 rr0) (own_upd (fun _ => (0 : Int32)) 0 (Int32.ofNat l0))) 1)) (q10_137 : own_IA .int Z hh_137 bt126 (Int32.ofNat (nw + 1)) (fun v => Int32.ofNat (FF126 v))) (hcv2 : cv2 = own_ey gs gp gt (Int32.ofNat qw) 1), Wp p e below (Out s (Q0 Z p0 p1 p2 p3 p4 p5 h0 n0) room_1.cells room_1.slots) (T_137.setTop (mkF m 374 #[.val (.int p0), .val (.int p1), .val (.int p2), .val (.int p3), .val (.int p4), .val (.int p5), .val (.int (Int32.ofNat nw)), .val (.int (1 : Int32)), .val (.ref b1), .val (.ref b3), .val (.ref b6), .val (.int (Int32.ofNat qw)), .val (.ref b64), .val (.int cv2)] [])) := by
                  intro cv2 hh_137 locs_137 T_137 X_137 eT_137 NN_137 KK_137 q0_137 q1_137 q2_137 q3_137 q4_137 q5_137 q6_137 q7_137 q8_137 q9_137 q10_137 hcv2
                  let LL138 : Array Slot := #[.val (.int p0), .val (.int p1), .val (.int p2), .val (.int p3), .val (.int p4), .val (.int p5), .val (.int (Int32.ofNat nw)), .val (.int (1 : Int32)), .val (.ref b1), .val (.ref b3), .val (.ref b6), .val (.int (Int32.ofNat qw)), .val (.ref b64), .val (.int cv2)]
                  show Wp p e below _ (T_137.setTop (mkF m 374 LL138 []))
                  have kont139 : ∀ (cv3 : Int32) (hh_139 : Heap) (locs_139 : List Loc) (T_139 : State) (X_139 : Stand p l e room_1 s m #[(.int p0), (.int p1), (.int p2), (.int p3), (.int p4), (.int p5)] below meth c T_139 locs_139 17 3142) (eT_139 : T_139.heap = hh_139) (NN_139 : Fr n0 locs_139) (KK_139 : Keep h0 hh_139 []) (q0_139 : own_IA .int Z hh_139 b1 (4 : Int32) gs) (q1_139 : own_IA .int Z hh_139 b6 (4 : Int32) gt) (q2_139 : own_IA .int Z hh_139 b3 (4 : Int32) gp) (q3_139 : Exa Z hh_139 b64 "com/example/erotema/erotema/model/ToldEdges") (q4_139 : own_IA .int Z hh_139 b77_1 (Int32.ofNat 1024) (own_upd (fun _ => (0 : Int32)) 0 (Int32.ofNat k0))) (q5_139 : own_IA .int Z hh_139 b77_2 (Int32.ofNat 1024) (own_upd (fun _ => (0 : Int32)) 0 rr0)) (q6_139 : own_IA .int Z hh_139 b77_3 (Int32.ofNat 1024) (own_upd (fun _ => (0 : Int32)) 0 (Int32.ofNat l0))) (q7_139 : Fld Z hh_139 b64 "com/example/erotema/erotema/model/ToldEdges" "bySourceStart" "[I" (.ref bs126)) (q8_139 : Fld Z hh_139 b64 "com/example/erotema/erotema/model/ToldEdges" "byTargetStart" "[I" (.ref bt126)) (q9_139 : own_IA .int Z hh_139 bs126 (Int32.ofNat (nw + 1)) (own_DI (own_lk k0 k1 k2 k3) (own_W (own_upd (fun _ => (0 : Int32)) 0 rr0) (own_upd (fun _ => (0 : Int32)) 0 (Int32.ofNat l0))) 1)) (q10_139 : own_IA .int Z hh_139 bt126 (Int32.ofNat (nw + 1)) (fun v => Int32.ofNat (FF126 v))) (hcv3 : cv3 = own_ey gs gp gt (Int32.ofNat qw) 1), Wp p e below (Out s (Q0 Z p0 p1 p2 p3 p4 p5 h0 n0) room_1.cells room_1.slots) (T_139.setTop (mkF m 420 #[.val (.int p0), .val (.int p1), .val (.int p2), .val (.int p3), .val (.int p4), .val (.int p5), .val (.int (Int32.ofNat nw)), .val (.int (1 : Int32)), .val (.ref b1), .val (.ref b3), .val (.ref b6), .val (.int (Int32.ofNat qw)), .val (.ref b64), .val (.int cv3)] [])) := by
                    intro cv3 hh_139 locs_139 T_139 X_139 eT_139 NN_139 KK_139 q0_139 q1_139 q2_139 q3_139 q4_139 q5_139 q6_139 q7_139 q8_139 q9_139 q10_139 hcv3
                    let LL140 : Array Slot := #[.val (.int p0), .val (.int p1), .val (.int p2), .val (.int p3), .val (.int p4), .val (.int p5), .val (.int (Int32.ofNat nw)), .val (.int (1 : Int32)), .val (.ref b1), .val (.ref b3), .val (.ref b6), .val (.int (Int32.ofNat qw)), .val (.ref b64), .val (.int cv3)]
                    show Wp p e below _ (T_139.setTop (mkF m 420 LL140 []))
                    have kont141 : ∀ (cv4 : Int32) (hh_141 : Heap) (locs_141 : List Loc) (T_141 : State) (X_141 : Stand p l e room_1 s m #[(.int p0), (.int p1), (.int p2), (.int p3), (.int p4), (.int p5)] below meth c T_141 locs_141 17 3142) (eT_141 : T_141.heap = hh_141) (NN_141 : Fr n0 locs_141) (KK_141 : Keep h0 hh_141 []) (q0_141 : own_IA .int Z hh_141 b1 (4 : Int32) gs) (q1_141 : own_IA .int Z hh_141 b6 (4 : Int32) gt) (q2_141 : own_IA .int Z hh_141 b3 (4 : Int32) gp) (q3_141 : Exa Z hh_141 b64 "com/example/erotema/erotema/model/ToldEdges") (q4_141 : own_IA .int Z hh_141 b77_1 (Int32.ofNat 1024) (own_upd (fun _ => (0 : Int32)) 0 (Int32.ofNat k0))) (q5_141 : own_IA .int Z hh_141 b77_2 (Int32.ofNat 1024) (own_upd (fun _ => (0 : Int32)) 0 rr0)) (q6_141 : own_IA .int Z hh_141 b77_3 (Int32.ofNat 1024) (own_upd (fun _ => (0 : Int32)) 0 (Int32.ofNat l0))) (q7_141 : Fld Z hh_141 b64 "com/example/erotema/erotema/model/ToldEdges" "bySourceStart" "[I" (.ref bs126)) (q8_141 : Fld Z hh_141 b64 "com/example/erotema/erotema/model/ToldEdges" "byTargetStart" "[I" (.ref bt126)) (q9_141 : own_IA .int Z hh_141 bs126 (Int32.ofNat (nw + 1)) (own_DI (own_lk k0 k1 k2 k3) (own_W (own_upd (fun _ => (0 : Int32)) 0 rr0) (own_upd (fun _ => (0 : Int32)) 0 (Int32.ofNat l0))) 1)) (q10_141 : own_IA .int Z hh_141 bt126 (Int32.ofNat (nw + 1)) (fun v => Int32.ofNat (FF126 v))) (hcv4 : cv4 = own_ey gs gp gt (Int32.ofNat qw) 1), Wp p e below (Out s (Q0 Z p0 p1 p2 p3 p4 p5 h0 n0) room_1.cells room_1.slots) (T_141.setTop (mkF m 480 #[.val (.int p0), .val (.int p1), .val (.int p2), .val (.int p3), .val (.int p4), .val (.int p5), .val (.int (Int32.ofNat nw)), .val (.int (1 : Int32)), .val (.ref b1), .val (.ref b3), .val (.ref b6), .val (.int (Int32.ofNat qw)), .val (.ref b64), .val (.int cv4)] [])) := by
                      intro cv4 hh_141 locs_141 T_141 X_141 eT_141 NN_141 KK_141 q0_141 q1_141 q2_141 q3_141 q4_141 q5_141 q6_141 q7_141 q8_141 q9_141 q10_141 hcv4
                      let LL142 : Array Slot := #[.val (.int p0), .val (.int p1), .val (.int p2), .val (.int p3), .val (.int p4), .val (.int p5), .val (.int (Int32.ofNat nw)), .val (.int (1 : Int32)), .val (.ref b1), .val (.ref b3), .val (.ref b6), .val (.int (Int32.ofNat qw)), .val (.ref b64), .val (.int cv4)]
                      show Wp p e below _ (T_141.setTop (mkF m 480 LL142 []))
                      refine Wp.step (fun t k => XS.aload X_141.here hx rfl (hb hby at_480) rfl rfl k) ?_
                      show Wp p e below _ (T_141.setTop (mkF m 482 LL142 [(.ref b64)]))
                      refine Wp.step (fun t k => XS.iload X_141.here hx rfl (hb hby at_482) rfl k) ?_
                      show Wp p e below _ (T_141.setTop (mkF m 484 LL142 [(.int (Int32.ofNat qw)), (.ref b64)]))
                      have hS : ∀ i, i < 1 → gs i = Int32.ofNat ((own_lk k0 k1 k2 k3) i) ∧ gp i = (own_upd (fun _ => (0 : Int32)) 0 rr0) i ∧ gt i = (own_upd (fun _ => (0 : Int32)) 0 (Int32.ofNat l0)) i := fun i hi => by
                        match i, hi with
                        | 0, _ => exact ⟨by rw [hgs] <;> rfl, by rw [hgp] <;> rfl, by rw [hgt] <;> rfl⟩
                        | i + 1, hi => exact absurd hi (by omega)
                      obtain ⟨cq143, kq143, q143a, q143b, q143c⟩ := isOf hZ eT_141 q3_141
                      obtain ⟨_, _, ⟨T143, L143, k143, n143⟩, -, X143, ⟨Lc143, hQ143, l143, y143, z143⟩, st143⟩ := X_141.virtualBack hx (y := (⟨"com/example/erotema/erotema/model/ToldEdges", "countTo", "(I)I"⟩ : MethodName)) (z := (⟨"com/example/erotema/erotema/model/ToldEdges", "countTo", "(I)I"⟩ : MethodName)) hown (mvT hZ (hw _ (List.mem_of_getElem? (i := 75) rfl))) (mvT hZ (hw _ (List.mem_of_getElem? (i := 76) rfl))) (notFace_of_selects (args := #[]) (mvT hZ (hw _ (List.mem_of_getElem? (i := 78) rfl)))) (mvT hZ (hw _ (List.mem_of_getElem? (i := 78) rfl))) (mvT hZ (hw _ (List.mem_of_getElem? (i := 77) rfl))) (by decide) (backOf (W := 0) (rm13 l Z a0 hw [] b64 (Int32.ofNat qw) bt126 1 nw (own_lk k0 k1 k2 k3) (own_lk l0 l1 l2 l3) (own_upd (fun _ => (0 : Int32)) 0 rr0) (own_upd (fun _ => (0 : Int32)) 0 (Int32.ofNat l0)) FF126 qw hh_141 n0 (Nat.le_trans Z0 KK_141.1) rfl q8_141 q10_141 (by omega) (by omega) hTT f4126 fq126) hZ (hw _ (List.mem_of_getElem? (i := 79) rfl)) (hw _ (List.mem_of_getElem? (i := 3) rfl)) (by decide) (by decide)) q143a q143c (g := (mkF m 484 LL142 [(.int (Int32.ofNat qw)), (.ref b64)])) rfl (by rw [hml]; rfl) (Steps.refl _) (argsL := [(.int (Int32.ofNat qw))]) (rest := []) (lenOf pd_28I29I rfl) rfl (by show 2 * 0 + _ ≤ _; exact Nat.le_of_eq rfl) (hb hby at_484) (fun _ _ => ⟨rfl, eT_141, (by decide : 17 + 0 ≤ _), (by decide : 3142 + 0 ≤ _)⟩)
                      dsimp only [Pt.U, Pt.locs, Pt.cells, Pt.slots] at X143 l143 y143 z143 st143 hQ143
                      subst l143 y143 z143
                      obtain ⟨rfl, N143q, e143⟩ := hQ143
                      have N143 := Fr.app NN_141 N143q
                      refine Wp.go st143 ?_
                      show Wp p e below _ (T143.setTop (mkF m 487 LL142 [(.int (Int32.ofNat (own_D (fun z => own_el z == Int32.ofNat qw) (own_lk k0 k1 k2 k3) (own_W (own_upd (fun _ => (0 : Int32)) 0 rr0) (own_upd (fun _ => (0 : Int32)) 0 (Int32.ofNat l0))) 1 nw)))]))
                      refine Wp.step (fun t k => XS.iload X143.here hx rfl (hb hby at_487) rfl k) ?_
                      show Wp p e below _ (T143.setTop (mkF m 489 LL142 [(.int cv4), (.int (Int32.ofNat (own_D (fun z => own_el z == Int32.ofNat qw) (own_lk k0 k1 k2 k3) (own_W (own_upd (fun _ => (0 : Int32)) 0 rr0) (own_upd (fun _ => (0 : Int32)) 0 (Int32.ofNat l0))) 1 nw)))]))
                      refine Wp.step (fun t k => XS.icmpNo X143.here hx rfl (hb hby at_489) rfl (teq (show (Int32.ofNat (own_D (fun z => own_el z == Int32.ofNat qw) (own_lk k0 k1 k2 k3) (own_W (own_upd (fun _ => (0 : Int32)) 0 rr0) (own_upd (fun _ => (0 : Int32)) 0 (Int32.ofNat l0))) 1 nw)) = cv4 from (own_y (K := (own_lk k0 k1 k2 k3)) (Tg := (own_lk l0 l1 l2 l3)) (g2 := (own_upd (fun _ => (0 : Int32)) 0 rr0)) (g3 := (own_upd (fun _ => (0 : Int32)) 0 (Int32.ofNat l0))) (S := gs) (R := gp) (T := gt) hn4 hqw (fun i hi => (hKK i hi).2) hTT hS).trans hcv4.symm)).2 k) ?_
                      show Wp p e below _ (T143.setTop (mkF m 492 LL142 []))
                      refine Wp.step (fun t k => XS.iconst X143.here hx rfl (hb hby at_492) k) ?_
                      show Wp p e below _ (T143.setTop (mkF m 493 LL142 [(.int (1 : Int32))]))
                      refine Wp.step (fun t k => XS.goto X143.here hx rfl (pc0 := 493) (pc' := 497) rfl (hb hby at_493) (by decide) (by decide) k) ?_
                      show Wp p e below _ (T143.setTop (mkF m 497 LL142 [(.int (1 : Int32))]))
                      refine Wp.retN X143 hx (t := .boolean) Bd.returns (by simp) (hb hby at_497) hlk ?_ (by decide) (by decide)
                      show Q0 Z p0 p1 p2 p3 p4 p5 h0 n0 (some (.int (nar .boolean (1 : Int32)))) T143.heap _
                      rw [e143]
                      exact ⟨rfl, N143⟩
                    refine Wp.step (fun t k => XS.iload X_139.here hx rfl (hb hby at_420) rfl k) ?_
                    show Wp p e below _ (T_139.setTop (mkF m 422 LL140 [(.int (1 : Int32))]))
                    refine Wp.step (fun t k => XS.iconst X_139.here hx rfl (hb hby at_422) k) ?_
                    show Wp p e below _ (T_139.setTop (mkF m 423 LL140 [(.int (3 : Int32)), (.int (1 : Int32))]))
                    refine Wp.step (fun t k => XS.icmpYes X_139.here hx rfl (pc0 := 423) (pc' := 480) rfl (hb hby at_423) rfl (flt (show ¬ ((3 : Int32) < (1 : Int32)) by decide)).2.2.2 (by decide) (by decide) k) ?_
                    show Wp p e below _ (T_139.setTop (mkF m 480 LL140 []))
                    exact kont141 _ _ _ T_139 X_139 eT_139 NN_139 KK_139 q0_139 q1_139 q2_139 q3_139 q4_139 q5_139 q6_139 q7_139 q8_139 q9_139 q10_139 hcv3
                  refine Wp.step (fun t k => XS.iload X_137.here hx rfl (hb hby at_374) rfl k) ?_
                  show Wp p e below _ (T_137.setTop (mkF m 376 LL138 [(.int (1 : Int32))]))
                  refine Wp.step (fun t k => XS.iconst X_137.here hx rfl (hb hby at_376) k) ?_
                  show Wp p e below _ (T_137.setTop (mkF m 377 LL138 [(.int (2 : Int32)), (.int (1 : Int32))]))
                  refine Wp.step (fun t k => XS.icmpYes X_137.here hx rfl (pc0 := 377) (pc' := 420) rfl (hb hby at_377) rfl (flt (show ¬ ((2 : Int32) < (1 : Int32)) by decide)).2.2.2 (by decide) (by decide) k) ?_
                  show Wp p e below _ (T_137.setTop (mkF m 420 LL138 []))
                  exact kont139 _ _ _ T_137 X_137 eT_137 NN_137 KK_137 q0_137 q1_137 q2_137 q3_137 q4_137 q5_137 q6_137 q7_137 q8_137 q9_137 q10_137 hcv2
                refine Wp.step (fun t k => XS.iload X_135.here hx rfl (hb hby at_342) rfl k) ?_
                show Wp p e below _ (T_135.setTop (mkF m 344 LL136 [(.int (1 : Int32))]))
                refine Wp.step (fun t k => XS.iconst X_135.here hx rfl (hb hby at_344) k) ?_
                show Wp p e below _ (T_135.setTop (mkF m 345 LL136 [(.int (1 : Int32)), (.int (1 : Int32))]))
                refine Wp.step (fun t k => XS.icmpYes X_135.here hx rfl (pc0 := 345) (pc' := 374) rfl (hb hby at_345) rfl (flt (show ¬ ((1 : Int32) < (1 : Int32)) by decide)).2.2.2 (by decide) (by decide) k) ?_
                show Wp p e below _ (T_135.setTop (mkF m 374 LL136 []))
                exact kont137 _ _ _ T_135 X_135 eT_135 NN_135 KK_135 q0_135 q1_135 q2_135 q3_135 q4_135 q5_135 q6_135 q7_135 q8_135 q9_135 q10_135 hcv1
              refine Wp.step (fun t k => XS.iload X126.here hx rfl (hb hby at_325) rfl k) ?_
              show Wp p e below _ (T126.setTop (mkF m 327 LL134 [(.int (1 : Int32))]))
              refine Wp.step (fun t k => XS.ifNo X126.here hx rfl (hb hby at_327) rfl ((if0 _ _).trans (tlt (show (0 : Int32) < (1 : Int32) by decide)).2.2.2) k) ?_
              show Wp p e below _ (T126.setTop (mkF m 330 LL134 []))
              refine Wp.step (fun t k => XS.aload X126.here hx rfl (hb hby at_330) rfl rfl k) ?_
              show Wp p e below _ (T126.setTop (mkF m 332 LL134 [(.ref b6)]))
              refine Wp.step (fun t k => XS.iconst X126.here hx rfl (hb hby at_332) k) ?_
              show Wp p e below _ (T126.setTop (mkF m 333 LL134 [(.int (0 : Int32)), (.ref b6)]))
              obtain ⟨cl149, Ar149, Sz149, Nn149, El149⟩ := id B128
              have hin149 : ¬ ((0 : Int32) < 0 ∨ cl149.slots.size ≤ ((0 : Int32)).toNatClampNeg) := inb_of Sz149 ⟨by decide, by decide⟩
              have hat149 : cl149.slots[((0 : Int32)).toNatClampNeg]? = some (.int (gt ((0 : Int32)).toNatClampNeg)) := (El149 _ (by have q := Nat.lt_of_not_le fun q => hin149 (Or.inr q); rw [Sz149] at q; exact q)).1
              rw [show (gt ((0 : Int32)).toNatClampNeg) = (gt 0) from rfl] at hat149
              refine Wp.step (X126.iaload hx (j := (0 : Int32)) (v := (.int (gt 0))) (by rw [e126]; exact Ar149.1) (State.isArrayOf_alike hZ.alike Ar149.2.1) Ar149.2.2 hin149 hat149 (g := (mkF m 333 LL134 [(.int (0 : Int32)), (.ref b6)])) rfl rfl (hb hby at_333)) ?_
              show Wp p e below _ (T126.setTop (mkF m 334 LL134 [(.int (gt 0))]))
              refine Wp.step (fun t k => XS.iload X126.here hx rfl (hb hby at_334) rfl k) ?_
              show Wp p e below _ (T126.setTop (mkF m 336 LL134 [(.int (Int32.ofNat qw)), (.int (gt 0))]))
              by_cases hc150 : (gt 0) = (Int32.ofNat qw)
              · refine Wp.step (fun t k => XS.icmpNo X126.here hx rfl (hb hby at_336) rfl (teq hc150).2 k) ?_
                show Wp p e below _ (T126.setTop (mkF m 339 LL134 []))
                refine Wp.step (fun t k => XS.iinc X126.here hx rfl (hb hby at_339) rfl (l' := #[.val (.int p0), .val (.int p1), .val (.int p2), .val (.int p3), .val (.int p4), .val (.int p5), .val (.int (Int32.ofNat nw)), .val (.int (1 : Int32)), .val (.ref b1), .val (.ref b3), .val (.ref b6), .val (.int (Int32.ofNat qw)), .val (.ref b64), .val (.int ((0 : Int32) + (1 : Int32)))]) rfl k) ?_
                show Wp p e below _ (T126.setTop (mkF m 342 #[.val (.int p0), .val (.int p1), .val (.int p2), .val (.int p3), .val (.int p4), .val (.int p5), .val (.int (Int32.ofNat nw)), .val (.int (1 : Int32)), .val (.ref b1), .val (.ref b3), .val (.ref b6), .val (.int (Int32.ofNat qw)), .val (.ref b64), .val (.int ((0 : Int32) + (1 : Int32)))] []))
                exact kont135 _ _ _ T126 X126 e126 N126 K126 B127 B128 B129 cE126 B131 B132 B133 cs126 ct126 Bs126 Bt126 (Eq.trans (congrArg (· + 1) (show (0 : Int32) = own_ey gs gp gt (Int32.ofNat qw) 0 from rfl)) (own_ey_pos (S := gs) (R := gp) (T := gt) (q := (Int32.ofNat qw)) (c := 0) ⟨hc150, own_a0⟩).symm)
              · refine Wp.step (fun t k => XS.icmpYes X126.here hx rfl (pc0 := 336) (pc' := 342) rfl (hb hby at_336) rfl (feq hc150).2 (by decide) (by decide) k) ?_
                show Wp p e below _ (T126.setTop (mkF m 342 LL134 []))
                exact kont135 _ _ _ T126 X126 e126 N126 K126 B127 B128 B129 cE126 B131 B132 B133 cs126 ct126 Bs126 Bt126 (Eq.trans rfl (own_ey_neg (S := gs) (R := gp) (T := gt) (q := (Int32.ofNat qw)) (c := 0) (fun q => hc150 q.1)).symm)
            · show Wp p e below _ (T77.setTop (mkF m 224 #[.val (.int p0), .val (.int p1), .val (.int p2), .val (.int p3), .val (.int p4), .val (.int p5), .val (.int (Int32.ofNat nw)), .val (.int (2 : Int32)), .val (.ref b1), .val (.ref b3), .val (.ref b6), .val (.int (Int32.ofNat qw)), .val (.ref b64), .unset] []))
              let LL151 : Array Slot := #[.val (.int p0), .val (.int p1), .val (.int p2), .val (.int p3), .val (.int p4), .val (.int p5), .val (.int (Int32.ofNat nw)), .val (.int (2 : Int32)), .val (.ref b1), .val (.ref b3), .val (.ref b6), .val (.int (Int32.ofNat qw)), .val (.ref b64), .unset]
              show Wp p e below _ (T77.setTop (mkF m 224 LL151 []))
              refine Wp.step (fun t k => XS.iload X77.here hx rfl (hb hby at_224) rfl k) ?_
              show Wp p e below _ (T77.setTop (mkF m 226 LL151 [(.int (2 : Int32))]))
              refine Wp.step (fun t k => XS.ifNo X77.here hx rfl (hb hby at_226) rfl ((if0 _ _).trans (tlt (show (0 : Int32) < (2 : Int32) by decide)).2.2.2) k) ?_
              show Wp p e below _ (T77.setTop (mkF m 229 LL151 []))
              refine Wp.step (fun t k => XS.aload X77.here hx rfl (hb hby at_229) rfl rfl k) ?_
              show Wp p e below _ (T77.setTop (mkF m 231 LL151 [(.ref b64)]))
              refine Wp.step (fun t k => XS.aload X77.here hx rfl (hb hby at_231) rfl rfl k) ?_
              show Wp p e below _ (T77.setTop (mkF m 233 LL151 [(.ref b1), (.ref b64)]))
              refine Wp.step (fun t k => XS.iconst X77.here hx rfl (hb hby at_233) k) ?_
              show Wp p e below _ (T77.setTop (mkF m 234 LL151 [(.int (0 : Int32)), (.ref b1), (.ref b64)]))
              obtain ⟨cl153, Ar153, Sz153, Nn153, El153⟩ := id B78
              have hin153 : ¬ ((0 : Int32) < 0 ∨ cl153.slots.size ≤ ((0 : Int32)).toNatClampNeg) := inb_of Sz153 ⟨by decide, by decide⟩
              have hat153 : cl153.slots[((0 : Int32)).toNatClampNeg]? = some (.int (gs ((0 : Int32)).toNatClampNeg)) := (El153 _ (by have q := Nat.lt_of_not_le fun q => hin153 (Or.inr q); rw [Sz153] at q; exact q)).1
              rw [show (gs ((0 : Int32)).toNatClampNeg) = (gs 0) from rfl] at hat153
              rw [show (gs 0) = (Int32.ofNat k0) from (by rw [hgs]; rfl)] at hat153
              refine Wp.step (X77.iaload hx (j := (0 : Int32)) (v := (.int (Int32.ofNat k0))) (by rw [e77]; exact Ar153.1) (State.isArrayOf_alike hZ.alike Ar153.2.1) Ar153.2.2 hin153 hat153 (g := (mkF m 234 LL151 [(.int (0 : Int32)), (.ref b1), (.ref b64)])) rfl rfl (hb hby at_234)) ?_
              show Wp p e below _ (T77.setTop (mkF m 235 LL151 [(.int (Int32.ofNat k0)), (.ref b64)]))
              refine Wp.step (fun t k => XS.aload X77.here hx rfl (hb hby at_235) rfl rfl k) ?_
              show Wp p e below _ (T77.setTop (mkF m 237 LL151 [(.ref b3), (.int (Int32.ofNat k0)), (.ref b64)]))
              refine Wp.step (fun t k => XS.iconst X77.here hx rfl (hb hby at_237) k) ?_
              show Wp p e below _ (T77.setTop (mkF m 238 LL151 [(.int (0 : Int32)), (.ref b3), (.int (Int32.ofNat k0)), (.ref b64)]))
              obtain ⟨cl154, Ar154, Sz154, Nn154, El154⟩ := id B80
              have hin154 : ¬ ((0 : Int32) < 0 ∨ cl154.slots.size ≤ ((0 : Int32)).toNatClampNeg) := inb_of Sz154 ⟨by decide, by decide⟩
              have hat154 : cl154.slots[((0 : Int32)).toNatClampNeg]? = some (.int (gp ((0 : Int32)).toNatClampNeg)) := (El154 _ (by have q := Nat.lt_of_not_le fun q => hin154 (Or.inr q); rw [Sz154] at q; exact q)).1
              rw [show (gp ((0 : Int32)).toNatClampNeg) = (gp 0) from rfl] at hat154
              rw [show (gp 0) = rr0 from (by rw [hgp]; rfl)] at hat154
              refine Wp.step (X77.iaload hx (j := (0 : Int32)) (v := (.int rr0)) (by rw [e77]; exact Ar154.1) (State.isArrayOf_alike hZ.alike Ar154.2.1) Ar154.2.2 hin154 hat154 (g := (mkF m 238 LL151 [(.int (0 : Int32)), (.ref b3), (.int (Int32.ofNat k0)), (.ref b64)])) rfl rfl (hb hby at_238)) ?_
              show Wp p e below _ (T77.setTop (mkF m 239 LL151 [(.int rr0), (.int (Int32.ofNat k0)), (.ref b64)]))
              refine Wp.step (fun t k => XS.aload X77.here hx rfl (hb hby at_239) rfl rfl k) ?_
              show Wp p e below _ (T77.setTop (mkF m 241 LL151 [(.ref b6), (.int rr0), (.int (Int32.ofNat k0)), (.ref b64)]))
              refine Wp.step (fun t k => XS.iconst X77.here hx rfl (hb hby at_241) k) ?_
              show Wp p e below _ (T77.setTop (mkF m 242 LL151 [(.int (0 : Int32)), (.ref b6), (.int rr0), (.int (Int32.ofNat k0)), (.ref b64)]))
              obtain ⟨cl155, Ar155, Sz155, Nn155, El155⟩ := id B79
              have hin155 : ¬ ((0 : Int32) < 0 ∨ cl155.slots.size ≤ ((0 : Int32)).toNatClampNeg) := inb_of Sz155 ⟨by decide, by decide⟩
              have hat155 : cl155.slots[((0 : Int32)).toNatClampNeg]? = some (.int (gt ((0 : Int32)).toNatClampNeg)) := (El155 _ (by have q := Nat.lt_of_not_le fun q => hin155 (Or.inr q); rw [Sz155] at q; exact q)).1
              rw [show (gt ((0 : Int32)).toNatClampNeg) = (gt 0) from rfl] at hat155
              rw [show (gt 0) = (Int32.ofNat l0) from (by rw [hgt]; rfl)] at hat155
              refine Wp.step (X77.iaload hx (j := (0 : Int32)) (v := (.int (Int32.ofNat l0))) (by rw [e77]; exact Ar155.1) (State.isArrayOf_alike hZ.alike Ar155.2.1) Ar155.2.2 hin155 hat155 (g := (mkF m 242 LL151 [(.int (0 : Int32)), (.ref b6), (.int rr0), (.int (Int32.ofNat k0)), (.ref b64)])) rfl rfl (hb hby at_242)) ?_
              show Wp p e below _ (T77.setTop (mkF m 243 LL151 [(.int (Int32.ofNat l0)), (.int rr0), (.int (Int32.ofNat k0)), (.ref b64)]))
              obtain ⟨cq156, kq156, q156a, q156b, q156c⟩ := isOf hZ e77 cE77
              obtain ⟨_, _, ⟨T156, L156, k156, n156⟩, -, X156, ⟨Lc156, hQ156, l156, y156, z156⟩, st156⟩ := X77.virtualBack hx (y := (⟨"com/example/erotema/erotema/model/ToldEdges", "add", "(III)V"⟩ : MethodName)) (z := (⟨"com/example/erotema/erotema/model/ToldEdges", "add", "(III)V"⟩ : MethodName)) hown (mvT hZ (hw _ (List.mem_of_getElem? (i := 81) rfl))) (mvT hZ (hw _ (List.mem_of_getElem? (i := 82) rfl))) (notFace_of_selects (args := #[]) (mvT hZ (hw _ (List.mem_of_getElem? (i := 84) rfl)))) (mvT hZ (hw _ (List.mem_of_getElem? (i := 84) rfl))) (mvT hZ (hw _ (List.mem_of_getElem? (i := 83) rfl))) (by decide) (backOf (W := 0) (rm14 l Z a0 hw [] b64 (Int32.ofNat k0) rr0 (Int32.ofNat l0) b77_1 b77_2 b77_3 0 (fun _ => (0 : Int32)) (fun _ => (0 : Int32)) (fun _ => (0 : Int32)) h77 n0 (Nat.le_trans Z0 K77.1) g_b64 cE77 c77_sources c77_properties c77_targets c77_added c77_bySourceStart c77_bySource c77_byTargetStart c77_byTarget g_b77_1 g_b77_2 g_b77_3 (Ne.symm ne_b64_b77_1) (Ne.symm ne_b64_b77_2) (Ne.symm ne_b64_b77_3) nb12 nb13 nb23 Bb77_1 Bb77_2 Bb77_3 (by omega)) hZ (hw _ (List.mem_of_getElem? (i := 85) rfl)) (hw _ (List.mem_of_getElem? (i := 3) rfl)) (by decide) (by decide)) q156a q156c (g := (mkF m 243 LL151 [(.int (Int32.ofNat l0)), (.int rr0), (.int (Int32.ofNat k0)), (.ref b64)])) rfl (by rw [hml]; rfl) (Steps.refl _) (argsL := [(.int (Int32.ofNat k0)), (.int rr0), (.int (Int32.ofNat l0))]) (rest := []) (lenOf pd_28III29V rfl) rfl (by show 2 * 0 + _ ≤ _; exact Nat.le_of_eq rfl) (hb hby at_243) (fun _ _ => ⟨rfl, e77, (by decide : 7 + 0 ≤ _), (by decide : 3092 + 0 ≤ _)⟩)
              dsimp only [Pt.U, Pt.locs, Pt.cells, Pt.slots] at X156 l156 y156 z156 st156 hQ156
              subst l156 y156 z156
              obtain ⟨h156, e156⟩ : ∃ z, T156.heap = z := ⟨_, rfl⟩
              rw [e156] at hQ156
              obtain ⟨rfl, N156q, Kc156, cE156, c156_sources, c156_properties, c156_targets, c156_added, c156_bySourceStart, c156_bySource, c156_byTargetStart, c156_byTarget, Ba156, Bb156, Bc156⟩ := hQ156
              have N156 := Fr.app N77 N156q
              have B157 := B78.keep Kc156 (ninS ne_b1_b64 (ninS ne_b1_b77_1 (ninS ne_b1_b77_2 (ninS ne_b1_b77_3 nin0))))
              have B158 := B79.keep Kc156 (ninS ne_b6_b64 (ninS ne_b6_b77_1 (ninS ne_b6_b77_2 (ninS ne_b6_b77_3 nin0))))
              have B159 := B80.keep Kc156 (ninS ne_b3_b64 (ninS ne_b3_b77_1 (ninS ne_b3_b77_2 (ninS ne_b3_b77_3 nin0))))
              have c160 := cE77.keep Kc156
              have K156 := K77.trans Kc156 (allS (Or.inr sz_b64) (allS (Or.inr sz_b77_1) (allS (Or.inr sz_b77_2) (allS (Or.inr sz_b77_3) all0))))
              refine Wp.go st156 ?_
              show Wp p e below _ (T156.setTop (mkF m 246 LL151 []))
              refine Wp.step (fun t k => XS.iload X156.here hx rfl (hb hby at_246) rfl k) ?_
              show Wp p e below _ (T156.setTop (mkF m 248 LL151 [(.int (2 : Int32))]))
              refine Wp.step (fun t k => XS.iconst X156.here hx rfl (hb hby at_248) k) ?_
              show Wp p e below _ (T156.setTop (mkF m 249 LL151 [(.int (1 : Int32)), (.int (2 : Int32))]))
              refine Wp.step (fun t k => XS.icmpNo X156.here hx rfl (hb hby at_249) rfl (tlt (show (1 : Int32) < (2 : Int32) by decide)).2.2.2 k) ?_
              show Wp p e below _ (T156.setTop (mkF m 252 LL151 []))
              refine Wp.step (fun t k => XS.aload X156.here hx rfl (hb hby at_252) rfl rfl k) ?_
              show Wp p e below _ (T156.setTop (mkF m 254 LL151 [(.ref b64)]))
              refine Wp.step (fun t k => XS.aload X156.here hx rfl (hb hby at_254) rfl rfl k) ?_
              show Wp p e below _ (T156.setTop (mkF m 256 LL151 [(.ref b1), (.ref b64)]))
              refine Wp.step (fun t k => XS.iconst X156.here hx rfl (hb hby at_256) k) ?_
              show Wp p e below _ (T156.setTop (mkF m 257 LL151 [(.int (1 : Int32)), (.ref b1), (.ref b64)]))
              obtain ⟨cl165, Ar165, Sz165, Nn165, El165⟩ := id B157
              have hin165 : ¬ ((1 : Int32) < 0 ∨ cl165.slots.size ≤ ((1 : Int32)).toNatClampNeg) := inb_of Sz165 ⟨by decide, by decide⟩
              have hat165 : cl165.slots[((1 : Int32)).toNatClampNeg]? = some (.int (gs ((1 : Int32)).toNatClampNeg)) := (El165 _ (by have q := Nat.lt_of_not_le fun q => hin165 (Or.inr q); rw [Sz165] at q; exact q)).1
              rw [show (gs ((1 : Int32)).toNatClampNeg) = (gs 1) from rfl] at hat165
              rw [show (gs 1) = (Int32.ofNat k1) from (by rw [hgs]; rfl)] at hat165
              refine Wp.step (X156.iaload hx (j := (1 : Int32)) (v := (.int (Int32.ofNat k1))) (by rw [e156]; exact Ar165.1) (State.isArrayOf_alike hZ.alike Ar165.2.1) Ar165.2.2 hin165 hat165 (g := (mkF m 257 LL151 [(.int (1 : Int32)), (.ref b1), (.ref b64)])) rfl rfl (hb hby at_257)) ?_
              show Wp p e below _ (T156.setTop (mkF m 258 LL151 [(.int (Int32.ofNat k1)), (.ref b64)]))
              refine Wp.step (fun t k => XS.aload X156.here hx rfl (hb hby at_258) rfl rfl k) ?_
              show Wp p e below _ (T156.setTop (mkF m 260 LL151 [(.ref b3), (.int (Int32.ofNat k1)), (.ref b64)]))
              refine Wp.step (fun t k => XS.iconst X156.here hx rfl (hb hby at_260) k) ?_
              show Wp p e below _ (T156.setTop (mkF m 261 LL151 [(.int (1 : Int32)), (.ref b3), (.int (Int32.ofNat k1)), (.ref b64)]))
              obtain ⟨cl166, Ar166, Sz166, Nn166, El166⟩ := id B159
              have hin166 : ¬ ((1 : Int32) < 0 ∨ cl166.slots.size ≤ ((1 : Int32)).toNatClampNeg) := inb_of Sz166 ⟨by decide, by decide⟩
              have hat166 : cl166.slots[((1 : Int32)).toNatClampNeg]? = some (.int (gp ((1 : Int32)).toNatClampNeg)) := (El166 _ (by have q := Nat.lt_of_not_le fun q => hin166 (Or.inr q); rw [Sz166] at q; exact q)).1
              rw [show (gp ((1 : Int32)).toNatClampNeg) = (gp 1) from rfl] at hat166
              rw [show (gp 1) = rr1 from (by rw [hgp]; rfl)] at hat166
              refine Wp.step (X156.iaload hx (j := (1 : Int32)) (v := (.int rr1)) (by rw [e156]; exact Ar166.1) (State.isArrayOf_alike hZ.alike Ar166.2.1) Ar166.2.2 hin166 hat166 (g := (mkF m 261 LL151 [(.int (1 : Int32)), (.ref b3), (.int (Int32.ofNat k1)), (.ref b64)])) rfl rfl (hb hby at_261)) ?_
              show Wp p e below _ (T156.setTop (mkF m 262 LL151 [(.int rr1), (.int (Int32.ofNat k1)), (.ref b64)]))
              refine Wp.step (fun t k => XS.aload X156.here hx rfl (hb hby at_262) rfl rfl k) ?_
              show Wp p e below _ (T156.setTop (mkF m 264 LL151 [(.ref b6), (.int rr1), (.int (Int32.ofNat k1)), (.ref b64)]))
              refine Wp.step (fun t k => XS.iconst X156.here hx rfl (hb hby at_264) k) ?_
              show Wp p e below _ (T156.setTop (mkF m 265 LL151 [(.int (1 : Int32)), (.ref b6), (.int rr1), (.int (Int32.ofNat k1)), (.ref b64)]))
              obtain ⟨cl167, Ar167, Sz167, Nn167, El167⟩ := id B158
              have hin167 : ¬ ((1 : Int32) < 0 ∨ cl167.slots.size ≤ ((1 : Int32)).toNatClampNeg) := inb_of Sz167 ⟨by decide, by decide⟩
              have hat167 : cl167.slots[((1 : Int32)).toNatClampNeg]? = some (.int (gt ((1 : Int32)).toNatClampNeg)) := (El167 _ (by have q := Nat.lt_of_not_le fun q => hin167 (Or.inr q); rw [Sz167] at q; exact q)).1
              rw [show (gt ((1 : Int32)).toNatClampNeg) = (gt 1) from rfl] at hat167
              rw [show (gt 1) = (Int32.ofNat l1) from (by rw [hgt]; rfl)] at hat167
              refine Wp.step (X156.iaload hx (j := (1 : Int32)) (v := (.int (Int32.ofNat l1))) (by rw [e156]; exact Ar167.1) (State.isArrayOf_alike hZ.alike Ar167.2.1) Ar167.2.2 hin167 hat167 (g := (mkF m 265 LL151 [(.int (1 : Int32)), (.ref b6), (.int rr1), (.int (Int32.ofNat k1)), (.ref b64)])) rfl rfl (hb hby at_265)) ?_
              show Wp p e below _ (T156.setTop (mkF m 266 LL151 [(.int (Int32.ofNat l1)), (.int rr1), (.int (Int32.ofNat k1)), (.ref b64)]))
              obtain ⟨cq168, kq168, q168a, q168b, q168c⟩ := isOf hZ e156 cE156
              obtain ⟨_, _, ⟨T168, L168, k168, n168⟩, -, X168, ⟨Lc168, hQ168, l168, y168, z168⟩, st168⟩ := X156.virtualBack hx (y := (⟨"com/example/erotema/erotema/model/ToldEdges", "add", "(III)V"⟩ : MethodName)) (z := (⟨"com/example/erotema/erotema/model/ToldEdges", "add", "(III)V"⟩ : MethodName)) hown (mvT hZ (hw _ (List.mem_of_getElem? (i := 81) rfl))) (mvT hZ (hw _ (List.mem_of_getElem? (i := 82) rfl))) (notFace_of_selects (args := #[]) (mvT hZ (hw _ (List.mem_of_getElem? (i := 84) rfl)))) (mvT hZ (hw _ (List.mem_of_getElem? (i := 84) rfl))) (mvT hZ (hw _ (List.mem_of_getElem? (i := 83) rfl))) (by decide) (backOf (W := 0) (rm14 l Z a0 hw [] b64 (Int32.ofNat k1) rr1 (Int32.ofNat l1) b77_1 b77_2 b77_3 1 (own_upd (fun _ => (0 : Int32)) 0 (Int32.ofNat k0)) (own_upd (fun _ => (0 : Int32)) 0 rr0) (own_upd (fun _ => (0 : Int32)) 0 (Int32.ofNat l0)) h156 n0 (Nat.le_trans Z0 K156.1) g_b64 cE156 c156_sources c156_properties c156_targets c156_added c156_bySourceStart c156_bySource c156_byTargetStart c156_byTarget g_b77_1 g_b77_2 g_b77_3 (Ne.symm ne_b64_b77_1) (Ne.symm ne_b64_b77_2) (Ne.symm ne_b64_b77_3) nb12 nb13 nb23 Ba156 Bb156 Bc156 (by omega)) hZ (hw _ (List.mem_of_getElem? (i := 85) rfl)) (hw _ (List.mem_of_getElem? (i := 3) rfl)) (by decide) (by decide)) q168a q168c (g := (mkF m 266 LL151 [(.int (Int32.ofNat l1)), (.int rr1), (.int (Int32.ofNat k1)), (.ref b64)])) rfl (by rw [hml]; rfl) (Steps.refl _) (argsL := [(.int (Int32.ofNat k1)), (.int rr1), (.int (Int32.ofNat l1))]) (rest := []) (lenOf pd_28III29V rfl) rfl (by show 2 * 0 + _ ≤ _; exact Nat.le_of_eq rfl) (hb hby at_266) (fun _ _ => ⟨rfl, e156, (by decide : 7 + 0 ≤ _), (by decide : 3092 + 0 ≤ _)⟩)
              dsimp only [Pt.U, Pt.locs, Pt.cells, Pt.slots] at X168 l168 y168 z168 st168 hQ168
              subst l168 y168 z168
              obtain ⟨h168, e168⟩ : ∃ z, T168.heap = z := ⟨_, rfl⟩
              rw [e168] at hQ168
              obtain ⟨rfl, N168q, Kc168, cE168, c168_sources, c168_properties, c168_targets, c168_added, c168_bySourceStart, c168_bySource, c168_byTargetStart, c168_byTarget, Ba168, Bb168, Bc168⟩ := hQ168
              have N168 := Fr.app N156 N168q
              have B169 := B157.keep Kc168 (ninS ne_b1_b64 (ninS ne_b1_b77_1 (ninS ne_b1_b77_2 (ninS ne_b1_b77_3 nin0))))
              have B170 := B158.keep Kc168 (ninS ne_b6_b64 (ninS ne_b6_b77_1 (ninS ne_b6_b77_2 (ninS ne_b6_b77_3 nin0))))
              have B171 := B159.keep Kc168 (ninS ne_b3_b64 (ninS ne_b3_b77_1 (ninS ne_b3_b77_2 (ninS ne_b3_b77_3 nin0))))
              have c172 := cE156.keep Kc168
              have K168 := K156.trans Kc168 (allS (Or.inr sz_b64) (allS (Or.inr sz_b77_1) (allS (Or.inr sz_b77_2) (allS (Or.inr sz_b77_3) all0))))
              refine Wp.go st168 ?_
              show Wp p e below _ (T168.setTop (mkF m 269 LL151 []))
              refine Wp.step (fun t k => XS.iload X168.here hx rfl (hb hby at_269) rfl k) ?_
              show Wp p e below _ (T168.setTop (mkF m 271 LL151 [(.int (2 : Int32))]))
              refine Wp.step (fun t k => XS.iconst X168.here hx rfl (hb hby at_271) k) ?_
              show Wp p e below _ (T168.setTop (mkF m 272 LL151 [(.int (2 : Int32)), (.int (2 : Int32))]))
              refine Wp.step (fun t k => XS.icmpYes X168.here hx rfl (pc0 := 272) (pc' := 292) rfl (hb hby at_272) rfl (flt (show ¬ ((2 : Int32) < (2 : Int32)) by decide)).2.2.2 (by decide) (by decide) k) ?_
              show Wp p e below _ (T168.setTop (mkF m 292 LL151 []))
              refine Wp.step (fun t k => XS.iload X168.here hx rfl (hb hby at_292) rfl k) ?_
              show Wp p e below _ (T168.setTop (mkF m 294 LL151 [(.int (2 : Int32))]))
              refine Wp.step (fun t k => XS.iconst X168.here hx rfl (hb hby at_294) k) ?_
              show Wp p e below _ (T168.setTop (mkF m 295 LL151 [(.int (3 : Int32)), (.int (2 : Int32))]))
              refine Wp.step (fun t k => XS.icmpYes X168.here hx rfl (pc0 := 295) (pc' := 315) rfl (hb hby at_295) rfl (flt (show ¬ ((3 : Int32) < (2 : Int32)) by decide)).2.2.2 (by decide) (by decide) k) ?_
              show Wp p e below _ (T168.setTop (mkF m 315 LL151 []))
              refine Wp.step (fun t k => XS.aload X168.here hx rfl (hb hby at_315) rfl rfl k) ?_
              show Wp p e below _ (T168.setTop (mkF m 317 LL151 [(.ref b64)]))
              refine Wp.step (fun t k => XS.iload X168.here hx rfl (hb hby at_317) rfl k) ?_
              show Wp p e below _ (T168.setTop (mkF m 319 LL151 [(.int (Int32.ofNat nw)), (.ref b64)]))
              have hKK : ∀ i, i < 2 → (own_upd (own_upd (fun _ => (0 : Int32)) 0 (Int32.ofNat k0)) 1 (Int32.ofNat k1)) i = Int32.ofNat ((own_lk k0 k1 k2 k3) i) ∧ (own_lk k0 k1 k2 k3) i < nw := fun i hi => by
                match i, hi with
                | 0, _ => exact ⟨rfl, hk0⟩
                | 1, _ => exact ⟨rfl, hk1⟩
                | i + 2, hi => exact absurd hi (by omega)
              have hTT : ∀ i, i < 2 → (own_upd (own_upd (fun _ => (0 : Int32)) 0 (Int32.ofNat l0)) 1 (Int32.ofNat l1)) i = Int32.ofNat ((own_lk l0 l1 l2 l3) i) ∧ (own_lk l0 l1 l2 l3) i < nw := fun i hi => by
                match i, hi with
                | 0, _ => exact ⟨rfl, hl0⟩
                | 1, _ => exact ⟨rfl, hl1⟩
                | i + 2, hi => exact absurd hi (by omega)
              obtain ⟨cq178, kq178, q178a, q178b, q178c⟩ := isOf hZ e168 cE168
              obtain ⟨_, _, ⟨T178, L178, k178, n178⟩, -, X178, ⟨Lc178, hQ178, l178, y178, z178⟩, st178⟩ := X168.virtualBack hx (y := (⟨"com/example/erotema/erotema/model/ToldEdges", "index", "(I)V"⟩ : MethodName)) (z := (⟨"com/example/erotema/erotema/model/ToldEdges", "index", "(I)V"⟩ : MethodName)) hown (mvT hZ (hw _ (List.mem_of_getElem? (i := 16) rfl))) (mvT hZ (hw _ (List.mem_of_getElem? (i := 17) rfl))) (notFace_of_selects (args := #[]) (mvT hZ (hw _ (List.mem_of_getElem? (i := 19) rfl)))) (mvT hZ (hw _ (List.mem_of_getElem? (i := 19) rfl))) (mvT hZ (hw _ (List.mem_of_getElem? (i := 18) rfl))) (by decide) (backOf (W := 0) (rm3 l Z a0 hw [] b64 (Int32.ofNat nw) b77_1 b77_2 b77_3 2 nw (own_lk k0 k1 k2 k3) (own_lk l0 l1 l2 l3) (own_upd (own_upd (fun _ => (0 : Int32)) 0 (Int32.ofNat k0)) 1 (Int32.ofNat k1)) (own_upd (own_upd (fun _ => (0 : Int32)) 0 rr0) 1 rr1) (own_upd (own_upd (fun _ => (0 : Int32)) 0 (Int32.ofNat l0)) 1 (Int32.ofNat l1)) h168 n0 (Nat.le_trans Z0 K168.1) rfl g_b64 cE168 c168_sources c168_properties c168_targets c168_added c168_bySourceStart c168_bySource c168_byTargetStart c168_byTarget (Ne.symm ne_b64_b77_1) (Ne.symm ne_b64_b77_2) (Ne.symm ne_b64_b77_3) Ba168 Bb168 Bc168 (by omega) (by omega) hKK hTT) hZ (hw _ (List.mem_of_getElem? (i := 20) rfl)) (hw _ (List.mem_of_getElem? (i := 3) rfl)) (by decide) (by decide)) q178a q178c (g := (mkF m 319 LL151 [(.int (Int32.ofNat nw)), (.ref b64)])) rfl (by rw [hml]; rfl) (Steps.refl _) (argsL := [(.int (Int32.ofNat nw))]) (rest := []) (lenOf pd_28I29V rfl) rfl (by show 2 * 0 + _ ≤ _; exact Nat.le_of_eq rfl) (hb hby at_319) (fun _ _ => ⟨rfl, e168, (by decide : 7 + 10 ≤ _), (by decide : 3092 + 50 ≤ _)⟩)
              dsimp only [Pt.U, Pt.locs, Pt.cells, Pt.slots] at X178 l178 y178 z178 st178 hQ178
              subst l178 y178 z178
              obtain ⟨h178, e178⟩ : ∃ z, T178.heap = z := ⟨_, rfl⟩
              rw [e178] at hQ178
              obtain ⟨bs178, bt178, FF178, rfl, N178q, Kc178, cE178, cs178, Bs178, ct178, Bt178, f4178, fq178⟩ := hQ178
              have N178 := Fr.app N168 N178q
              have B179 := B169.keep Kc178 (ninS ne_b1_b64 nin0)
              have B180 := B170.keep Kc178 (ninS ne_b6_b64 nin0)
              have B181 := B171.keep Kc178 (ninS ne_b3_b64 nin0)
              have c182 := cE168.keep Kc178
              have B183 := Ba168.keep Kc178 (ninS (Ne.symm ne_b64_b77_1) nin0)
              have B184 := Bb168.keep Kc178 (ninS (Ne.symm ne_b64_b77_2) nin0)
              have B185 := Bc168.keep Kc178 (ninS (Ne.symm ne_b64_b77_3) nin0)
              have K178 := K168.trans Kc178 (allS (Or.inr sz_b64) all0)
              refine Wp.go st178 ?_
              show Wp p e below _ (T178.setTop (mkF m 322 LL151 []))
              refine Wp.step (fun t k => XS.iconst X178.here hx rfl (hb hby at_322) k) ?_
              show Wp p e below _ (T178.setTop (mkF m 323 LL151 [(.int (0 : Int32))]))
              refine Wp.step (fun t k => XS.istore X178.here hx rfl (hb hby at_323) rfl (l' := #[.val (.int p0), .val (.int p1), .val (.int p2), .val (.int p3), .val (.int p4), .val (.int p5), .val (.int (Int32.ofNat nw)), .val (.int (2 : Int32)), .val (.ref b1), .val (.ref b3), .val (.ref b6), .val (.int (Int32.ofNat qw)), .val (.ref b64), .val (.int (0 : Int32))]) rfl k) ?_
              show Wp p e below _ (T178.setTop (mkF m 325 #[.val (.int p0), .val (.int p1), .val (.int p2), .val (.int p3), .val (.int p4), .val (.int p5), .val (.int (Int32.ofNat nw)), .val (.int (2 : Int32)), .val (.ref b1), .val (.ref b3), .val (.ref b6), .val (.int (Int32.ofNat qw)), .val (.ref b64), .val (.int (0 : Int32))] []))
              let LL186 : Array Slot := #[.val (.int p0), .val (.int p1), .val (.int p2), .val (.int p3), .val (.int p4), .val (.int p5), .val (.int (Int32.ofNat nw)), .val (.int (2 : Int32)), .val (.ref b1), .val (.ref b3), .val (.ref b6), .val (.int (Int32.ofNat qw)), .val (.ref b64), .val (.int (0 : Int32))]
              show Wp p e below _ (T178.setTop (mkF m 325 LL186 []))
              have kont187 : ∀ (cv1 : Int32) (hh_187 : Heap) (locs_187 : List Loc) (T_187 : State) (X_187 : Stand p l e room_1 s m #[(.int p0), (.int p1), (.int p2), (.int p3), (.int p4), (.int p5)] below meth c T_187 locs_187 17 3142) (eT_187 : T_187.heap = hh_187) (NN_187 : Fr n0 locs_187) (KK_187 : Keep h0 hh_187 []) (q0_187 : own_IA .int Z hh_187 b1 (4 : Int32) gs) (q1_187 : own_IA .int Z hh_187 b6 (4 : Int32) gt) (q2_187 : own_IA .int Z hh_187 b3 (4 : Int32) gp) (q3_187 : Exa Z hh_187 b64 "com/example/erotema/erotema/model/ToldEdges") (q4_187 : own_IA .int Z hh_187 b77_1 (Int32.ofNat 1024) (own_upd (own_upd (fun _ => (0 : Int32)) 0 (Int32.ofNat k0)) 1 (Int32.ofNat k1))) (q5_187 : own_IA .int Z hh_187 b77_2 (Int32.ofNat 1024) (own_upd (own_upd (fun _ => (0 : Int32)) 0 rr0) 1 rr1)) (q6_187 : own_IA .int Z hh_187 b77_3 (Int32.ofNat 1024) (own_upd (own_upd (fun _ => (0 : Int32)) 0 (Int32.ofNat l0)) 1 (Int32.ofNat l1))) (q7_187 : Fld Z hh_187 b64 "com/example/erotema/erotema/model/ToldEdges" "bySourceStart" "[I" (.ref bs178)) (q8_187 : Fld Z hh_187 b64 "com/example/erotema/erotema/model/ToldEdges" "byTargetStart" "[I" (.ref bt178)) (q9_187 : own_IA .int Z hh_187 bs178 (Int32.ofNat (nw + 1)) (own_DI (own_lk k0 k1 k2 k3) (own_W (own_upd (own_upd (fun _ => (0 : Int32)) 0 rr0) 1 rr1) (own_upd (own_upd (fun _ => (0 : Int32)) 0 (Int32.ofNat l0)) 1 (Int32.ofNat l1))) 2)) (q10_187 : own_IA .int Z hh_187 bt178 (Int32.ofNat (nw + 1)) (fun v => Int32.ofNat (FF178 v))) (hcv1 : cv1 = own_ey gs gp gt (Int32.ofNat qw) 1), Wp p e below (Out s (Q0 Z p0 p1 p2 p3 p4 p5 h0 n0) room_1.cells room_1.slots) (T_187.setTop (mkF m 342 #[.val (.int p0), .val (.int p1), .val (.int p2), .val (.int p3), .val (.int p4), .val (.int p5), .val (.int (Int32.ofNat nw)), .val (.int (2 : Int32)), .val (.ref b1), .val (.ref b3), .val (.ref b6), .val (.int (Int32.ofNat qw)), .val (.ref b64), .val (.int cv1)] [])) := by
                intro cv1 hh_187 locs_187 T_187 X_187 eT_187 NN_187 KK_187 q0_187 q1_187 q2_187 q3_187 q4_187 q5_187 q6_187 q7_187 q8_187 q9_187 q10_187 hcv1
                let LL188 : Array Slot := #[.val (.int p0), .val (.int p1), .val (.int p2), .val (.int p3), .val (.int p4), .val (.int p5), .val (.int (Int32.ofNat nw)), .val (.int (2 : Int32)), .val (.ref b1), .val (.ref b3), .val (.ref b6), .val (.int (Int32.ofNat qw)), .val (.ref b64), .val (.int cv1)]
                show Wp p e below _ (T_187.setTop (mkF m 342 LL188 []))
                have kont189 : ∀ (cv2 : Int32) (hh_189 : Heap) (locs_189 : List Loc) (T_189 : State) (X_189 : Stand p l e room_1 s m #[(.int p0), (.int p1), (.int p2), (.int p3), (.int p4), (.int p5)] below meth c T_189 locs_189 17 3142) (eT_189 : T_189.heap = hh_189) (NN_189 : Fr n0 locs_189) (KK_189 : Keep h0 hh_189 []) (q0_189 : own_IA .int Z hh_189 b1 (4 : Int32) gs) (q1_189 : own_IA .int Z hh_189 b6 (4 : Int32) gt) (q2_189 : own_IA .int Z hh_189 b3 (4 : Int32) gp) (q3_189 : Exa Z hh_189 b64 "com/example/erotema/erotema/model/ToldEdges") (q4_189 : own_IA .int Z hh_189 b77_1 (Int32.ofNat 1024) (own_upd (own_upd (fun _ => (0 : Int32)) 0 (Int32.ofNat k0)) 1 (Int32.ofNat k1))) (q5_189 : own_IA .int Z hh_189 b77_2 (Int32.ofNat 1024) (own_upd (own_upd (fun _ => (0 : Int32)) 0 rr0) 1 rr1)) (q6_189 : own_IA .int Z hh_189 b77_3 (Int32.ofNat 1024) (own_upd (own_upd (fun _ => (0 : Int32)) 0 (Int32.ofNat l0)) 1 (Int32.ofNat l1))) (q7_189 : Fld Z hh_189 b64 "com/example/erotema/erotema/model/ToldEdges" "bySourceStart" "[I" (.ref bs178)) (q8_189 : Fld Z hh_189 b64 "com/example/erotema/erotema/model/ToldEdges" "byTargetStart" "[I" (.ref bt178)) (q9_189 : own_IA .int Z hh_189 bs178 (Int32.ofNat (nw + 1)) (own_DI (own_lk k0 k1 k2 k3) (own_W (own_upd (own_upd (fun _ => (0 : Int32)) 0 rr0) 1 rr1) (own_upd (own_upd (fun _ => (0 : Int32)) 0 (Int32.ofNat l0)) 1 (Int32.ofNat l1))) 2)) (q10_189 : own_IA .int Z hh_189 bt178 (Int32.ofNat (nw + 1)) (fun v => Int32.ofNat (FF178 v))) (hcv2 : cv2 = own_ey gs gp gt (Int32.ofNat qw) 2), Wp p e below (Out s (Q0 Z p0 p1 p2 p3 p4 p5 h0 n0) room_1.cells room_1.slots) (T_189.setTop (mkF m 374 #[.val (.int p0), .val (.int p1), .val (.int p2), .val (.int p3), .val (.int p4), .val (.int p5), .val (.int (Int32.ofNat nw)), .val (.int (2 : Int32)), .val (.ref b1), .val (.ref b3), .val (.ref b6), .val (.int (Int32.ofNat qw)), .val (.ref b64), .val (.int cv2)] [])) := by
                  intro cv2 hh_189 locs_189 T_189 X_189 eT_189 NN_189 KK_189 q0_189 q1_189 q2_189 q3_189 q4_189 q5_189 q6_189 q7_189 q8_189 q9_189 q10_189 hcv2
                  let LL190 : Array Slot := #[.val (.int p0), .val (.int p1), .val (.int p2), .val (.int p3), .val (.int p4), .val (.int p5), .val (.int (Int32.ofNat nw)), .val (.int (2 : Int32)), .val (.ref b1), .val (.ref b3), .val (.ref b6), .val (.int (Int32.ofNat qw)), .val (.ref b64), .val (.int cv2)]
                  show Wp p e below _ (T_189.setTop (mkF m 374 LL190 []))
                  have kont191 : ∀ (cv3 : Int32) (hh_191 : Heap) (locs_191 : List Loc) (T_191 : State) (X_191 : Stand p l e room_1 s m #[(.int p0), (.int p1), (.int p2), (.int p3), (.int p4), (.int p5)] below meth c T_191 locs_191 17 3142) (eT_191 : T_191.heap = hh_191) (NN_191 : Fr n0 locs_191) (KK_191 : Keep h0 hh_191 []) (q0_191 : own_IA .int Z hh_191 b1 (4 : Int32) gs) (q1_191 : own_IA .int Z hh_191 b6 (4 : Int32) gt) (q2_191 : own_IA .int Z hh_191 b3 (4 : Int32) gp) (q3_191 : Exa Z hh_191 b64 "com/example/erotema/erotema/model/ToldEdges") (q4_191 : own_IA .int Z hh_191 b77_1 (Int32.ofNat 1024) (own_upd (own_upd (fun _ => (0 : Int32)) 0 (Int32.ofNat k0)) 1 (Int32.ofNat k1))) (q5_191 : own_IA .int Z hh_191 b77_2 (Int32.ofNat 1024) (own_upd (own_upd (fun _ => (0 : Int32)) 0 rr0) 1 rr1)) (q6_191 : own_IA .int Z hh_191 b77_3 (Int32.ofNat 1024) (own_upd (own_upd (fun _ => (0 : Int32)) 0 (Int32.ofNat l0)) 1 (Int32.ofNat l1))) (q7_191 : Fld Z hh_191 b64 "com/example/erotema/erotema/model/ToldEdges" "bySourceStart" "[I" (.ref bs178)) (q8_191 : Fld Z hh_191 b64 "com/example/erotema/erotema/model/ToldEdges" "byTargetStart" "[I" (.ref bt178)) (q9_191 : own_IA .int Z hh_191 bs178 (Int32.ofNat (nw + 1)) (own_DI (own_lk k0 k1 k2 k3) (own_W (own_upd (own_upd (fun _ => (0 : Int32)) 0 rr0) 1 rr1) (own_upd (own_upd (fun _ => (0 : Int32)) 0 (Int32.ofNat l0)) 1 (Int32.ofNat l1))) 2)) (q10_191 : own_IA .int Z hh_191 bt178 (Int32.ofNat (nw + 1)) (fun v => Int32.ofNat (FF178 v))) (hcv3 : cv3 = own_ey gs gp gt (Int32.ofNat qw) 2), Wp p e below (Out s (Q0 Z p0 p1 p2 p3 p4 p5 h0 n0) room_1.cells room_1.slots) (T_191.setTop (mkF m 420 #[.val (.int p0), .val (.int p1), .val (.int p2), .val (.int p3), .val (.int p4), .val (.int p5), .val (.int (Int32.ofNat nw)), .val (.int (2 : Int32)), .val (.ref b1), .val (.ref b3), .val (.ref b6), .val (.int (Int32.ofNat qw)), .val (.ref b64), .val (.int cv3)] [])) := by
                    intro cv3 hh_191 locs_191 T_191 X_191 eT_191 NN_191 KK_191 q0_191 q1_191 q2_191 q3_191 q4_191 q5_191 q6_191 q7_191 q8_191 q9_191 q10_191 hcv3
                    let LL192 : Array Slot := #[.val (.int p0), .val (.int p1), .val (.int p2), .val (.int p3), .val (.int p4), .val (.int p5), .val (.int (Int32.ofNat nw)), .val (.int (2 : Int32)), .val (.ref b1), .val (.ref b3), .val (.ref b6), .val (.int (Int32.ofNat qw)), .val (.ref b64), .val (.int cv3)]
                    show Wp p e below _ (T_191.setTop (mkF m 420 LL192 []))
                    have kont193 : ∀ (cv4 : Int32) (hh_193 : Heap) (locs_193 : List Loc) (T_193 : State) (X_193 : Stand p l e room_1 s m #[(.int p0), (.int p1), (.int p2), (.int p3), (.int p4), (.int p5)] below meth c T_193 locs_193 17 3142) (eT_193 : T_193.heap = hh_193) (NN_193 : Fr n0 locs_193) (KK_193 : Keep h0 hh_193 []) (q0_193 : own_IA .int Z hh_193 b1 (4 : Int32) gs) (q1_193 : own_IA .int Z hh_193 b6 (4 : Int32) gt) (q2_193 : own_IA .int Z hh_193 b3 (4 : Int32) gp) (q3_193 : Exa Z hh_193 b64 "com/example/erotema/erotema/model/ToldEdges") (q4_193 : own_IA .int Z hh_193 b77_1 (Int32.ofNat 1024) (own_upd (own_upd (fun _ => (0 : Int32)) 0 (Int32.ofNat k0)) 1 (Int32.ofNat k1))) (q5_193 : own_IA .int Z hh_193 b77_2 (Int32.ofNat 1024) (own_upd (own_upd (fun _ => (0 : Int32)) 0 rr0) 1 rr1)) (q6_193 : own_IA .int Z hh_193 b77_3 (Int32.ofNat 1024) (own_upd (own_upd (fun _ => (0 : Int32)) 0 (Int32.ofNat l0)) 1 (Int32.ofNat l1))) (q7_193 : Fld Z hh_193 b64 "com/example/erotema/erotema/model/ToldEdges" "bySourceStart" "[I" (.ref bs178)) (q8_193 : Fld Z hh_193 b64 "com/example/erotema/erotema/model/ToldEdges" "byTargetStart" "[I" (.ref bt178)) (q9_193 : own_IA .int Z hh_193 bs178 (Int32.ofNat (nw + 1)) (own_DI (own_lk k0 k1 k2 k3) (own_W (own_upd (own_upd (fun _ => (0 : Int32)) 0 rr0) 1 rr1) (own_upd (own_upd (fun _ => (0 : Int32)) 0 (Int32.ofNat l0)) 1 (Int32.ofNat l1))) 2)) (q10_193 : own_IA .int Z hh_193 bt178 (Int32.ofNat (nw + 1)) (fun v => Int32.ofNat (FF178 v))) (hcv4 : cv4 = own_ey gs gp gt (Int32.ofNat qw) 2), Wp p e below (Out s (Q0 Z p0 p1 p2 p3 p4 p5 h0 n0) room_1.cells room_1.slots) (T_193.setTop (mkF m 480 #[.val (.int p0), .val (.int p1), .val (.int p2), .val (.int p3), .val (.int p4), .val (.int p5), .val (.int (Int32.ofNat nw)), .val (.int (2 : Int32)), .val (.ref b1), .val (.ref b3), .val (.ref b6), .val (.int (Int32.ofNat qw)), .val (.ref b64), .val (.int cv4)] [])) := by
                      intro cv4 hh_193 locs_193 T_193 X_193 eT_193 NN_193 KK_193 q0_193 q1_193 q2_193 q3_193 q4_193 q5_193 q6_193 q7_193 q8_193 q9_193 q10_193 hcv4
                      let LL194 : Array Slot := #[.val (.int p0), .val (.int p1), .val (.int p2), .val (.int p3), .val (.int p4), .val (.int p5), .val (.int (Int32.ofNat nw)), .val (.int (2 : Int32)), .val (.ref b1), .val (.ref b3), .val (.ref b6), .val (.int (Int32.ofNat qw)), .val (.ref b64), .val (.int cv4)]
                      show Wp p e below _ (T_193.setTop (mkF m 480 LL194 []))
                      refine Wp.step (fun t k => XS.aload X_193.here hx rfl (hb hby at_480) rfl rfl k) ?_
                      show Wp p e below _ (T_193.setTop (mkF m 482 LL194 [(.ref b64)]))
                      refine Wp.step (fun t k => XS.iload X_193.here hx rfl (hb hby at_482) rfl k) ?_
                      show Wp p e below _ (T_193.setTop (mkF m 484 LL194 [(.int (Int32.ofNat qw)), (.ref b64)]))
                      have hS : ∀ i, i < 2 → gs i = Int32.ofNat ((own_lk k0 k1 k2 k3) i) ∧ gp i = (own_upd (own_upd (fun _ => (0 : Int32)) 0 rr0) 1 rr1) i ∧ gt i = (own_upd (own_upd (fun _ => (0 : Int32)) 0 (Int32.ofNat l0)) 1 (Int32.ofNat l1)) i := fun i hi => by
                        match i, hi with
                        | 0, _ => exact ⟨by rw [hgs] <;> rfl, by rw [hgp] <;> rfl, by rw [hgt] <;> rfl⟩
                        | 1, _ => exact ⟨by rw [hgs] <;> rfl, by rw [hgp] <;> rfl, by rw [hgt] <;> rfl⟩
                        | i + 2, hi => exact absurd hi (by omega)
                      obtain ⟨cq195, kq195, q195a, q195b, q195c⟩ := isOf hZ eT_193 q3_193
                      obtain ⟨_, _, ⟨T195, L195, k195, n195⟩, -, X195, ⟨Lc195, hQ195, l195, y195, z195⟩, st195⟩ := X_193.virtualBack hx (y := (⟨"com/example/erotema/erotema/model/ToldEdges", "countTo", "(I)I"⟩ : MethodName)) (z := (⟨"com/example/erotema/erotema/model/ToldEdges", "countTo", "(I)I"⟩ : MethodName)) hown (mvT hZ (hw _ (List.mem_of_getElem? (i := 75) rfl))) (mvT hZ (hw _ (List.mem_of_getElem? (i := 76) rfl))) (notFace_of_selects (args := #[]) (mvT hZ (hw _ (List.mem_of_getElem? (i := 78) rfl)))) (mvT hZ (hw _ (List.mem_of_getElem? (i := 78) rfl))) (mvT hZ (hw _ (List.mem_of_getElem? (i := 77) rfl))) (by decide) (backOf (W := 0) (rm13 l Z a0 hw [] b64 (Int32.ofNat qw) bt178 2 nw (own_lk k0 k1 k2 k3) (own_lk l0 l1 l2 l3) (own_upd (own_upd (fun _ => (0 : Int32)) 0 rr0) 1 rr1) (own_upd (own_upd (fun _ => (0 : Int32)) 0 (Int32.ofNat l0)) 1 (Int32.ofNat l1)) FF178 qw hh_193 n0 (Nat.le_trans Z0 KK_193.1) rfl q8_193 q10_193 (by omega) (by omega) hTT f4178 fq178) hZ (hw _ (List.mem_of_getElem? (i := 79) rfl)) (hw _ (List.mem_of_getElem? (i := 3) rfl)) (by decide) (by decide)) q195a q195c (g := (mkF m 484 LL194 [(.int (Int32.ofNat qw)), (.ref b64)])) rfl (by rw [hml]; rfl) (Steps.refl _) (argsL := [(.int (Int32.ofNat qw))]) (rest := []) (lenOf pd_28I29I rfl) rfl (by show 2 * 0 + _ ≤ _; exact Nat.le_of_eq rfl) (hb hby at_484) (fun _ _ => ⟨rfl, eT_193, (by decide : 17 + 0 ≤ _), (by decide : 3142 + 0 ≤ _)⟩)
                      dsimp only [Pt.U, Pt.locs, Pt.cells, Pt.slots] at X195 l195 y195 z195 st195 hQ195
                      subst l195 y195 z195
                      obtain ⟨rfl, N195q, e195⟩ := hQ195
                      have N195 := Fr.app NN_193 N195q
                      refine Wp.go st195 ?_
                      show Wp p e below _ (T195.setTop (mkF m 487 LL194 [(.int (Int32.ofNat (own_D (fun z => own_el z == Int32.ofNat qw) (own_lk k0 k1 k2 k3) (own_W (own_upd (own_upd (fun _ => (0 : Int32)) 0 rr0) 1 rr1) (own_upd (own_upd (fun _ => (0 : Int32)) 0 (Int32.ofNat l0)) 1 (Int32.ofNat l1))) 2 nw)))]))
                      refine Wp.step (fun t k => XS.iload X195.here hx rfl (hb hby at_487) rfl k) ?_
                      show Wp p e below _ (T195.setTop (mkF m 489 LL194 [(.int cv4), (.int (Int32.ofNat (own_D (fun z => own_el z == Int32.ofNat qw) (own_lk k0 k1 k2 k3) (own_W (own_upd (own_upd (fun _ => (0 : Int32)) 0 rr0) 1 rr1) (own_upd (own_upd (fun _ => (0 : Int32)) 0 (Int32.ofNat l0)) 1 (Int32.ofNat l1))) 2 nw)))]))
                      refine Wp.step (fun t k => XS.icmpNo X195.here hx rfl (hb hby at_489) rfl (teq (show (Int32.ofNat (own_D (fun z => own_el z == Int32.ofNat qw) (own_lk k0 k1 k2 k3) (own_W (own_upd (own_upd (fun _ => (0 : Int32)) 0 rr0) 1 rr1) (own_upd (own_upd (fun _ => (0 : Int32)) 0 (Int32.ofNat l0)) 1 (Int32.ofNat l1))) 2 nw)) = cv4 from (own_y (K := (own_lk k0 k1 k2 k3)) (Tg := (own_lk l0 l1 l2 l3)) (g2 := (own_upd (own_upd (fun _ => (0 : Int32)) 0 rr0) 1 rr1)) (g3 := (own_upd (own_upd (fun _ => (0 : Int32)) 0 (Int32.ofNat l0)) 1 (Int32.ofNat l1))) (S := gs) (R := gp) (T := gt) hn4 hqw (fun i hi => (hKK i hi).2) hTT hS).trans hcv4.symm)).2 k) ?_
                      show Wp p e below _ (T195.setTop (mkF m 492 LL194 []))
                      refine Wp.step (fun t k => XS.iconst X195.here hx rfl (hb hby at_492) k) ?_
                      show Wp p e below _ (T195.setTop (mkF m 493 LL194 [(.int (1 : Int32))]))
                      refine Wp.step (fun t k => XS.goto X195.here hx rfl (pc0 := 493) (pc' := 497) rfl (hb hby at_493) (by decide) (by decide) k) ?_
                      show Wp p e below _ (T195.setTop (mkF m 497 LL194 [(.int (1 : Int32))]))
                      refine Wp.retN X195 hx (t := .boolean) Bd.returns (by simp) (hb hby at_497) hlk ?_ (by decide) (by decide)
                      show Q0 Z p0 p1 p2 p3 p4 p5 h0 n0 (some (.int (nar .boolean (1 : Int32)))) T195.heap _
                      rw [e195]
                      exact ⟨rfl, N195⟩
                    refine Wp.step (fun t k => XS.iload X_191.here hx rfl (hb hby at_420) rfl k) ?_
                    show Wp p e below _ (T_191.setTop (mkF m 422 LL192 [(.int (2 : Int32))]))
                    refine Wp.step (fun t k => XS.iconst X_191.here hx rfl (hb hby at_422) k) ?_
                    show Wp p e below _ (T_191.setTop (mkF m 423 LL192 [(.int (3 : Int32)), (.int (2 : Int32))]))
                    refine Wp.step (fun t k => XS.icmpYes X_191.here hx rfl (pc0 := 423) (pc' := 480) rfl (hb hby at_423) rfl (flt (show ¬ ((3 : Int32) < (2 : Int32)) by decide)).2.2.2 (by decide) (by decide) k) ?_
                    show Wp p e below _ (T_191.setTop (mkF m 480 LL192 []))
                    exact kont193 _ _ _ T_191 X_191 eT_191 NN_191 KK_191 q0_191 q1_191 q2_191 q3_191 q4_191 q5_191 q6_191 q7_191 q8_191 q9_191 q10_191 hcv3
                  refine Wp.step (fun t k => XS.iload X_189.here hx rfl (hb hby at_374) rfl k) ?_
                  show Wp p e below _ (T_189.setTop (mkF m 376 LL190 [(.int (2 : Int32))]))
                  refine Wp.step (fun t k => XS.iconst X_189.here hx rfl (hb hby at_376) k) ?_
                  show Wp p e below _ (T_189.setTop (mkF m 377 LL190 [(.int (2 : Int32)), (.int (2 : Int32))]))
                  refine Wp.step (fun t k => XS.icmpYes X_189.here hx rfl (pc0 := 377) (pc' := 420) rfl (hb hby at_377) rfl (flt (show ¬ ((2 : Int32) < (2 : Int32)) by decide)).2.2.2 (by decide) (by decide) k) ?_
                  show Wp p e below _ (T_189.setTop (mkF m 420 LL190 []))
                  exact kont191 _ _ _ T_189 X_189 eT_189 NN_189 KK_189 q0_189 q1_189 q2_189 q3_189 q4_189 q5_189 q6_189 q7_189 q8_189 q9_189 q10_189 hcv2
                refine Wp.step (fun t k => XS.iload X_187.here hx rfl (hb hby at_342) rfl k) ?_
                show Wp p e below _ (T_187.setTop (mkF m 344 LL188 [(.int (2 : Int32))]))
                refine Wp.step (fun t k => XS.iconst X_187.here hx rfl (hb hby at_344) k) ?_
                show Wp p e below _ (T_187.setTop (mkF m 345 LL188 [(.int (1 : Int32)), (.int (2 : Int32))]))
                refine Wp.step (fun t k => XS.icmpNo X_187.here hx rfl (hb hby at_345) rfl (tlt (show (1 : Int32) < (2 : Int32) by decide)).2.2.2 k) ?_
                show Wp p e below _ (T_187.setTop (mkF m 348 LL188 []))
                refine Wp.step (fun t k => XS.aload X_187.here hx rfl (hb hby at_348) rfl rfl k) ?_
                show Wp p e below _ (T_187.setTop (mkF m 350 LL188 [(.ref b6)]))
                refine Wp.step (fun t k => XS.iconst X_187.here hx rfl (hb hby at_350) k) ?_
                show Wp p e below _ (T_187.setTop (mkF m 351 LL188 [(.int (1 : Int32)), (.ref b6)]))
                obtain ⟨cl200, Ar200, Sz200, Nn200, El200⟩ := id q1_187
                have hin200 : ¬ ((1 : Int32) < 0 ∨ cl200.slots.size ≤ ((1 : Int32)).toNatClampNeg) := inb_of Sz200 ⟨by decide, by decide⟩
                have hat200 : cl200.slots[((1 : Int32)).toNatClampNeg]? = some (.int (gt ((1 : Int32)).toNatClampNeg)) := (El200 _ (by have q := Nat.lt_of_not_le fun q => hin200 (Or.inr q); rw [Sz200] at q; exact q)).1
                rw [show (gt ((1 : Int32)).toNatClampNeg) = (gt 1) from rfl] at hat200
                refine Wp.step (X_187.iaload hx (j := (1 : Int32)) (v := (.int (gt 1))) (by rw [eT_187]; exact Ar200.1) (State.isArrayOf_alike hZ.alike Ar200.2.1) Ar200.2.2 hin200 hat200 (g := (mkF m 351 LL188 [(.int (1 : Int32)), (.ref b6)])) rfl rfl (hb hby at_351)) ?_
                show Wp p e below _ (T_187.setTop (mkF m 352 LL188 [(.int (gt 1))]))
                refine Wp.step (fun t k => XS.iload X_187.here hx rfl (hb hby at_352) rfl k) ?_
                show Wp p e below _ (T_187.setTop (mkF m 354 LL188 [(.int (Int32.ofNat qw)), (.int (gt 1))]))
                by_cases hc201 : (gt 1) = (Int32.ofNat qw)
                · refine Wp.step (fun t k => XS.icmpNo X_187.here hx rfl (hb hby at_354) rfl (teq hc201).2 k) ?_
                  show Wp p e below _ (T_187.setTop (mkF m 357 LL188 []))
                  refine Wp.step (fun t k => XS.aload X_187.here hx rfl (hb hby at_357) rfl rfl k) ?_
                  show Wp p e below _ (T_187.setTop (mkF m 359 LL188 [(.ref b1)]))
                  refine Wp.step (fun t k => XS.aload X_187.here hx rfl (hb hby at_359) rfl rfl k) ?_
                  show Wp p e below _ (T_187.setTop (mkF m 361 LL188 [(.ref b3), (.ref b1)]))
                  refine Wp.step (fun t k => XS.aload X_187.here hx rfl (hb hby at_361) rfl rfl k) ?_
                  show Wp p e below _ (T_187.setTop (mkF m 363 LL188 [(.ref b6), (.ref b3), (.ref b1)]))
                  refine Wp.step (fun t k => XS.iconst X_187.here hx rfl (hb hby at_363) k) ?_
                  show Wp p e below _ (T_187.setTop (mkF m 364 LL188 [(.int (1 : Int32)), (.ref b6), (.ref b3), (.ref b1)]))
                  refine Wp.step (fun t k => XS.iconst X_187.here hx rfl (hb hby at_364) k) ?_
                  show Wp p e below _ (T_187.setTop (mkF m 365 LL188 [(.int (0 : Int32)), (.int (1 : Int32)), (.ref b6), (.ref b3), (.ref b1)]))
                  obtain ⟨_, _, ⟨T202, L202, k202, n202⟩, -, X202, ⟨Lc202, hQ202, l202, y202, z202⟩, st202⟩ := Jvm.LawKit.callS X_187 hx (y := (⟨"com/example/erotema/erotema/model/ToldEdgesCountToPinLaw", "same", "([I[I[III)Z"⟩ : MethodName)) hown (mvT hZ (hw _ (List.mem_of_getElem? (i := 93) rfl))) (mvT hZ (hw _ (List.mem_of_getElem? (i := 94) rfl))) (mvT hZ (hw _ (List.mem_of_getElem? (i := 95) rfl))) (mvT hZ (hw _ (List.mem_of_getElem? (i := 96) rfl))) (by decide) (backOf (W := 0) (rm17 l Z a0 hw [] b1 b3 b6 (1 : Int32) (0 : Int32) gs gp gt 1 0 hh_187 n0 (Nat.le_trans Z0 KK_187.1) rfl rfl q0_187 q2_187 q1_187 (by decide) (by decide)) hZ (hw _ (List.mem_of_getElem? (i := 96) rfl)) (hw _ (List.mem_of_getElem? (i := 95) rfl)) (by decide) (by decide)) (g := (mkF m 365 LL188 [(.int (0 : Int32)), (.int (1 : Int32)), (.ref b6), (.ref b3), (.ref b1)])) rfl (by rw [hml]; rfl) (argsL := [(.ref b1), (.ref b3), (.ref b6), (.int (1 : Int32)), (.int (0 : Int32))]) (rest := []) (lenOf pd_285bI5bI5bIII29Z rfl) rfl (by show 2 * 0 + _ ≤ _; exact Nat.le_of_eq rfl) (hb hby at_365) (fun _ _ => ⟨rfl, eT_187, (by decide : 17 + 0 ≤ _), (by decide : 3142 + 0 ≤ _)⟩)
                  dsimp only [Pt.U, Pt.locs, Pt.cells, Pt.slots] at X202 l202 y202 z202 st202 hQ202
                  subst l202 y202 z202
                  obtain ⟨rfl, N202q, e202⟩ := hQ202
                  have N202 := Fr.app NN_187 N202q
                  refine Wp.step st202 ?_
                  show Wp p e below _ (T202.setTop (mkF m 368 LL188 [(.int (own_b (own_same gs gp gt 1 0)))]))
                  by_cases hc203 : (own_b (own_same gs gp gt 1 0)) = (0 : Int32)
                  · refine Wp.step (fun t k => XS.ifNo X202.here hx rfl (hb hby at_368) rfl ((if0 _ _).trans (teq hc203).2) k) ?_
                    show Wp p e below _ (T202.setTop (mkF m 371 LL188 []))
                    refine Wp.step (fun t k => XS.iinc X202.here hx rfl (hb hby at_371) rfl (l' := #[.val (.int p0), .val (.int p1), .val (.int p2), .val (.int p3), .val (.int p4), .val (.int p5), .val (.int (Int32.ofNat nw)), .val (.int (2 : Int32)), .val (.ref b1), .val (.ref b3), .val (.ref b6), .val (.int (Int32.ofNat qw)), .val (.ref b64), .val (.int (cv1 + (1 : Int32)))]) rfl k) ?_
                    show Wp p e below _ (T202.setTop (mkF m 374 #[.val (.int p0), .val (.int p1), .val (.int p2), .val (.int p3), .val (.int p4), .val (.int p5), .val (.int (Int32.ofNat nw)), .val (.int (2 : Int32)), .val (.ref b1), .val (.ref b3), .val (.ref b6), .val (.int (Int32.ofNat qw)), .val (.ref b64), .val (.int (cv1 + (1 : Int32)))] []))
                    exact kont189 _ _ _ T202 X202 e202 N202 KK_187 q0_187 q1_187 q2_187 q3_187 q4_187 q5_187 q6_187 q7_187 q8_187 q9_187 q10_187 (Eq.trans (congrArg (· + 1) hcv1) (own_ey_pos (S := gs) (R := gp) (T := gt) (q := (Int32.ofNat qw)) (c := 1) ⟨hc201, (own_aS own_a0 (own_b0.mp hc203))⟩).symm)
                  · refine Wp.step (fun t k => XS.ifYes X202.here hx rfl (pc0 := 368) (pc' := 374) rfl (hb hby at_368) rfl ((if0 _ _).trans (feq hc203).2) (by decide) (by decide) k) ?_
                    show Wp p e below _ (T202.setTop (mkF m 374 LL188 []))
                    exact kont189 _ _ _ T202 X202 e202 N202 KK_187 q0_187 q1_187 q2_187 q3_187 q4_187 q5_187 q6_187 q7_187 q8_187 q9_187 q10_187 (Eq.trans hcv1 (own_ey_neg (S := gs) (R := gp) (T := gt) (q := (Int32.ofNat qw)) (c := 1) (fun q => q.2 0 (by decide) (Classical.byContradiction fun z => hc203 (own_b0.mpr z)))).symm)
                · refine Wp.step (fun t k => XS.icmpYes X_187.here hx rfl (pc0 := 354) (pc' := 374) rfl (hb hby at_354) rfl (feq hc201).2 (by decide) (by decide) k) ?_
                  show Wp p e below _ (T_187.setTop (mkF m 374 LL188 []))
                  exact kont189 _ _ _ T_187 X_187 eT_187 NN_187 KK_187 q0_187 q1_187 q2_187 q3_187 q4_187 q5_187 q6_187 q7_187 q8_187 q9_187 q10_187 (Eq.trans hcv1 (own_ey_neg (S := gs) (R := gp) (T := gt) (q := (Int32.ofNat qw)) (c := 1) (fun q => hc201 q.1)).symm)
              refine Wp.step (fun t k => XS.iload X178.here hx rfl (hb hby at_325) rfl k) ?_
              show Wp p e below _ (T178.setTop (mkF m 327 LL186 [(.int (2 : Int32))]))
              refine Wp.step (fun t k => XS.ifNo X178.here hx rfl (hb hby at_327) rfl ((if0 _ _).trans (tlt (show (0 : Int32) < (2 : Int32) by decide)).2.2.2) k) ?_
              show Wp p e below _ (T178.setTop (mkF m 330 LL186 []))
              refine Wp.step (fun t k => XS.aload X178.here hx rfl (hb hby at_330) rfl rfl k) ?_
              show Wp p e below _ (T178.setTop (mkF m 332 LL186 [(.ref b6)]))
              refine Wp.step (fun t k => XS.iconst X178.here hx rfl (hb hby at_332) k) ?_
              show Wp p e below _ (T178.setTop (mkF m 333 LL186 [(.int (0 : Int32)), (.ref b6)]))
              obtain ⟨cl205, Ar205, Sz205, Nn205, El205⟩ := id B180
              have hin205 : ¬ ((0 : Int32) < 0 ∨ cl205.slots.size ≤ ((0 : Int32)).toNatClampNeg) := inb_of Sz205 ⟨by decide, by decide⟩
              have hat205 : cl205.slots[((0 : Int32)).toNatClampNeg]? = some (.int (gt ((0 : Int32)).toNatClampNeg)) := (El205 _ (by have q := Nat.lt_of_not_le fun q => hin205 (Or.inr q); rw [Sz205] at q; exact q)).1
              rw [show (gt ((0 : Int32)).toNatClampNeg) = (gt 0) from rfl] at hat205
              refine Wp.step (X178.iaload hx (j := (0 : Int32)) (v := (.int (gt 0))) (by rw [e178]; exact Ar205.1) (State.isArrayOf_alike hZ.alike Ar205.2.1) Ar205.2.2 hin205 hat205 (g := (mkF m 333 LL186 [(.int (0 : Int32)), (.ref b6)])) rfl rfl (hb hby at_333)) ?_
              show Wp p e below _ (T178.setTop (mkF m 334 LL186 [(.int (gt 0))]))
              refine Wp.step (fun t k => XS.iload X178.here hx rfl (hb hby at_334) rfl k) ?_
              show Wp p e below _ (T178.setTop (mkF m 336 LL186 [(.int (Int32.ofNat qw)), (.int (gt 0))]))
              by_cases hc206 : (gt 0) = (Int32.ofNat qw)
              · refine Wp.step (fun t k => XS.icmpNo X178.here hx rfl (hb hby at_336) rfl (teq hc206).2 k) ?_
                show Wp p e below _ (T178.setTop (mkF m 339 LL186 []))
                refine Wp.step (fun t k => XS.iinc X178.here hx rfl (hb hby at_339) rfl (l' := #[.val (.int p0), .val (.int p1), .val (.int p2), .val (.int p3), .val (.int p4), .val (.int p5), .val (.int (Int32.ofNat nw)), .val (.int (2 : Int32)), .val (.ref b1), .val (.ref b3), .val (.ref b6), .val (.int (Int32.ofNat qw)), .val (.ref b64), .val (.int ((0 : Int32) + (1 : Int32)))]) rfl k) ?_
                show Wp p e below _ (T178.setTop (mkF m 342 #[.val (.int p0), .val (.int p1), .val (.int p2), .val (.int p3), .val (.int p4), .val (.int p5), .val (.int (Int32.ofNat nw)), .val (.int (2 : Int32)), .val (.ref b1), .val (.ref b3), .val (.ref b6), .val (.int (Int32.ofNat qw)), .val (.ref b64), .val (.int ((0 : Int32) + (1 : Int32)))] []))
                exact kont187 _ _ _ T178 X178 e178 N178 K178 B179 B180 B181 cE178 B183 B184 B185 cs178 ct178 Bs178 Bt178 (Eq.trans (congrArg (· + 1) (show (0 : Int32) = own_ey gs gp gt (Int32.ofNat qw) 0 from rfl)) (own_ey_pos (S := gs) (R := gp) (T := gt) (q := (Int32.ofNat qw)) (c := 0) ⟨hc206, own_a0⟩).symm)
              · refine Wp.step (fun t k => XS.icmpYes X178.here hx rfl (pc0 := 336) (pc' := 342) rfl (hb hby at_336) rfl (feq hc206).2 (by decide) (by decide) k) ?_
                show Wp p e below _ (T178.setTop (mkF m 342 LL186 []))
                exact kont187 _ _ _ T178 X178 e178 N178 K178 B179 B180 B181 cE178 B183 B184 B185 cs178 ct178 Bs178 Bt178 (Eq.trans rfl (own_ey_neg (S := gs) (R := gp) (T := gt) (q := (Int32.ofNat qw)) (c := 0) (fun q => hc206 q.1)).symm)
            · show Wp p e below _ (T77.setTop (mkF m 224 #[.val (.int p0), .val (.int p1), .val (.int p2), .val (.int p3), .val (.int p4), .val (.int p5), .val (.int (Int32.ofNat nw)), .val (.int (3 : Int32)), .val (.ref b1), .val (.ref b3), .val (.ref b6), .val (.int (Int32.ofNat qw)), .val (.ref b64), .unset] []))
              let LL207 : Array Slot := #[.val (.int p0), .val (.int p1), .val (.int p2), .val (.int p3), .val (.int p4), .val (.int p5), .val (.int (Int32.ofNat nw)), .val (.int (3 : Int32)), .val (.ref b1), .val (.ref b3), .val (.ref b6), .val (.int (Int32.ofNat qw)), .val (.ref b64), .unset]
              show Wp p e below _ (T77.setTop (mkF m 224 LL207 []))
              refine Wp.step (fun t k => XS.iload X77.here hx rfl (hb hby at_224) rfl k) ?_
              show Wp p e below _ (T77.setTop (mkF m 226 LL207 [(.int (3 : Int32))]))
              refine Wp.step (fun t k => XS.ifNo X77.here hx rfl (hb hby at_226) rfl ((if0 _ _).trans (tlt (show (0 : Int32) < (3 : Int32) by decide)).2.2.2) k) ?_
              show Wp p e below _ (T77.setTop (mkF m 229 LL207 []))
              refine Wp.step (fun t k => XS.aload X77.here hx rfl (hb hby at_229) rfl rfl k) ?_
              show Wp p e below _ (T77.setTop (mkF m 231 LL207 [(.ref b64)]))
              refine Wp.step (fun t k => XS.aload X77.here hx rfl (hb hby at_231) rfl rfl k) ?_
              show Wp p e below _ (T77.setTop (mkF m 233 LL207 [(.ref b1), (.ref b64)]))
              refine Wp.step (fun t k => XS.iconst X77.here hx rfl (hb hby at_233) k) ?_
              show Wp p e below _ (T77.setTop (mkF m 234 LL207 [(.int (0 : Int32)), (.ref b1), (.ref b64)]))
              obtain ⟨cl209, Ar209, Sz209, Nn209, El209⟩ := id B78
              have hin209 : ¬ ((0 : Int32) < 0 ∨ cl209.slots.size ≤ ((0 : Int32)).toNatClampNeg) := inb_of Sz209 ⟨by decide, by decide⟩
              have hat209 : cl209.slots[((0 : Int32)).toNatClampNeg]? = some (.int (gs ((0 : Int32)).toNatClampNeg)) := (El209 _ (by have q := Nat.lt_of_not_le fun q => hin209 (Or.inr q); rw [Sz209] at q; exact q)).1
              rw [show (gs ((0 : Int32)).toNatClampNeg) = (gs 0) from rfl] at hat209
              rw [show (gs 0) = (Int32.ofNat k0) from (by rw [hgs]; rfl)] at hat209
              refine Wp.step (X77.iaload hx (j := (0 : Int32)) (v := (.int (Int32.ofNat k0))) (by rw [e77]; exact Ar209.1) (State.isArrayOf_alike hZ.alike Ar209.2.1) Ar209.2.2 hin209 hat209 (g := (mkF m 234 LL207 [(.int (0 : Int32)), (.ref b1), (.ref b64)])) rfl rfl (hb hby at_234)) ?_
              show Wp p e below _ (T77.setTop (mkF m 235 LL207 [(.int (Int32.ofNat k0)), (.ref b64)]))
              refine Wp.step (fun t k => XS.aload X77.here hx rfl (hb hby at_235) rfl rfl k) ?_
              show Wp p e below _ (T77.setTop (mkF m 237 LL207 [(.ref b3), (.int (Int32.ofNat k0)), (.ref b64)]))
              refine Wp.step (fun t k => XS.iconst X77.here hx rfl (hb hby at_237) k) ?_
              show Wp p e below _ (T77.setTop (mkF m 238 LL207 [(.int (0 : Int32)), (.ref b3), (.int (Int32.ofNat k0)), (.ref b64)]))
              obtain ⟨cl210, Ar210, Sz210, Nn210, El210⟩ := id B80
              have hin210 : ¬ ((0 : Int32) < 0 ∨ cl210.slots.size ≤ ((0 : Int32)).toNatClampNeg) := inb_of Sz210 ⟨by decide, by decide⟩
              have hat210 : cl210.slots[((0 : Int32)).toNatClampNeg]? = some (.int (gp ((0 : Int32)).toNatClampNeg)) := (El210 _ (by have q := Nat.lt_of_not_le fun q => hin210 (Or.inr q); rw [Sz210] at q; exact q)).1
              rw [show (gp ((0 : Int32)).toNatClampNeg) = (gp 0) from rfl] at hat210
              rw [show (gp 0) = rr0 from (by rw [hgp]; rfl)] at hat210
              refine Wp.step (X77.iaload hx (j := (0 : Int32)) (v := (.int rr0)) (by rw [e77]; exact Ar210.1) (State.isArrayOf_alike hZ.alike Ar210.2.1) Ar210.2.2 hin210 hat210 (g := (mkF m 238 LL207 [(.int (0 : Int32)), (.ref b3), (.int (Int32.ofNat k0)), (.ref b64)])) rfl rfl (hb hby at_238)) ?_
              show Wp p e below _ (T77.setTop (mkF m 239 LL207 [(.int rr0), (.int (Int32.ofNat k0)), (.ref b64)]))
              refine Wp.step (fun t k => XS.aload X77.here hx rfl (hb hby at_239) rfl rfl k) ?_
              show Wp p e below _ (T77.setTop (mkF m 241 LL207 [(.ref b6), (.int rr0), (.int (Int32.ofNat k0)), (.ref b64)]))
              refine Wp.step (fun t k => XS.iconst X77.here hx rfl (hb hby at_241) k) ?_
              show Wp p e below _ (T77.setTop (mkF m 242 LL207 [(.int (0 : Int32)), (.ref b6), (.int rr0), (.int (Int32.ofNat k0)), (.ref b64)]))
              obtain ⟨cl211, Ar211, Sz211, Nn211, El211⟩ := id B79
              have hin211 : ¬ ((0 : Int32) < 0 ∨ cl211.slots.size ≤ ((0 : Int32)).toNatClampNeg) := inb_of Sz211 ⟨by decide, by decide⟩
              have hat211 : cl211.slots[((0 : Int32)).toNatClampNeg]? = some (.int (gt ((0 : Int32)).toNatClampNeg)) := (El211 _ (by have q := Nat.lt_of_not_le fun q => hin211 (Or.inr q); rw [Sz211] at q; exact q)).1
              rw [show (gt ((0 : Int32)).toNatClampNeg) = (gt 0) from rfl] at hat211
              rw [show (gt 0) = (Int32.ofNat l0) from (by rw [hgt]; rfl)] at hat211
              refine Wp.step (X77.iaload hx (j := (0 : Int32)) (v := (.int (Int32.ofNat l0))) (by rw [e77]; exact Ar211.1) (State.isArrayOf_alike hZ.alike Ar211.2.1) Ar211.2.2 hin211 hat211 (g := (mkF m 242 LL207 [(.int (0 : Int32)), (.ref b6), (.int rr0), (.int (Int32.ofNat k0)), (.ref b64)])) rfl rfl (hb hby at_242)) ?_
              show Wp p e below _ (T77.setTop (mkF m 243 LL207 [(.int (Int32.ofNat l0)), (.int rr0), (.int (Int32.ofNat k0)), (.ref b64)]))
              obtain ⟨cq212, kq212, q212a, q212b, q212c⟩ := isOf hZ e77 cE77
              obtain ⟨_, _, ⟨T212, L212, k212, n212⟩, -, X212, ⟨Lc212, hQ212, l212, y212, z212⟩, st212⟩ := X77.virtualBack hx (y := (⟨"com/example/erotema/erotema/model/ToldEdges", "add", "(III)V"⟩ : MethodName)) (z := (⟨"com/example/erotema/erotema/model/ToldEdges", "add", "(III)V"⟩ : MethodName)) hown (mvT hZ (hw _ (List.mem_of_getElem? (i := 81) rfl))) (mvT hZ (hw _ (List.mem_of_getElem? (i := 82) rfl))) (notFace_of_selects (args := #[]) (mvT hZ (hw _ (List.mem_of_getElem? (i := 84) rfl)))) (mvT hZ (hw _ (List.mem_of_getElem? (i := 84) rfl))) (mvT hZ (hw _ (List.mem_of_getElem? (i := 83) rfl))) (by decide) (backOf (W := 0) (rm14 l Z a0 hw [] b64 (Int32.ofNat k0) rr0 (Int32.ofNat l0) b77_1 b77_2 b77_3 0 (fun _ => (0 : Int32)) (fun _ => (0 : Int32)) (fun _ => (0 : Int32)) h77 n0 (Nat.le_trans Z0 K77.1) g_b64 cE77 c77_sources c77_properties c77_targets c77_added c77_bySourceStart c77_bySource c77_byTargetStart c77_byTarget g_b77_1 g_b77_2 g_b77_3 (Ne.symm ne_b64_b77_1) (Ne.symm ne_b64_b77_2) (Ne.symm ne_b64_b77_3) nb12 nb13 nb23 Bb77_1 Bb77_2 Bb77_3 (by omega)) hZ (hw _ (List.mem_of_getElem? (i := 85) rfl)) (hw _ (List.mem_of_getElem? (i := 3) rfl)) (by decide) (by decide)) q212a q212c (g := (mkF m 243 LL207 [(.int (Int32.ofNat l0)), (.int rr0), (.int (Int32.ofNat k0)), (.ref b64)])) rfl (by rw [hml]; rfl) (Steps.refl _) (argsL := [(.int (Int32.ofNat k0)), (.int rr0), (.int (Int32.ofNat l0))]) (rest := []) (lenOf pd_28III29V rfl) rfl (by show 2 * 0 + _ ≤ _; exact Nat.le_of_eq rfl) (hb hby at_243) (fun _ _ => ⟨rfl, e77, (by decide : 7 + 0 ≤ _), (by decide : 3092 + 0 ≤ _)⟩)
              dsimp only [Pt.U, Pt.locs, Pt.cells, Pt.slots] at X212 l212 y212 z212 st212 hQ212
              subst l212 y212 z212
              obtain ⟨h212, e212⟩ : ∃ z, T212.heap = z := ⟨_, rfl⟩
              rw [e212] at hQ212
              obtain ⟨rfl, N212q, Kc212, cE212, c212_sources, c212_properties, c212_targets, c212_added, c212_bySourceStart, c212_bySource, c212_byTargetStart, c212_byTarget, Ba212, Bb212, Bc212⟩ := hQ212
              have N212 := Fr.app N77 N212q
              have B213 := B78.keep Kc212 (ninS ne_b1_b64 (ninS ne_b1_b77_1 (ninS ne_b1_b77_2 (ninS ne_b1_b77_3 nin0))))
              have B214 := B79.keep Kc212 (ninS ne_b6_b64 (ninS ne_b6_b77_1 (ninS ne_b6_b77_2 (ninS ne_b6_b77_3 nin0))))
              have B215 := B80.keep Kc212 (ninS ne_b3_b64 (ninS ne_b3_b77_1 (ninS ne_b3_b77_2 (ninS ne_b3_b77_3 nin0))))
              have c216 := cE77.keep Kc212
              have K212 := K77.trans Kc212 (allS (Or.inr sz_b64) (allS (Or.inr sz_b77_1) (allS (Or.inr sz_b77_2) (allS (Or.inr sz_b77_3) all0))))
              refine Wp.go st212 ?_
              show Wp p e below _ (T212.setTop (mkF m 246 LL207 []))
              refine Wp.step (fun t k => XS.iload X212.here hx rfl (hb hby at_246) rfl k) ?_
              show Wp p e below _ (T212.setTop (mkF m 248 LL207 [(.int (3 : Int32))]))
              refine Wp.step (fun t k => XS.iconst X212.here hx rfl (hb hby at_248) k) ?_
              show Wp p e below _ (T212.setTop (mkF m 249 LL207 [(.int (1 : Int32)), (.int (3 : Int32))]))
              refine Wp.step (fun t k => XS.icmpNo X212.here hx rfl (hb hby at_249) rfl (tlt (show (1 : Int32) < (3 : Int32) by decide)).2.2.2 k) ?_
              show Wp p e below _ (T212.setTop (mkF m 252 LL207 []))
              refine Wp.step (fun t k => XS.aload X212.here hx rfl (hb hby at_252) rfl rfl k) ?_
              show Wp p e below _ (T212.setTop (mkF m 254 LL207 [(.ref b64)]))
              refine Wp.step (fun t k => XS.aload X212.here hx rfl (hb hby at_254) rfl rfl k) ?_
              show Wp p e below _ (T212.setTop (mkF m 256 LL207 [(.ref b1), (.ref b64)]))
              refine Wp.step (fun t k => XS.iconst X212.here hx rfl (hb hby at_256) k) ?_
              show Wp p e below _ (T212.setTop (mkF m 257 LL207 [(.int (1 : Int32)), (.ref b1), (.ref b64)]))
              obtain ⟨cl221, Ar221, Sz221, Nn221, El221⟩ := id B213
              have hin221 : ¬ ((1 : Int32) < 0 ∨ cl221.slots.size ≤ ((1 : Int32)).toNatClampNeg) := inb_of Sz221 ⟨by decide, by decide⟩
              have hat221 : cl221.slots[((1 : Int32)).toNatClampNeg]? = some (.int (gs ((1 : Int32)).toNatClampNeg)) := (El221 _ (by have q := Nat.lt_of_not_le fun q => hin221 (Or.inr q); rw [Sz221] at q; exact q)).1
              rw [show (gs ((1 : Int32)).toNatClampNeg) = (gs 1) from rfl] at hat221
              rw [show (gs 1) = (Int32.ofNat k1) from (by rw [hgs]; rfl)] at hat221
              refine Wp.step (X212.iaload hx (j := (1 : Int32)) (v := (.int (Int32.ofNat k1))) (by rw [e212]; exact Ar221.1) (State.isArrayOf_alike hZ.alike Ar221.2.1) Ar221.2.2 hin221 hat221 (g := (mkF m 257 LL207 [(.int (1 : Int32)), (.ref b1), (.ref b64)])) rfl rfl (hb hby at_257)) ?_
              show Wp p e below _ (T212.setTop (mkF m 258 LL207 [(.int (Int32.ofNat k1)), (.ref b64)]))
              refine Wp.step (fun t k => XS.aload X212.here hx rfl (hb hby at_258) rfl rfl k) ?_
              show Wp p e below _ (T212.setTop (mkF m 260 LL207 [(.ref b3), (.int (Int32.ofNat k1)), (.ref b64)]))
              refine Wp.step (fun t k => XS.iconst X212.here hx rfl (hb hby at_260) k) ?_
              show Wp p e below _ (T212.setTop (mkF m 261 LL207 [(.int (1 : Int32)), (.ref b3), (.int (Int32.ofNat k1)), (.ref b64)]))
              obtain ⟨cl222, Ar222, Sz222, Nn222, El222⟩ := id B215
              have hin222 : ¬ ((1 : Int32) < 0 ∨ cl222.slots.size ≤ ((1 : Int32)).toNatClampNeg) := inb_of Sz222 ⟨by decide, by decide⟩
              have hat222 : cl222.slots[((1 : Int32)).toNatClampNeg]? = some (.int (gp ((1 : Int32)).toNatClampNeg)) := (El222 _ (by have q := Nat.lt_of_not_le fun q => hin222 (Or.inr q); rw [Sz222] at q; exact q)).1
              rw [show (gp ((1 : Int32)).toNatClampNeg) = (gp 1) from rfl] at hat222
              rw [show (gp 1) = rr1 from (by rw [hgp]; rfl)] at hat222
              refine Wp.step (X212.iaload hx (j := (1 : Int32)) (v := (.int rr1)) (by rw [e212]; exact Ar222.1) (State.isArrayOf_alike hZ.alike Ar222.2.1) Ar222.2.2 hin222 hat222 (g := (mkF m 261 LL207 [(.int (1 : Int32)), (.ref b3), (.int (Int32.ofNat k1)), (.ref b64)])) rfl rfl (hb hby at_261)) ?_
              show Wp p e below _ (T212.setTop (mkF m 262 LL207 [(.int rr1), (.int (Int32.ofNat k1)), (.ref b64)]))
              refine Wp.step (fun t k => XS.aload X212.here hx rfl (hb hby at_262) rfl rfl k) ?_
              show Wp p e below _ (T212.setTop (mkF m 264 LL207 [(.ref b6), (.int rr1), (.int (Int32.ofNat k1)), (.ref b64)]))
              refine Wp.step (fun t k => XS.iconst X212.here hx rfl (hb hby at_264) k) ?_
              show Wp p e below _ (T212.setTop (mkF m 265 LL207 [(.int (1 : Int32)), (.ref b6), (.int rr1), (.int (Int32.ofNat k1)), (.ref b64)]))
              obtain ⟨cl223, Ar223, Sz223, Nn223, El223⟩ := id B214
              have hin223 : ¬ ((1 : Int32) < 0 ∨ cl223.slots.size ≤ ((1 : Int32)).toNatClampNeg) := inb_of Sz223 ⟨by decide, by decide⟩
              have hat223 : cl223.slots[((1 : Int32)).toNatClampNeg]? = some (.int (gt ((1 : Int32)).toNatClampNeg)) := (El223 _ (by have q := Nat.lt_of_not_le fun q => hin223 (Or.inr q); rw [Sz223] at q; exact q)).1
              rw [show (gt ((1 : Int32)).toNatClampNeg) = (gt 1) from rfl] at hat223
              rw [show (gt 1) = (Int32.ofNat l1) from (by rw [hgt]; rfl)] at hat223
              refine Wp.step (X212.iaload hx (j := (1 : Int32)) (v := (.int (Int32.ofNat l1))) (by rw [e212]; exact Ar223.1) (State.isArrayOf_alike hZ.alike Ar223.2.1) Ar223.2.2 hin223 hat223 (g := (mkF m 265 LL207 [(.int (1 : Int32)), (.ref b6), (.int rr1), (.int (Int32.ofNat k1)), (.ref b64)])) rfl rfl (hb hby at_265)) ?_
              show Wp p e below _ (T212.setTop (mkF m 266 LL207 [(.int (Int32.ofNat l1)), (.int rr1), (.int (Int32.ofNat k1)), (.ref b64)]))
              obtain ⟨cq224, kq224, q224a, q224b, q224c⟩ := isOf hZ e212 cE212
              obtain ⟨_, _, ⟨T224, L224, k224, n224⟩, -, X224, ⟨Lc224, hQ224, l224, y224, z224⟩, st224⟩ := X212.virtualBack hx (y := (⟨"com/example/erotema/erotema/model/ToldEdges", "add", "(III)V"⟩ : MethodName)) (z := (⟨"com/example/erotema/erotema/model/ToldEdges", "add", "(III)V"⟩ : MethodName)) hown (mvT hZ (hw _ (List.mem_of_getElem? (i := 81) rfl))) (mvT hZ (hw _ (List.mem_of_getElem? (i := 82) rfl))) (notFace_of_selects (args := #[]) (mvT hZ (hw _ (List.mem_of_getElem? (i := 84) rfl)))) (mvT hZ (hw _ (List.mem_of_getElem? (i := 84) rfl))) (mvT hZ (hw _ (List.mem_of_getElem? (i := 83) rfl))) (by decide) (backOf (W := 0) (rm14 l Z a0 hw [] b64 (Int32.ofNat k1) rr1 (Int32.ofNat l1) b77_1 b77_2 b77_3 1 (own_upd (fun _ => (0 : Int32)) 0 (Int32.ofNat k0)) (own_upd (fun _ => (0 : Int32)) 0 rr0) (own_upd (fun _ => (0 : Int32)) 0 (Int32.ofNat l0)) h212 n0 (Nat.le_trans Z0 K212.1) g_b64 cE212 c212_sources c212_properties c212_targets c212_added c212_bySourceStart c212_bySource c212_byTargetStart c212_byTarget g_b77_1 g_b77_2 g_b77_3 (Ne.symm ne_b64_b77_1) (Ne.symm ne_b64_b77_2) (Ne.symm ne_b64_b77_3) nb12 nb13 nb23 Ba212 Bb212 Bc212 (by omega)) hZ (hw _ (List.mem_of_getElem? (i := 85) rfl)) (hw _ (List.mem_of_getElem? (i := 3) rfl)) (by decide) (by decide)) q224a q224c (g := (mkF m 266 LL207 [(.int (Int32.ofNat l1)), (.int rr1), (.int (Int32.ofNat k1)), (.ref b64)])) rfl (by rw [hml]; rfl) (Steps.refl _) (argsL := [(.int (Int32.ofNat k1)), (.int rr1), (.int (Int32.ofNat l1))]) (rest := []) (lenOf pd_28III29V rfl) rfl (by show 2 * 0 + _ ≤ _; exact Nat.le_of_eq rfl) (hb hby at_266) (fun _ _ => ⟨rfl, e212, (by decide : 7 + 0 ≤ _), (by decide : 3092 + 0 ≤ _)⟩)
              dsimp only [Pt.U, Pt.locs, Pt.cells, Pt.slots] at X224 l224 y224 z224 st224 hQ224
              subst l224 y224 z224
              obtain ⟨h224, e224⟩ : ∃ z, T224.heap = z := ⟨_, rfl⟩
              rw [e224] at hQ224
              obtain ⟨rfl, N224q, Kc224, cE224, c224_sources, c224_properties, c224_targets, c224_added, c224_bySourceStart, c224_bySource, c224_byTargetStart, c224_byTarget, Ba224, Bb224, Bc224⟩ := hQ224
              have N224 := Fr.app N212 N224q
              have B225 := B213.keep Kc224 (ninS ne_b1_b64 (ninS ne_b1_b77_1 (ninS ne_b1_b77_2 (ninS ne_b1_b77_3 nin0))))
              have B226 := B214.keep Kc224 (ninS ne_b6_b64 (ninS ne_b6_b77_1 (ninS ne_b6_b77_2 (ninS ne_b6_b77_3 nin0))))
              have B227 := B215.keep Kc224 (ninS ne_b3_b64 (ninS ne_b3_b77_1 (ninS ne_b3_b77_2 (ninS ne_b3_b77_3 nin0))))
              have c228 := cE212.keep Kc224
              have K224 := K212.trans Kc224 (allS (Or.inr sz_b64) (allS (Or.inr sz_b77_1) (allS (Or.inr sz_b77_2) (allS (Or.inr sz_b77_3) all0))))
              refine Wp.go st224 ?_
              show Wp p e below _ (T224.setTop (mkF m 269 LL207 []))
              refine Wp.step (fun t k => XS.iload X224.here hx rfl (hb hby at_269) rfl k) ?_
              show Wp p e below _ (T224.setTop (mkF m 271 LL207 [(.int (3 : Int32))]))
              refine Wp.step (fun t k => XS.iconst X224.here hx rfl (hb hby at_271) k) ?_
              show Wp p e below _ (T224.setTop (mkF m 272 LL207 [(.int (2 : Int32)), (.int (3 : Int32))]))
              refine Wp.step (fun t k => XS.icmpNo X224.here hx rfl (hb hby at_272) rfl (tlt (show (2 : Int32) < (3 : Int32) by decide)).2.2.2 k) ?_
              show Wp p e below _ (T224.setTop (mkF m 275 LL207 []))
              refine Wp.step (fun t k => XS.aload X224.here hx rfl (hb hby at_275) rfl rfl k) ?_
              show Wp p e below _ (T224.setTop (mkF m 277 LL207 [(.ref b64)]))
              refine Wp.step (fun t k => XS.aload X224.here hx rfl (hb hby at_277) rfl rfl k) ?_
              show Wp p e below _ (T224.setTop (mkF m 279 LL207 [(.ref b1), (.ref b64)]))
              refine Wp.step (fun t k => XS.iconst X224.here hx rfl (hb hby at_279) k) ?_
              show Wp p e below _ (T224.setTop (mkF m 280 LL207 [(.int (2 : Int32)), (.ref b1), (.ref b64)]))
              obtain ⟨cl233, Ar233, Sz233, Nn233, El233⟩ := id B225
              have hin233 : ¬ ((2 : Int32) < 0 ∨ cl233.slots.size ≤ ((2 : Int32)).toNatClampNeg) := inb_of Sz233 ⟨by decide, by decide⟩
              have hat233 : cl233.slots[((2 : Int32)).toNatClampNeg]? = some (.int (gs ((2 : Int32)).toNatClampNeg)) := (El233 _ (by have q := Nat.lt_of_not_le fun q => hin233 (Or.inr q); rw [Sz233] at q; exact q)).1
              rw [show (gs ((2 : Int32)).toNatClampNeg) = (gs 2) from rfl] at hat233
              rw [show (gs 2) = (Int32.ofNat k2) from (by rw [hgs]; rfl)] at hat233
              refine Wp.step (X224.iaload hx (j := (2 : Int32)) (v := (.int (Int32.ofNat k2))) (by rw [e224]; exact Ar233.1) (State.isArrayOf_alike hZ.alike Ar233.2.1) Ar233.2.2 hin233 hat233 (g := (mkF m 280 LL207 [(.int (2 : Int32)), (.ref b1), (.ref b64)])) rfl rfl (hb hby at_280)) ?_
              show Wp p e below _ (T224.setTop (mkF m 281 LL207 [(.int (Int32.ofNat k2)), (.ref b64)]))
              refine Wp.step (fun t k => XS.aload X224.here hx rfl (hb hby at_281) rfl rfl k) ?_
              show Wp p e below _ (T224.setTop (mkF m 283 LL207 [(.ref b3), (.int (Int32.ofNat k2)), (.ref b64)]))
              refine Wp.step (fun t k => XS.iconst X224.here hx rfl (hb hby at_283) k) ?_
              show Wp p e below _ (T224.setTop (mkF m 284 LL207 [(.int (2 : Int32)), (.ref b3), (.int (Int32.ofNat k2)), (.ref b64)]))
              obtain ⟨cl234, Ar234, Sz234, Nn234, El234⟩ := id B227
              have hin234 : ¬ ((2 : Int32) < 0 ∨ cl234.slots.size ≤ ((2 : Int32)).toNatClampNeg) := inb_of Sz234 ⟨by decide, by decide⟩
              have hat234 : cl234.slots[((2 : Int32)).toNatClampNeg]? = some (.int (gp ((2 : Int32)).toNatClampNeg)) := (El234 _ (by have q := Nat.lt_of_not_le fun q => hin234 (Or.inr q); rw [Sz234] at q; exact q)).1
              rw [show (gp ((2 : Int32)).toNatClampNeg) = (gp 2) from rfl] at hat234
              rw [show (gp 2) = rr2 from (by rw [hgp]; rfl)] at hat234
              refine Wp.step (X224.iaload hx (j := (2 : Int32)) (v := (.int rr2)) (by rw [e224]; exact Ar234.1) (State.isArrayOf_alike hZ.alike Ar234.2.1) Ar234.2.2 hin234 hat234 (g := (mkF m 284 LL207 [(.int (2 : Int32)), (.ref b3), (.int (Int32.ofNat k2)), (.ref b64)])) rfl rfl (hb hby at_284)) ?_
              show Wp p e below _ (T224.setTop (mkF m 285 LL207 [(.int rr2), (.int (Int32.ofNat k2)), (.ref b64)]))
              refine Wp.step (fun t k => XS.aload X224.here hx rfl (hb hby at_285) rfl rfl k) ?_
              show Wp p e below _ (T224.setTop (mkF m 287 LL207 [(.ref b6), (.int rr2), (.int (Int32.ofNat k2)), (.ref b64)]))
              refine Wp.step (fun t k => XS.iconst X224.here hx rfl (hb hby at_287) k) ?_
              show Wp p e below _ (T224.setTop (mkF m 288 LL207 [(.int (2 : Int32)), (.ref b6), (.int rr2), (.int (Int32.ofNat k2)), (.ref b64)]))
              obtain ⟨cl235, Ar235, Sz235, Nn235, El235⟩ := id B226
              have hin235 : ¬ ((2 : Int32) < 0 ∨ cl235.slots.size ≤ ((2 : Int32)).toNatClampNeg) := inb_of Sz235 ⟨by decide, by decide⟩
              have hat235 : cl235.slots[((2 : Int32)).toNatClampNeg]? = some (.int (gt ((2 : Int32)).toNatClampNeg)) := (El235 _ (by have q := Nat.lt_of_not_le fun q => hin235 (Or.inr q); rw [Sz235] at q; exact q)).1
              rw [show (gt ((2 : Int32)).toNatClampNeg) = (gt 2) from rfl] at hat235
              rw [show (gt 2) = (Int32.ofNat l2) from (by rw [hgt]; rfl)] at hat235
              refine Wp.step (X224.iaload hx (j := (2 : Int32)) (v := (.int (Int32.ofNat l2))) (by rw [e224]; exact Ar235.1) (State.isArrayOf_alike hZ.alike Ar235.2.1) Ar235.2.2 hin235 hat235 (g := (mkF m 288 LL207 [(.int (2 : Int32)), (.ref b6), (.int rr2), (.int (Int32.ofNat k2)), (.ref b64)])) rfl rfl (hb hby at_288)) ?_
              show Wp p e below _ (T224.setTop (mkF m 289 LL207 [(.int (Int32.ofNat l2)), (.int rr2), (.int (Int32.ofNat k2)), (.ref b64)]))
              obtain ⟨cq236, kq236, q236a, q236b, q236c⟩ := isOf hZ e224 cE224
              obtain ⟨_, _, ⟨T236, L236, k236, n236⟩, -, X236, ⟨Lc236, hQ236, l236, y236, z236⟩, st236⟩ := X224.virtualBack hx (y := (⟨"com/example/erotema/erotema/model/ToldEdges", "add", "(III)V"⟩ : MethodName)) (z := (⟨"com/example/erotema/erotema/model/ToldEdges", "add", "(III)V"⟩ : MethodName)) hown (mvT hZ (hw _ (List.mem_of_getElem? (i := 81) rfl))) (mvT hZ (hw _ (List.mem_of_getElem? (i := 82) rfl))) (notFace_of_selects (args := #[]) (mvT hZ (hw _ (List.mem_of_getElem? (i := 84) rfl)))) (mvT hZ (hw _ (List.mem_of_getElem? (i := 84) rfl))) (mvT hZ (hw _ (List.mem_of_getElem? (i := 83) rfl))) (by decide) (backOf (W := 0) (rm14 l Z a0 hw [] b64 (Int32.ofNat k2) rr2 (Int32.ofNat l2) b77_1 b77_2 b77_3 2 (own_upd (own_upd (fun _ => (0 : Int32)) 0 (Int32.ofNat k0)) 1 (Int32.ofNat k1)) (own_upd (own_upd (fun _ => (0 : Int32)) 0 rr0) 1 rr1) (own_upd (own_upd (fun _ => (0 : Int32)) 0 (Int32.ofNat l0)) 1 (Int32.ofNat l1)) h224 n0 (Nat.le_trans Z0 K224.1) g_b64 cE224 c224_sources c224_properties c224_targets c224_added c224_bySourceStart c224_bySource c224_byTargetStart c224_byTarget g_b77_1 g_b77_2 g_b77_3 (Ne.symm ne_b64_b77_1) (Ne.symm ne_b64_b77_2) (Ne.symm ne_b64_b77_3) nb12 nb13 nb23 Ba224 Bb224 Bc224 (by omega)) hZ (hw _ (List.mem_of_getElem? (i := 85) rfl)) (hw _ (List.mem_of_getElem? (i := 3) rfl)) (by decide) (by decide)) q236a q236c (g := (mkF m 289 LL207 [(.int (Int32.ofNat l2)), (.int rr2), (.int (Int32.ofNat k2)), (.ref b64)])) rfl (by rw [hml]; rfl) (Steps.refl _) (argsL := [(.int (Int32.ofNat k2)), (.int rr2), (.int (Int32.ofNat l2))]) (rest := []) (lenOf pd_28III29V rfl) rfl (by show 2 * 0 + _ ≤ _; exact Nat.le_of_eq rfl) (hb hby at_289) (fun _ _ => ⟨rfl, e224, (by decide : 7 + 0 ≤ _), (by decide : 3092 + 0 ≤ _)⟩)
              dsimp only [Pt.U, Pt.locs, Pt.cells, Pt.slots] at X236 l236 y236 z236 st236 hQ236
              subst l236 y236 z236
              obtain ⟨h236, e236⟩ : ∃ z, T236.heap = z := ⟨_, rfl⟩
              rw [e236] at hQ236
              obtain ⟨rfl, N236q, Kc236, cE236, c236_sources, c236_properties, c236_targets, c236_added, c236_bySourceStart, c236_bySource, c236_byTargetStart, c236_byTarget, Ba236, Bb236, Bc236⟩ := hQ236
              have N236 := Fr.app N224 N236q
              have B237 := B225.keep Kc236 (ninS ne_b1_b64 (ninS ne_b1_b77_1 (ninS ne_b1_b77_2 (ninS ne_b1_b77_3 nin0))))
              have B238 := B226.keep Kc236 (ninS ne_b6_b64 (ninS ne_b6_b77_1 (ninS ne_b6_b77_2 (ninS ne_b6_b77_3 nin0))))
              have B239 := B227.keep Kc236 (ninS ne_b3_b64 (ninS ne_b3_b77_1 (ninS ne_b3_b77_2 (ninS ne_b3_b77_3 nin0))))
              have c240 := cE224.keep Kc236
              have K236 := K224.trans Kc236 (allS (Or.inr sz_b64) (allS (Or.inr sz_b77_1) (allS (Or.inr sz_b77_2) (allS (Or.inr sz_b77_3) all0))))
              refine Wp.go st236 ?_
              show Wp p e below _ (T236.setTop (mkF m 292 LL207 []))
              refine Wp.step (fun t k => XS.iload X236.here hx rfl (hb hby at_292) rfl k) ?_
              show Wp p e below _ (T236.setTop (mkF m 294 LL207 [(.int (3 : Int32))]))
              refine Wp.step (fun t k => XS.iconst X236.here hx rfl (hb hby at_294) k) ?_
              show Wp p e below _ (T236.setTop (mkF m 295 LL207 [(.int (3 : Int32)), (.int (3 : Int32))]))
              refine Wp.step (fun t k => XS.icmpYes X236.here hx rfl (pc0 := 295) (pc' := 315) rfl (hb hby at_295) rfl (flt (show ¬ ((3 : Int32) < (3 : Int32)) by decide)).2.2.2 (by decide) (by decide) k) ?_
              show Wp p e below _ (T236.setTop (mkF m 315 LL207 []))
              refine Wp.step (fun t k => XS.aload X236.here hx rfl (hb hby at_315) rfl rfl k) ?_
              show Wp p e below _ (T236.setTop (mkF m 317 LL207 [(.ref b64)]))
              refine Wp.step (fun t k => XS.iload X236.here hx rfl (hb hby at_317) rfl k) ?_
              show Wp p e below _ (T236.setTop (mkF m 319 LL207 [(.int (Int32.ofNat nw)), (.ref b64)]))
              have hKK : ∀ i, i < 3 → (own_upd (own_upd (own_upd (fun _ => (0 : Int32)) 0 (Int32.ofNat k0)) 1 (Int32.ofNat k1)) 2 (Int32.ofNat k2)) i = Int32.ofNat ((own_lk k0 k1 k2 k3) i) ∧ (own_lk k0 k1 k2 k3) i < nw := fun i hi => by
                match i, hi with
                | 0, _ => exact ⟨rfl, hk0⟩
                | 1, _ => exact ⟨rfl, hk1⟩
                | 2, _ => exact ⟨rfl, hk2⟩
                | i + 3, hi => exact absurd hi (by omega)
              have hTT : ∀ i, i < 3 → (own_upd (own_upd (own_upd (fun _ => (0 : Int32)) 0 (Int32.ofNat l0)) 1 (Int32.ofNat l1)) 2 (Int32.ofNat l2)) i = Int32.ofNat ((own_lk l0 l1 l2 l3) i) ∧ (own_lk l0 l1 l2 l3) i < nw := fun i hi => by
                match i, hi with
                | 0, _ => exact ⟨rfl, hl0⟩
                | 1, _ => exact ⟨rfl, hl1⟩
                | 2, _ => exact ⟨rfl, hl2⟩
                | i + 3, hi => exact absurd hi (by omega)
              obtain ⟨cq245, kq245, q245a, q245b, q245c⟩ := isOf hZ e236 cE236
              obtain ⟨_, _, ⟨T245, L245, k245, n245⟩, -, X245, ⟨Lc245, hQ245, l245, y245, z245⟩, st245⟩ := X236.virtualBack hx (y := (⟨"com/example/erotema/erotema/model/ToldEdges", "index", "(I)V"⟩ : MethodName)) (z := (⟨"com/example/erotema/erotema/model/ToldEdges", "index", "(I)V"⟩ : MethodName)) hown (mvT hZ (hw _ (List.mem_of_getElem? (i := 16) rfl))) (mvT hZ (hw _ (List.mem_of_getElem? (i := 17) rfl))) (notFace_of_selects (args := #[]) (mvT hZ (hw _ (List.mem_of_getElem? (i := 19) rfl)))) (mvT hZ (hw _ (List.mem_of_getElem? (i := 19) rfl))) (mvT hZ (hw _ (List.mem_of_getElem? (i := 18) rfl))) (by decide) (backOf (W := 0) (rm3 l Z a0 hw [] b64 (Int32.ofNat nw) b77_1 b77_2 b77_3 3 nw (own_lk k0 k1 k2 k3) (own_lk l0 l1 l2 l3) (own_upd (own_upd (own_upd (fun _ => (0 : Int32)) 0 (Int32.ofNat k0)) 1 (Int32.ofNat k1)) 2 (Int32.ofNat k2)) (own_upd (own_upd (own_upd (fun _ => (0 : Int32)) 0 rr0) 1 rr1) 2 rr2) (own_upd (own_upd (own_upd (fun _ => (0 : Int32)) 0 (Int32.ofNat l0)) 1 (Int32.ofNat l1)) 2 (Int32.ofNat l2)) h236 n0 (Nat.le_trans Z0 K236.1) rfl g_b64 cE236 c236_sources c236_properties c236_targets c236_added c236_bySourceStart c236_bySource c236_byTargetStart c236_byTarget (Ne.symm ne_b64_b77_1) (Ne.symm ne_b64_b77_2) (Ne.symm ne_b64_b77_3) Ba236 Bb236 Bc236 (by omega) (by omega) hKK hTT) hZ (hw _ (List.mem_of_getElem? (i := 20) rfl)) (hw _ (List.mem_of_getElem? (i := 3) rfl)) (by decide) (by decide)) q245a q245c (g := (mkF m 319 LL207 [(.int (Int32.ofNat nw)), (.ref b64)])) rfl (by rw [hml]; rfl) (Steps.refl _) (argsL := [(.int (Int32.ofNat nw))]) (rest := []) (lenOf pd_28I29V rfl) rfl (by show 2 * 0 + _ ≤ _; exact Nat.le_of_eq rfl) (hb hby at_319) (fun _ _ => ⟨rfl, e236, (by decide : 7 + 10 ≤ _), (by decide : 3092 + 50 ≤ _)⟩)
              dsimp only [Pt.U, Pt.locs, Pt.cells, Pt.slots] at X245 l245 y245 z245 st245 hQ245
              subst l245 y245 z245
              obtain ⟨h245, e245⟩ : ∃ z, T245.heap = z := ⟨_, rfl⟩
              rw [e245] at hQ245
              obtain ⟨bs245, bt245, FF245, rfl, N245q, Kc245, cE245, cs245, Bs245, ct245, Bt245, f4245, fq245⟩ := hQ245
              have N245 := Fr.app N236 N245q
              have B246 := B237.keep Kc245 (ninS ne_b1_b64 nin0)
              have B247 := B238.keep Kc245 (ninS ne_b6_b64 nin0)
              have B248 := B239.keep Kc245 (ninS ne_b3_b64 nin0)
              have c249 := cE236.keep Kc245
              have B250 := Ba236.keep Kc245 (ninS (Ne.symm ne_b64_b77_1) nin0)
              have B251 := Bb236.keep Kc245 (ninS (Ne.symm ne_b64_b77_2) nin0)
              have B252 := Bc236.keep Kc245 (ninS (Ne.symm ne_b64_b77_3) nin0)
              have K245 := K236.trans Kc245 (allS (Or.inr sz_b64) all0)
              refine Wp.go st245 ?_
              show Wp p e below _ (T245.setTop (mkF m 322 LL207 []))
              refine Wp.step (fun t k => XS.iconst X245.here hx rfl (hb hby at_322) k) ?_
              show Wp p e below _ (T245.setTop (mkF m 323 LL207 [(.int (0 : Int32))]))
              refine Wp.step (fun t k => XS.istore X245.here hx rfl (hb hby at_323) rfl (l' := #[.val (.int p0), .val (.int p1), .val (.int p2), .val (.int p3), .val (.int p4), .val (.int p5), .val (.int (Int32.ofNat nw)), .val (.int (3 : Int32)), .val (.ref b1), .val (.ref b3), .val (.ref b6), .val (.int (Int32.ofNat qw)), .val (.ref b64), .val (.int (0 : Int32))]) rfl k) ?_
              show Wp p e below _ (T245.setTop (mkF m 325 #[.val (.int p0), .val (.int p1), .val (.int p2), .val (.int p3), .val (.int p4), .val (.int p5), .val (.int (Int32.ofNat nw)), .val (.int (3 : Int32)), .val (.ref b1), .val (.ref b3), .val (.ref b6), .val (.int (Int32.ofNat qw)), .val (.ref b64), .val (.int (0 : Int32))] []))
              let LL253 : Array Slot := #[.val (.int p0), .val (.int p1), .val (.int p2), .val (.int p3), .val (.int p4), .val (.int p5), .val (.int (Int32.ofNat nw)), .val (.int (3 : Int32)), .val (.ref b1), .val (.ref b3), .val (.ref b6), .val (.int (Int32.ofNat qw)), .val (.ref b64), .val (.int (0 : Int32))]
              show Wp p e below _ (T245.setTop (mkF m 325 LL253 []))
              have kont254 : ∀ (cv1 : Int32) (hh_254 : Heap) (locs_254 : List Loc) (T_254 : State) (X_254 : Stand p l e room_1 s m #[(.int p0), (.int p1), (.int p2), (.int p3), (.int p4), (.int p5)] below meth c T_254 locs_254 17 3142) (eT_254 : T_254.heap = hh_254) (NN_254 : Fr n0 locs_254) (KK_254 : Keep h0 hh_254 []) (q0_254 : own_IA .int Z hh_254 b1 (4 : Int32) gs) (q1_254 : own_IA .int Z hh_254 b6 (4 : Int32) gt) (q2_254 : own_IA .int Z hh_254 b3 (4 : Int32) gp) (q3_254 : Exa Z hh_254 b64 "com/example/erotema/erotema/model/ToldEdges") (q4_254 : own_IA .int Z hh_254 b77_1 (Int32.ofNat 1024) (own_upd (own_upd (own_upd (fun _ => (0 : Int32)) 0 (Int32.ofNat k0)) 1 (Int32.ofNat k1)) 2 (Int32.ofNat k2))) (q5_254 : own_IA .int Z hh_254 b77_2 (Int32.ofNat 1024) (own_upd (own_upd (own_upd (fun _ => (0 : Int32)) 0 rr0) 1 rr1) 2 rr2)) (q6_254 : own_IA .int Z hh_254 b77_3 (Int32.ofNat 1024) (own_upd (own_upd (own_upd (fun _ => (0 : Int32)) 0 (Int32.ofNat l0)) 1 (Int32.ofNat l1)) 2 (Int32.ofNat l2))) (q7_254 : Fld Z hh_254 b64 "com/example/erotema/erotema/model/ToldEdges" "bySourceStart" "[I" (.ref bs245)) (q8_254 : Fld Z hh_254 b64 "com/example/erotema/erotema/model/ToldEdges" "byTargetStart" "[I" (.ref bt245)) (q9_254 : own_IA .int Z hh_254 bs245 (Int32.ofNat (nw + 1)) (own_DI (own_lk k0 k1 k2 k3) (own_W (own_upd (own_upd (own_upd (fun _ => (0 : Int32)) 0 rr0) 1 rr1) 2 rr2) (own_upd (own_upd (own_upd (fun _ => (0 : Int32)) 0 (Int32.ofNat l0)) 1 (Int32.ofNat l1)) 2 (Int32.ofNat l2))) 3)) (q10_254 : own_IA .int Z hh_254 bt245 (Int32.ofNat (nw + 1)) (fun v => Int32.ofNat (FF245 v))) (hcv1 : cv1 = own_ey gs gp gt (Int32.ofNat qw) 1), Wp p e below (Out s (Q0 Z p0 p1 p2 p3 p4 p5 h0 n0) room_1.cells room_1.slots) (T_254.setTop (mkF m 342 #[.val (.int p0), .val (.int p1), .val (.int p2), .val (.int p3), .val (.int p4), .val (.int p5), .val (.int (Int32.ofNat nw)), .val (.int (3 : Int32)), .val (.ref b1), .val (.ref b3), .val (.ref b6), .val (.int (Int32.ofNat qw)), .val (.ref b64), .val (.int cv1)] [])) := by
                intro cv1 hh_254 locs_254 T_254 X_254 eT_254 NN_254 KK_254 q0_254 q1_254 q2_254 q3_254 q4_254 q5_254 q6_254 q7_254 q8_254 q9_254 q10_254 hcv1
                let LL255 : Array Slot := #[.val (.int p0), .val (.int p1), .val (.int p2), .val (.int p3), .val (.int p4), .val (.int p5), .val (.int (Int32.ofNat nw)), .val (.int (3 : Int32)), .val (.ref b1), .val (.ref b3), .val (.ref b6), .val (.int (Int32.ofNat qw)), .val (.ref b64), .val (.int cv1)]
                show Wp p e below _ (T_254.setTop (mkF m 342 LL255 []))
                have kont256 : ∀ (cv2 : Int32) (hh_256 : Heap) (locs_256 : List Loc) (T_256 : State) (X_256 : Stand p l e room_1 s m #[(.int p0), (.int p1), (.int p2), (.int p3), (.int p4), (.int p5)] below meth c T_256 locs_256 17 3142) (eT_256 : T_256.heap = hh_256) (NN_256 : Fr n0 locs_256) (KK_256 : Keep h0 hh_256 []) (q0_256 : own_IA .int Z hh_256 b1 (4 : Int32) gs) (q1_256 : own_IA .int Z hh_256 b6 (4 : Int32) gt) (q2_256 : own_IA .int Z hh_256 b3 (4 : Int32) gp) (q3_256 : Exa Z hh_256 b64 "com/example/erotema/erotema/model/ToldEdges") (q4_256 : own_IA .int Z hh_256 b77_1 (Int32.ofNat 1024) (own_upd (own_upd (own_upd (fun _ => (0 : Int32)) 0 (Int32.ofNat k0)) 1 (Int32.ofNat k1)) 2 (Int32.ofNat k2))) (q5_256 : own_IA .int Z hh_256 b77_2 (Int32.ofNat 1024) (own_upd (own_upd (own_upd (fun _ => (0 : Int32)) 0 rr0) 1 rr1) 2 rr2)) (q6_256 : own_IA .int Z hh_256 b77_3 (Int32.ofNat 1024) (own_upd (own_upd (own_upd (fun _ => (0 : Int32)) 0 (Int32.ofNat l0)) 1 (Int32.ofNat l1)) 2 (Int32.ofNat l2))) (q7_256 : Fld Z hh_256 b64 "com/example/erotema/erotema/model/ToldEdges" "bySourceStart" "[I" (.ref bs245)) (q8_256 : Fld Z hh_256 b64 "com/example/erotema/erotema/model/ToldEdges" "byTargetStart" "[I" (.ref bt245)) (q9_256 : own_IA .int Z hh_256 bs245 (Int32.ofNat (nw + 1)) (own_DI (own_lk k0 k1 k2 k3) (own_W (own_upd (own_upd (own_upd (fun _ => (0 : Int32)) 0 rr0) 1 rr1) 2 rr2) (own_upd (own_upd (own_upd (fun _ => (0 : Int32)) 0 (Int32.ofNat l0)) 1 (Int32.ofNat l1)) 2 (Int32.ofNat l2))) 3)) (q10_256 : own_IA .int Z hh_256 bt245 (Int32.ofNat (nw + 1)) (fun v => Int32.ofNat (FF245 v))) (hcv2 : cv2 = own_ey gs gp gt (Int32.ofNat qw) 2), Wp p e below (Out s (Q0 Z p0 p1 p2 p3 p4 p5 h0 n0) room_1.cells room_1.slots) (T_256.setTop (mkF m 374 #[.val (.int p0), .val (.int p1), .val (.int p2), .val (.int p3), .val (.int p4), .val (.int p5), .val (.int (Int32.ofNat nw)), .val (.int (3 : Int32)), .val (.ref b1), .val (.ref b3), .val (.ref b6), .val (.int (Int32.ofNat qw)), .val (.ref b64), .val (.int cv2)] [])) := by
                  intro cv2 hh_256 locs_256 T_256 X_256 eT_256 NN_256 KK_256 q0_256 q1_256 q2_256 q3_256 q4_256 q5_256 q6_256 q7_256 q8_256 q9_256 q10_256 hcv2
                  let LL257 : Array Slot := #[.val (.int p0), .val (.int p1), .val (.int p2), .val (.int p3), .val (.int p4), .val (.int p5), .val (.int (Int32.ofNat nw)), .val (.int (3 : Int32)), .val (.ref b1), .val (.ref b3), .val (.ref b6), .val (.int (Int32.ofNat qw)), .val (.ref b64), .val (.int cv2)]
                  show Wp p e below _ (T_256.setTop (mkF m 374 LL257 []))
                  have kont258 : ∀ (cv3 : Int32) (hh_258 : Heap) (locs_258 : List Loc) (T_258 : State) (X_258 : Stand p l e room_1 s m #[(.int p0), (.int p1), (.int p2), (.int p3), (.int p4), (.int p5)] below meth c T_258 locs_258 17 3142) (eT_258 : T_258.heap = hh_258) (NN_258 : Fr n0 locs_258) (KK_258 : Keep h0 hh_258 []) (q0_258 : own_IA .int Z hh_258 b1 (4 : Int32) gs) (q1_258 : own_IA .int Z hh_258 b6 (4 : Int32) gt) (q2_258 : own_IA .int Z hh_258 b3 (4 : Int32) gp) (q3_258 : Exa Z hh_258 b64 "com/example/erotema/erotema/model/ToldEdges") (q4_258 : own_IA .int Z hh_258 b77_1 (Int32.ofNat 1024) (own_upd (own_upd (own_upd (fun _ => (0 : Int32)) 0 (Int32.ofNat k0)) 1 (Int32.ofNat k1)) 2 (Int32.ofNat k2))) (q5_258 : own_IA .int Z hh_258 b77_2 (Int32.ofNat 1024) (own_upd (own_upd (own_upd (fun _ => (0 : Int32)) 0 rr0) 1 rr1) 2 rr2)) (q6_258 : own_IA .int Z hh_258 b77_3 (Int32.ofNat 1024) (own_upd (own_upd (own_upd (fun _ => (0 : Int32)) 0 (Int32.ofNat l0)) 1 (Int32.ofNat l1)) 2 (Int32.ofNat l2))) (q7_258 : Fld Z hh_258 b64 "com/example/erotema/erotema/model/ToldEdges" "bySourceStart" "[I" (.ref bs245)) (q8_258 : Fld Z hh_258 b64 "com/example/erotema/erotema/model/ToldEdges" "byTargetStart" "[I" (.ref bt245)) (q9_258 : own_IA .int Z hh_258 bs245 (Int32.ofNat (nw + 1)) (own_DI (own_lk k0 k1 k2 k3) (own_W (own_upd (own_upd (own_upd (fun _ => (0 : Int32)) 0 rr0) 1 rr1) 2 rr2) (own_upd (own_upd (own_upd (fun _ => (0 : Int32)) 0 (Int32.ofNat l0)) 1 (Int32.ofNat l1)) 2 (Int32.ofNat l2))) 3)) (q10_258 : own_IA .int Z hh_258 bt245 (Int32.ofNat (nw + 1)) (fun v => Int32.ofNat (FF245 v))) (hcv3 : cv3 = own_ey gs gp gt (Int32.ofNat qw) 3), Wp p e below (Out s (Q0 Z p0 p1 p2 p3 p4 p5 h0 n0) room_1.cells room_1.slots) (T_258.setTop (mkF m 420 #[.val (.int p0), .val (.int p1), .val (.int p2), .val (.int p3), .val (.int p4), .val (.int p5), .val (.int (Int32.ofNat nw)), .val (.int (3 : Int32)), .val (.ref b1), .val (.ref b3), .val (.ref b6), .val (.int (Int32.ofNat qw)), .val (.ref b64), .val (.int cv3)] [])) := by
                    intro cv3 hh_258 locs_258 T_258 X_258 eT_258 NN_258 KK_258 q0_258 q1_258 q2_258 q3_258 q4_258 q5_258 q6_258 q7_258 q8_258 q9_258 q10_258 hcv3
                    let LL259 : Array Slot := #[.val (.int p0), .val (.int p1), .val (.int p2), .val (.int p3), .val (.int p4), .val (.int p5), .val (.int (Int32.ofNat nw)), .val (.int (3 : Int32)), .val (.ref b1), .val (.ref b3), .val (.ref b6), .val (.int (Int32.ofNat qw)), .val (.ref b64), .val (.int cv3)]
                    show Wp p e below _ (T_258.setTop (mkF m 420 LL259 []))
                    have kont260 : ∀ (cv4 : Int32) (hh_260 : Heap) (locs_260 : List Loc) (T_260 : State) (X_260 : Stand p l e room_1 s m #[(.int p0), (.int p1), (.int p2), (.int p3), (.int p4), (.int p5)] below meth c T_260 locs_260 17 3142) (eT_260 : T_260.heap = hh_260) (NN_260 : Fr n0 locs_260) (KK_260 : Keep h0 hh_260 []) (q0_260 : own_IA .int Z hh_260 b1 (4 : Int32) gs) (q1_260 : own_IA .int Z hh_260 b6 (4 : Int32) gt) (q2_260 : own_IA .int Z hh_260 b3 (4 : Int32) gp) (q3_260 : Exa Z hh_260 b64 "com/example/erotema/erotema/model/ToldEdges") (q4_260 : own_IA .int Z hh_260 b77_1 (Int32.ofNat 1024) (own_upd (own_upd (own_upd (fun _ => (0 : Int32)) 0 (Int32.ofNat k0)) 1 (Int32.ofNat k1)) 2 (Int32.ofNat k2))) (q5_260 : own_IA .int Z hh_260 b77_2 (Int32.ofNat 1024) (own_upd (own_upd (own_upd (fun _ => (0 : Int32)) 0 rr0) 1 rr1) 2 rr2)) (q6_260 : own_IA .int Z hh_260 b77_3 (Int32.ofNat 1024) (own_upd (own_upd (own_upd (fun _ => (0 : Int32)) 0 (Int32.ofNat l0)) 1 (Int32.ofNat l1)) 2 (Int32.ofNat l2))) (q7_260 : Fld Z hh_260 b64 "com/example/erotema/erotema/model/ToldEdges" "bySourceStart" "[I" (.ref bs245)) (q8_260 : Fld Z hh_260 b64 "com/example/erotema/erotema/model/ToldEdges" "byTargetStart" "[I" (.ref bt245)) (q9_260 : own_IA .int Z hh_260 bs245 (Int32.ofNat (nw + 1)) (own_DI (own_lk k0 k1 k2 k3) (own_W (own_upd (own_upd (own_upd (fun _ => (0 : Int32)) 0 rr0) 1 rr1) 2 rr2) (own_upd (own_upd (own_upd (fun _ => (0 : Int32)) 0 (Int32.ofNat l0)) 1 (Int32.ofNat l1)) 2 (Int32.ofNat l2))) 3)) (q10_260 : own_IA .int Z hh_260 bt245 (Int32.ofNat (nw + 1)) (fun v => Int32.ofNat (FF245 v))) (hcv4 : cv4 = own_ey gs gp gt (Int32.ofNat qw) 3), Wp p e below (Out s (Q0 Z p0 p1 p2 p3 p4 p5 h0 n0) room_1.cells room_1.slots) (T_260.setTop (mkF m 480 #[.val (.int p0), .val (.int p1), .val (.int p2), .val (.int p3), .val (.int p4), .val (.int p5), .val (.int (Int32.ofNat nw)), .val (.int (3 : Int32)), .val (.ref b1), .val (.ref b3), .val (.ref b6), .val (.int (Int32.ofNat qw)), .val (.ref b64), .val (.int cv4)] [])) := by
                      intro cv4 hh_260 locs_260 T_260 X_260 eT_260 NN_260 KK_260 q0_260 q1_260 q2_260 q3_260 q4_260 q5_260 q6_260 q7_260 q8_260 q9_260 q10_260 hcv4
                      let LL261 : Array Slot := #[.val (.int p0), .val (.int p1), .val (.int p2), .val (.int p3), .val (.int p4), .val (.int p5), .val (.int (Int32.ofNat nw)), .val (.int (3 : Int32)), .val (.ref b1), .val (.ref b3), .val (.ref b6), .val (.int (Int32.ofNat qw)), .val (.ref b64), .val (.int cv4)]
                      show Wp p e below _ (T_260.setTop (mkF m 480 LL261 []))
                      refine Wp.step (fun t k => XS.aload X_260.here hx rfl (hb hby at_480) rfl rfl k) ?_
                      show Wp p e below _ (T_260.setTop (mkF m 482 LL261 [(.ref b64)]))
                      refine Wp.step (fun t k => XS.iload X_260.here hx rfl (hb hby at_482) rfl k) ?_
                      show Wp p e below _ (T_260.setTop (mkF m 484 LL261 [(.int (Int32.ofNat qw)), (.ref b64)]))
                      have hS : ∀ i, i < 3 → gs i = Int32.ofNat ((own_lk k0 k1 k2 k3) i) ∧ gp i = (own_upd (own_upd (own_upd (fun _ => (0 : Int32)) 0 rr0) 1 rr1) 2 rr2) i ∧ gt i = (own_upd (own_upd (own_upd (fun _ => (0 : Int32)) 0 (Int32.ofNat l0)) 1 (Int32.ofNat l1)) 2 (Int32.ofNat l2)) i := fun i hi => by
                        match i, hi with
                        | 0, _ => exact ⟨by rw [hgs] <;> rfl, by rw [hgp] <;> rfl, by rw [hgt] <;> rfl⟩
                        | 1, _ => exact ⟨by rw [hgs] <;> rfl, by rw [hgp] <;> rfl, by rw [hgt] <;> rfl⟩
                        | 2, _ => exact ⟨by rw [hgs] <;> rfl, by rw [hgp] <;> rfl, by rw [hgt] <;> rfl⟩
                        | i + 3, hi => exact absurd hi (by omega)
                      obtain ⟨cq262, kq262, q262a, q262b, q262c⟩ := isOf hZ eT_260 q3_260
                      obtain ⟨_, _, ⟨T262, L262, k262, n262⟩, -, X262, ⟨Lc262, hQ262, l262, y262, z262⟩, st262⟩ := X_260.virtualBack hx (y := (⟨"com/example/erotema/erotema/model/ToldEdges", "countTo", "(I)I"⟩ : MethodName)) (z := (⟨"com/example/erotema/erotema/model/ToldEdges", "countTo", "(I)I"⟩ : MethodName)) hown (mvT hZ (hw _ (List.mem_of_getElem? (i := 75) rfl))) (mvT hZ (hw _ (List.mem_of_getElem? (i := 76) rfl))) (notFace_of_selects (args := #[]) (mvT hZ (hw _ (List.mem_of_getElem? (i := 78) rfl)))) (mvT hZ (hw _ (List.mem_of_getElem? (i := 78) rfl))) (mvT hZ (hw _ (List.mem_of_getElem? (i := 77) rfl))) (by decide) (backOf (W := 0) (rm13 l Z a0 hw [] b64 (Int32.ofNat qw) bt245 3 nw (own_lk k0 k1 k2 k3) (own_lk l0 l1 l2 l3) (own_upd (own_upd (own_upd (fun _ => (0 : Int32)) 0 rr0) 1 rr1) 2 rr2) (own_upd (own_upd (own_upd (fun _ => (0 : Int32)) 0 (Int32.ofNat l0)) 1 (Int32.ofNat l1)) 2 (Int32.ofNat l2)) FF245 qw hh_260 n0 (Nat.le_trans Z0 KK_260.1) rfl q8_260 q10_260 (by omega) (by omega) hTT f4245 fq245) hZ (hw _ (List.mem_of_getElem? (i := 79) rfl)) (hw _ (List.mem_of_getElem? (i := 3) rfl)) (by decide) (by decide)) q262a q262c (g := (mkF m 484 LL261 [(.int (Int32.ofNat qw)), (.ref b64)])) rfl (by rw [hml]; rfl) (Steps.refl _) (argsL := [(.int (Int32.ofNat qw))]) (rest := []) (lenOf pd_28I29I rfl) rfl (by show 2 * 0 + _ ≤ _; exact Nat.le_of_eq rfl) (hb hby at_484) (fun _ _ => ⟨rfl, eT_260, (by decide : 17 + 0 ≤ _), (by decide : 3142 + 0 ≤ _)⟩)
                      dsimp only [Pt.U, Pt.locs, Pt.cells, Pt.slots] at X262 l262 y262 z262 st262 hQ262
                      subst l262 y262 z262
                      obtain ⟨rfl, N262q, e262⟩ := hQ262
                      have N262 := Fr.app NN_260 N262q
                      refine Wp.go st262 ?_
                      show Wp p e below _ (T262.setTop (mkF m 487 LL261 [(.int (Int32.ofNat (own_D (fun z => own_el z == Int32.ofNat qw) (own_lk k0 k1 k2 k3) (own_W (own_upd (own_upd (own_upd (fun _ => (0 : Int32)) 0 rr0) 1 rr1) 2 rr2) (own_upd (own_upd (own_upd (fun _ => (0 : Int32)) 0 (Int32.ofNat l0)) 1 (Int32.ofNat l1)) 2 (Int32.ofNat l2))) 3 nw)))]))
                      refine Wp.step (fun t k => XS.iload X262.here hx rfl (hb hby at_487) rfl k) ?_
                      show Wp p e below _ (T262.setTop (mkF m 489 LL261 [(.int cv4), (.int (Int32.ofNat (own_D (fun z => own_el z == Int32.ofNat qw) (own_lk k0 k1 k2 k3) (own_W (own_upd (own_upd (own_upd (fun _ => (0 : Int32)) 0 rr0) 1 rr1) 2 rr2) (own_upd (own_upd (own_upd (fun _ => (0 : Int32)) 0 (Int32.ofNat l0)) 1 (Int32.ofNat l1)) 2 (Int32.ofNat l2))) 3 nw)))]))
                      refine Wp.step (fun t k => XS.icmpNo X262.here hx rfl (hb hby at_489) rfl (teq (show (Int32.ofNat (own_D (fun z => own_el z == Int32.ofNat qw) (own_lk k0 k1 k2 k3) (own_W (own_upd (own_upd (own_upd (fun _ => (0 : Int32)) 0 rr0) 1 rr1) 2 rr2) (own_upd (own_upd (own_upd (fun _ => (0 : Int32)) 0 (Int32.ofNat l0)) 1 (Int32.ofNat l1)) 2 (Int32.ofNat l2))) 3 nw)) = cv4 from (own_y (K := (own_lk k0 k1 k2 k3)) (Tg := (own_lk l0 l1 l2 l3)) (g2 := (own_upd (own_upd (own_upd (fun _ => (0 : Int32)) 0 rr0) 1 rr1) 2 rr2)) (g3 := (own_upd (own_upd (own_upd (fun _ => (0 : Int32)) 0 (Int32.ofNat l0)) 1 (Int32.ofNat l1)) 2 (Int32.ofNat l2))) (S := gs) (R := gp) (T := gt) hn4 hqw (fun i hi => (hKK i hi).2) hTT hS).trans hcv4.symm)).2 k) ?_
                      show Wp p e below _ (T262.setTop (mkF m 492 LL261 []))
                      refine Wp.step (fun t k => XS.iconst X262.here hx rfl (hb hby at_492) k) ?_
                      show Wp p e below _ (T262.setTop (mkF m 493 LL261 [(.int (1 : Int32))]))
                      refine Wp.step (fun t k => XS.goto X262.here hx rfl (pc0 := 493) (pc' := 497) rfl (hb hby at_493) (by decide) (by decide) k) ?_
                      show Wp p e below _ (T262.setTop (mkF m 497 LL261 [(.int (1 : Int32))]))
                      refine Wp.retN X262 hx (t := .boolean) Bd.returns (by simp) (hb hby at_497) hlk ?_ (by decide) (by decide)
                      show Q0 Z p0 p1 p2 p3 p4 p5 h0 n0 (some (.int (nar .boolean (1 : Int32)))) T262.heap _
                      rw [e262]
                      exact ⟨rfl, N262⟩
                    refine Wp.step (fun t k => XS.iload X_258.here hx rfl (hb hby at_420) rfl k) ?_
                    show Wp p e below _ (T_258.setTop (mkF m 422 LL259 [(.int (3 : Int32))]))
                    refine Wp.step (fun t k => XS.iconst X_258.here hx rfl (hb hby at_422) k) ?_
                    show Wp p e below _ (T_258.setTop (mkF m 423 LL259 [(.int (3 : Int32)), (.int (3 : Int32))]))
                    refine Wp.step (fun t k => XS.icmpYes X_258.here hx rfl (pc0 := 423) (pc' := 480) rfl (hb hby at_423) rfl (flt (show ¬ ((3 : Int32) < (3 : Int32)) by decide)).2.2.2 (by decide) (by decide) k) ?_
                    show Wp p e below _ (T_258.setTop (mkF m 480 LL259 []))
                    exact kont260 _ _ _ T_258 X_258 eT_258 NN_258 KK_258 q0_258 q1_258 q2_258 q3_258 q4_258 q5_258 q6_258 q7_258 q8_258 q9_258 q10_258 hcv3
                  refine Wp.step (fun t k => XS.iload X_256.here hx rfl (hb hby at_374) rfl k) ?_
                  show Wp p e below _ (T_256.setTop (mkF m 376 LL257 [(.int (3 : Int32))]))
                  refine Wp.step (fun t k => XS.iconst X_256.here hx rfl (hb hby at_376) k) ?_
                  show Wp p e below _ (T_256.setTop (mkF m 377 LL257 [(.int (2 : Int32)), (.int (3 : Int32))]))
                  refine Wp.step (fun t k => XS.icmpNo X_256.here hx rfl (hb hby at_377) rfl (tlt (show (2 : Int32) < (3 : Int32) by decide)).2.2.2 k) ?_
                  show Wp p e below _ (T_256.setTop (mkF m 380 LL257 []))
                  refine Wp.step (fun t k => XS.aload X_256.here hx rfl (hb hby at_380) rfl rfl k) ?_
                  show Wp p e below _ (T_256.setTop (mkF m 382 LL257 [(.ref b6)]))
                  refine Wp.step (fun t k => XS.iconst X_256.here hx rfl (hb hby at_382) k) ?_
                  show Wp p e below _ (T_256.setTop (mkF m 383 LL257 [(.int (2 : Int32)), (.ref b6)]))
                  obtain ⟨cl266, Ar266, Sz266, Nn266, El266⟩ := id q1_256
                  have hin266 : ¬ ((2 : Int32) < 0 ∨ cl266.slots.size ≤ ((2 : Int32)).toNatClampNeg) := inb_of Sz266 ⟨by decide, by decide⟩
                  have hat266 : cl266.slots[((2 : Int32)).toNatClampNeg]? = some (.int (gt ((2 : Int32)).toNatClampNeg)) := (El266 _ (by have q := Nat.lt_of_not_le fun q => hin266 (Or.inr q); rw [Sz266] at q; exact q)).1
                  rw [show (gt ((2 : Int32)).toNatClampNeg) = (gt 2) from rfl] at hat266
                  refine Wp.step (X_256.iaload hx (j := (2 : Int32)) (v := (.int (gt 2))) (by rw [eT_256]; exact Ar266.1) (State.isArrayOf_alike hZ.alike Ar266.2.1) Ar266.2.2 hin266 hat266 (g := (mkF m 383 LL257 [(.int (2 : Int32)), (.ref b6)])) rfl rfl (hb hby at_383)) ?_
                  show Wp p e below _ (T_256.setTop (mkF m 384 LL257 [(.int (gt 2))]))
                  refine Wp.step (fun t k => XS.iload X_256.here hx rfl (hb hby at_384) rfl k) ?_
                  show Wp p e below _ (T_256.setTop (mkF m 386 LL257 [(.int (Int32.ofNat qw)), (.int (gt 2))]))
                  by_cases hc267 : (gt 2) = (Int32.ofNat qw)
                  · refine Wp.step (fun t k => XS.icmpNo X_256.here hx rfl (hb hby at_386) rfl (teq hc267).2 k) ?_
                    show Wp p e below _ (T_256.setTop (mkF m 389 LL257 []))
                    refine Wp.step (fun t k => XS.aload X_256.here hx rfl (hb hby at_389) rfl rfl k) ?_
                    show Wp p e below _ (T_256.setTop (mkF m 391 LL257 [(.ref b1)]))
                    refine Wp.step (fun t k => XS.aload X_256.here hx rfl (hb hby at_391) rfl rfl k) ?_
                    show Wp p e below _ (T_256.setTop (mkF m 393 LL257 [(.ref b3), (.ref b1)]))
                    refine Wp.step (fun t k => XS.aload X_256.here hx rfl (hb hby at_393) rfl rfl k) ?_
                    show Wp p e below _ (T_256.setTop (mkF m 395 LL257 [(.ref b6), (.ref b3), (.ref b1)]))
                    refine Wp.step (fun t k => XS.iconst X_256.here hx rfl (hb hby at_395) k) ?_
                    show Wp p e below _ (T_256.setTop (mkF m 396 LL257 [(.int (2 : Int32)), (.ref b6), (.ref b3), (.ref b1)]))
                    refine Wp.step (fun t k => XS.iconst X_256.here hx rfl (hb hby at_396) k) ?_
                    show Wp p e below _ (T_256.setTop (mkF m 397 LL257 [(.int (0 : Int32)), (.int (2 : Int32)), (.ref b6), (.ref b3), (.ref b1)]))
                    obtain ⟨_, _, ⟨T268, L268, k268, n268⟩, -, X268, ⟨Lc268, hQ268, l268, y268, z268⟩, st268⟩ := Jvm.LawKit.callS X_256 hx (y := (⟨"com/example/erotema/erotema/model/ToldEdgesCountToPinLaw", "same", "([I[I[III)Z"⟩ : MethodName)) hown (mvT hZ (hw _ (List.mem_of_getElem? (i := 93) rfl))) (mvT hZ (hw _ (List.mem_of_getElem? (i := 94) rfl))) (mvT hZ (hw _ (List.mem_of_getElem? (i := 95) rfl))) (mvT hZ (hw _ (List.mem_of_getElem? (i := 96) rfl))) (by decide) (backOf (W := 0) (rm17 l Z a0 hw [] b1 b3 b6 (2 : Int32) (0 : Int32) gs gp gt 2 0 hh_256 n0 (Nat.le_trans Z0 KK_256.1) rfl rfl q0_256 q2_256 q1_256 (by decide) (by decide)) hZ (hw _ (List.mem_of_getElem? (i := 96) rfl)) (hw _ (List.mem_of_getElem? (i := 95) rfl)) (by decide) (by decide)) (g := (mkF m 397 LL257 [(.int (0 : Int32)), (.int (2 : Int32)), (.ref b6), (.ref b3), (.ref b1)])) rfl (by rw [hml]; rfl) (argsL := [(.ref b1), (.ref b3), (.ref b6), (.int (2 : Int32)), (.int (0 : Int32))]) (rest := []) (lenOf pd_285bI5bI5bIII29Z rfl) rfl (by show 2 * 0 + _ ≤ _; exact Nat.le_of_eq rfl) (hb hby at_397) (fun _ _ => ⟨rfl, eT_256, (by decide : 17 + 0 ≤ _), (by decide : 3142 + 0 ≤ _)⟩)
                    dsimp only [Pt.U, Pt.locs, Pt.cells, Pt.slots] at X268 l268 y268 z268 st268 hQ268
                    subst l268 y268 z268
                    obtain ⟨rfl, N268q, e268⟩ := hQ268
                    have N268 := Fr.app NN_256 N268q
                    refine Wp.step st268 ?_
                    show Wp p e below _ (T268.setTop (mkF m 400 LL257 [(.int (own_b (own_same gs gp gt 2 0)))]))
                    by_cases hc269 : (own_b (own_same gs gp gt 2 0)) = (0 : Int32)
                    · refine Wp.step (fun t k => XS.ifNo X268.here hx rfl (hb hby at_400) rfl ((if0 _ _).trans (teq hc269).2) k) ?_
                      show Wp p e below _ (T268.setTop (mkF m 403 LL257 []))
                      refine Wp.step (fun t k => XS.aload X268.here hx rfl (hb hby at_403) rfl rfl k) ?_
                      show Wp p e below _ (T268.setTop (mkF m 405 LL257 [(.ref b1)]))
                      refine Wp.step (fun t k => XS.aload X268.here hx rfl (hb hby at_405) rfl rfl k) ?_
                      show Wp p e below _ (T268.setTop (mkF m 407 LL257 [(.ref b3), (.ref b1)]))
                      refine Wp.step (fun t k => XS.aload X268.here hx rfl (hb hby at_407) rfl rfl k) ?_
                      show Wp p e below _ (T268.setTop (mkF m 409 LL257 [(.ref b6), (.ref b3), (.ref b1)]))
                      refine Wp.step (fun t k => XS.iconst X268.here hx rfl (hb hby at_409) k) ?_
                      show Wp p e below _ (T268.setTop (mkF m 410 LL257 [(.int (2 : Int32)), (.ref b6), (.ref b3), (.ref b1)]))
                      refine Wp.step (fun t k => XS.iconst X268.here hx rfl (hb hby at_410) k) ?_
                      show Wp p e below _ (T268.setTop (mkF m 411 LL257 [(.int (1 : Int32)), (.int (2 : Int32)), (.ref b6), (.ref b3), (.ref b1)]))
                      obtain ⟨_, _, ⟨T270, L270, k270, n270⟩, -, X270, ⟨Lc270, hQ270, l270, y270, z270⟩, st270⟩ := Jvm.LawKit.callS X268 hx (y := (⟨"com/example/erotema/erotema/model/ToldEdgesCountToPinLaw", "same", "([I[I[III)Z"⟩ : MethodName)) hown (mvT hZ (hw _ (List.mem_of_getElem? (i := 93) rfl))) (mvT hZ (hw _ (List.mem_of_getElem? (i := 94) rfl))) (mvT hZ (hw _ (List.mem_of_getElem? (i := 95) rfl))) (mvT hZ (hw _ (List.mem_of_getElem? (i := 96) rfl))) (by decide) (backOf (W := 0) (rm17 l Z a0 hw [] b1 b3 b6 (2 : Int32) (1 : Int32) gs gp gt 2 1 hh_256 n0 (Nat.le_trans Z0 KK_256.1) rfl rfl q0_256 q2_256 q1_256 (by decide) (by decide)) hZ (hw _ (List.mem_of_getElem? (i := 96) rfl)) (hw _ (List.mem_of_getElem? (i := 95) rfl)) (by decide) (by decide)) (g := (mkF m 411 LL257 [(.int (1 : Int32)), (.int (2 : Int32)), (.ref b6), (.ref b3), (.ref b1)])) rfl (by rw [hml]; rfl) (argsL := [(.ref b1), (.ref b3), (.ref b6), (.int (2 : Int32)), (.int (1 : Int32))]) (rest := []) (lenOf pd_285bI5bI5bIII29Z rfl) rfl (by show 2 * 0 + _ ≤ _; exact Nat.le_of_eq rfl) (hb hby at_411) (fun _ _ => ⟨rfl, e268, (by decide : 17 + 0 ≤ _), (by decide : 3142 + 0 ≤ _)⟩)
                      dsimp only [Pt.U, Pt.locs, Pt.cells, Pt.slots] at X270 l270 y270 z270 st270 hQ270
                      subst l270 y270 z270
                      obtain ⟨rfl, N270q, e270⟩ := hQ270
                      have N270 := Fr.app N268 N270q
                      refine Wp.step st270 ?_
                      show Wp p e below _ (T270.setTop (mkF m 414 LL257 [(.int (own_b (own_same gs gp gt 2 1)))]))
                      by_cases hc271 : (own_b (own_same gs gp gt 2 1)) = (0 : Int32)
                      · refine Wp.step (fun t k => XS.ifNo X270.here hx rfl (hb hby at_414) rfl ((if0 _ _).trans (teq hc271).2) k) ?_
                        show Wp p e below _ (T270.setTop (mkF m 417 LL257 []))
                        refine Wp.step (fun t k => XS.iinc X270.here hx rfl (hb hby at_417) rfl (l' := #[.val (.int p0), .val (.int p1), .val (.int p2), .val (.int p3), .val (.int p4), .val (.int p5), .val (.int (Int32.ofNat nw)), .val (.int (3 : Int32)), .val (.ref b1), .val (.ref b3), .val (.ref b6), .val (.int (Int32.ofNat qw)), .val (.ref b64), .val (.int (cv2 + (1 : Int32)))]) rfl k) ?_
                        show Wp p e below _ (T270.setTop (mkF m 420 #[.val (.int p0), .val (.int p1), .val (.int p2), .val (.int p3), .val (.int p4), .val (.int p5), .val (.int (Int32.ofNat nw)), .val (.int (3 : Int32)), .val (.ref b1), .val (.ref b3), .val (.ref b6), .val (.int (Int32.ofNat qw)), .val (.ref b64), .val (.int (cv2 + (1 : Int32)))] []))
                        exact kont258 _ _ _ T270 X270 e270 N270 KK_256 q0_256 q1_256 q2_256 q3_256 q4_256 q5_256 q6_256 q7_256 q8_256 q9_256 q10_256 (Eq.trans (congrArg (· + 1) hcv2) (own_ey_pos (S := gs) (R := gp) (T := gt) (q := (Int32.ofNat qw)) (c := 2) ⟨hc267, (own_aS (own_aS own_a0 (own_b0.mp hc269)) (own_b0.mp hc271))⟩).symm)
                      · refine Wp.step (fun t k => XS.ifYes X270.here hx rfl (pc0 := 414) (pc' := 420) rfl (hb hby at_414) rfl ((if0 _ _).trans (feq hc271).2) (by decide) (by decide) k) ?_
                        show Wp p e below _ (T270.setTop (mkF m 420 LL257 []))
                        exact kont258 _ _ _ T270 X270 e270 N270 KK_256 q0_256 q1_256 q2_256 q3_256 q4_256 q5_256 q6_256 q7_256 q8_256 q9_256 q10_256 (Eq.trans hcv2 (own_ey_neg (S := gs) (R := gp) (T := gt) (q := (Int32.ofNat qw)) (c := 2) (fun q => q.2 1 (by decide) (Classical.byContradiction fun z => hc271 (own_b0.mpr z)))).symm)
                    · refine Wp.step (fun t k => XS.ifYes X268.here hx rfl (pc0 := 400) (pc' := 420) rfl (hb hby at_400) rfl ((if0 _ _).trans (feq hc269).2) (by decide) (by decide) k) ?_
                      show Wp p e below _ (T268.setTop (mkF m 420 LL257 []))
                      exact kont258 _ _ _ T268 X268 e268 N268 KK_256 q0_256 q1_256 q2_256 q3_256 q4_256 q5_256 q6_256 q7_256 q8_256 q9_256 q10_256 (Eq.trans hcv2 (own_ey_neg (S := gs) (R := gp) (T := gt) (q := (Int32.ofNat qw)) (c := 2) (fun q => q.2 0 (by decide) (Classical.byContradiction fun z => hc269 (own_b0.mpr z)))).symm)
                  · refine Wp.step (fun t k => XS.icmpYes X_256.here hx rfl (pc0 := 386) (pc' := 420) rfl (hb hby at_386) rfl (feq hc267).2 (by decide) (by decide) k) ?_
                    show Wp p e below _ (T_256.setTop (mkF m 420 LL257 []))
                    exact kont258 _ _ _ T_256 X_256 eT_256 NN_256 KK_256 q0_256 q1_256 q2_256 q3_256 q4_256 q5_256 q6_256 q7_256 q8_256 q9_256 q10_256 (Eq.trans hcv2 (own_ey_neg (S := gs) (R := gp) (T := gt) (q := (Int32.ofNat qw)) (c := 2) (fun q => hc267 q.1)).symm)
                refine Wp.step (fun t k => XS.iload X_254.here hx rfl (hb hby at_342) rfl k) ?_
                show Wp p e below _ (T_254.setTop (mkF m 344 LL255 [(.int (3 : Int32))]))
                refine Wp.step (fun t k => XS.iconst X_254.here hx rfl (hb hby at_344) k) ?_
                show Wp p e below _ (T_254.setTop (mkF m 345 LL255 [(.int (1 : Int32)), (.int (3 : Int32))]))
                refine Wp.step (fun t k => XS.icmpNo X_254.here hx rfl (hb hby at_345) rfl (tlt (show (1 : Int32) < (3 : Int32) by decide)).2.2.2 k) ?_
                show Wp p e below _ (T_254.setTop (mkF m 348 LL255 []))
                refine Wp.step (fun t k => XS.aload X_254.here hx rfl (hb hby at_348) rfl rfl k) ?_
                show Wp p e below _ (T_254.setTop (mkF m 350 LL255 [(.ref b6)]))
                refine Wp.step (fun t k => XS.iconst X_254.here hx rfl (hb hby at_350) k) ?_
                show Wp p e below _ (T_254.setTop (mkF m 351 LL255 [(.int (1 : Int32)), (.ref b6)]))
                obtain ⟨cl273, Ar273, Sz273, Nn273, El273⟩ := id q1_254
                have hin273 : ¬ ((1 : Int32) < 0 ∨ cl273.slots.size ≤ ((1 : Int32)).toNatClampNeg) := inb_of Sz273 ⟨by decide, by decide⟩
                have hat273 : cl273.slots[((1 : Int32)).toNatClampNeg]? = some (.int (gt ((1 : Int32)).toNatClampNeg)) := (El273 _ (by have q := Nat.lt_of_not_le fun q => hin273 (Or.inr q); rw [Sz273] at q; exact q)).1
                rw [show (gt ((1 : Int32)).toNatClampNeg) = (gt 1) from rfl] at hat273
                refine Wp.step (X_254.iaload hx (j := (1 : Int32)) (v := (.int (gt 1))) (by rw [eT_254]; exact Ar273.1) (State.isArrayOf_alike hZ.alike Ar273.2.1) Ar273.2.2 hin273 hat273 (g := (mkF m 351 LL255 [(.int (1 : Int32)), (.ref b6)])) rfl rfl (hb hby at_351)) ?_
                show Wp p e below _ (T_254.setTop (mkF m 352 LL255 [(.int (gt 1))]))
                refine Wp.step (fun t k => XS.iload X_254.here hx rfl (hb hby at_352) rfl k) ?_
                show Wp p e below _ (T_254.setTop (mkF m 354 LL255 [(.int (Int32.ofNat qw)), (.int (gt 1))]))
                by_cases hc274 : (gt 1) = (Int32.ofNat qw)
                · refine Wp.step (fun t k => XS.icmpNo X_254.here hx rfl (hb hby at_354) rfl (teq hc274).2 k) ?_
                  show Wp p e below _ (T_254.setTop (mkF m 357 LL255 []))
                  refine Wp.step (fun t k => XS.aload X_254.here hx rfl (hb hby at_357) rfl rfl k) ?_
                  show Wp p e below _ (T_254.setTop (mkF m 359 LL255 [(.ref b1)]))
                  refine Wp.step (fun t k => XS.aload X_254.here hx rfl (hb hby at_359) rfl rfl k) ?_
                  show Wp p e below _ (T_254.setTop (mkF m 361 LL255 [(.ref b3), (.ref b1)]))
                  refine Wp.step (fun t k => XS.aload X_254.here hx rfl (hb hby at_361) rfl rfl k) ?_
                  show Wp p e below _ (T_254.setTop (mkF m 363 LL255 [(.ref b6), (.ref b3), (.ref b1)]))
                  refine Wp.step (fun t k => XS.iconst X_254.here hx rfl (hb hby at_363) k) ?_
                  show Wp p e below _ (T_254.setTop (mkF m 364 LL255 [(.int (1 : Int32)), (.ref b6), (.ref b3), (.ref b1)]))
                  refine Wp.step (fun t k => XS.iconst X_254.here hx rfl (hb hby at_364) k) ?_
                  show Wp p e below _ (T_254.setTop (mkF m 365 LL255 [(.int (0 : Int32)), (.int (1 : Int32)), (.ref b6), (.ref b3), (.ref b1)]))
                  obtain ⟨_, _, ⟨T275, L275, k275, n275⟩, -, X275, ⟨Lc275, hQ275, l275, y275, z275⟩, st275⟩ := Jvm.LawKit.callS X_254 hx (y := (⟨"com/example/erotema/erotema/model/ToldEdgesCountToPinLaw", "same", "([I[I[III)Z"⟩ : MethodName)) hown (mvT hZ (hw _ (List.mem_of_getElem? (i := 93) rfl))) (mvT hZ (hw _ (List.mem_of_getElem? (i := 94) rfl))) (mvT hZ (hw _ (List.mem_of_getElem? (i := 95) rfl))) (mvT hZ (hw _ (List.mem_of_getElem? (i := 96) rfl))) (by decide) (backOf (W := 0) (rm17 l Z a0 hw [] b1 b3 b6 (1 : Int32) (0 : Int32) gs gp gt 1 0 hh_254 n0 (Nat.le_trans Z0 KK_254.1) rfl rfl q0_254 q2_254 q1_254 (by decide) (by decide)) hZ (hw _ (List.mem_of_getElem? (i := 96) rfl)) (hw _ (List.mem_of_getElem? (i := 95) rfl)) (by decide) (by decide)) (g := (mkF m 365 LL255 [(.int (0 : Int32)), (.int (1 : Int32)), (.ref b6), (.ref b3), (.ref b1)])) rfl (by rw [hml]; rfl) (argsL := [(.ref b1), (.ref b3), (.ref b6), (.int (1 : Int32)), (.int (0 : Int32))]) (rest := []) (lenOf pd_285bI5bI5bIII29Z rfl) rfl (by show 2 * 0 + _ ≤ _; exact Nat.le_of_eq rfl) (hb hby at_365) (fun _ _ => ⟨rfl, eT_254, (by decide : 17 + 0 ≤ _), (by decide : 3142 + 0 ≤ _)⟩)
                  dsimp only [Pt.U, Pt.locs, Pt.cells, Pt.slots] at X275 l275 y275 z275 st275 hQ275
                  subst l275 y275 z275
                  obtain ⟨rfl, N275q, e275⟩ := hQ275
                  have N275 := Fr.app NN_254 N275q
                  refine Wp.step st275 ?_
                  show Wp p e below _ (T275.setTop (mkF m 368 LL255 [(.int (own_b (own_same gs gp gt 1 0)))]))
                  by_cases hc276 : (own_b (own_same gs gp gt 1 0)) = (0 : Int32)
                  · refine Wp.step (fun t k => XS.ifNo X275.here hx rfl (hb hby at_368) rfl ((if0 _ _).trans (teq hc276).2) k) ?_
                    show Wp p e below _ (T275.setTop (mkF m 371 LL255 []))
                    refine Wp.step (fun t k => XS.iinc X275.here hx rfl (hb hby at_371) rfl (l' := #[.val (.int p0), .val (.int p1), .val (.int p2), .val (.int p3), .val (.int p4), .val (.int p5), .val (.int (Int32.ofNat nw)), .val (.int (3 : Int32)), .val (.ref b1), .val (.ref b3), .val (.ref b6), .val (.int (Int32.ofNat qw)), .val (.ref b64), .val (.int (cv1 + (1 : Int32)))]) rfl k) ?_
                    show Wp p e below _ (T275.setTop (mkF m 374 #[.val (.int p0), .val (.int p1), .val (.int p2), .val (.int p3), .val (.int p4), .val (.int p5), .val (.int (Int32.ofNat nw)), .val (.int (3 : Int32)), .val (.ref b1), .val (.ref b3), .val (.ref b6), .val (.int (Int32.ofNat qw)), .val (.ref b64), .val (.int (cv1 + (1 : Int32)))] []))
                    exact kont256 _ _ _ T275 X275 e275 N275 KK_254 q0_254 q1_254 q2_254 q3_254 q4_254 q5_254 q6_254 q7_254 q8_254 q9_254 q10_254 (Eq.trans (congrArg (· + 1) hcv1) (own_ey_pos (S := gs) (R := gp) (T := gt) (q := (Int32.ofNat qw)) (c := 1) ⟨hc274, (own_aS own_a0 (own_b0.mp hc276))⟩).symm)
                  · refine Wp.step (fun t k => XS.ifYes X275.here hx rfl (pc0 := 368) (pc' := 374) rfl (hb hby at_368) rfl ((if0 _ _).trans (feq hc276).2) (by decide) (by decide) k) ?_
                    show Wp p e below _ (T275.setTop (mkF m 374 LL255 []))
                    exact kont256 _ _ _ T275 X275 e275 N275 KK_254 q0_254 q1_254 q2_254 q3_254 q4_254 q5_254 q6_254 q7_254 q8_254 q9_254 q10_254 (Eq.trans hcv1 (own_ey_neg (S := gs) (R := gp) (T := gt) (q := (Int32.ofNat qw)) (c := 1) (fun q => q.2 0 (by decide) (Classical.byContradiction fun z => hc276 (own_b0.mpr z)))).symm)
                · refine Wp.step (fun t k => XS.icmpYes X_254.here hx rfl (pc0 := 354) (pc' := 374) rfl (hb hby at_354) rfl (feq hc274).2 (by decide) (by decide) k) ?_
                  show Wp p e below _ (T_254.setTop (mkF m 374 LL255 []))
                  exact kont256 _ _ _ T_254 X_254 eT_254 NN_254 KK_254 q0_254 q1_254 q2_254 q3_254 q4_254 q5_254 q6_254 q7_254 q8_254 q9_254 q10_254 (Eq.trans hcv1 (own_ey_neg (S := gs) (R := gp) (T := gt) (q := (Int32.ofNat qw)) (c := 1) (fun q => hc274 q.1)).symm)
              refine Wp.step (fun t k => XS.iload X245.here hx rfl (hb hby at_325) rfl k) ?_
              show Wp p e below _ (T245.setTop (mkF m 327 LL253 [(.int (3 : Int32))]))
              refine Wp.step (fun t k => XS.ifNo X245.here hx rfl (hb hby at_327) rfl ((if0 _ _).trans (tlt (show (0 : Int32) < (3 : Int32) by decide)).2.2.2) k) ?_
              show Wp p e below _ (T245.setTop (mkF m 330 LL253 []))
              refine Wp.step (fun t k => XS.aload X245.here hx rfl (hb hby at_330) rfl rfl k) ?_
              show Wp p e below _ (T245.setTop (mkF m 332 LL253 [(.ref b6)]))
              refine Wp.step (fun t k => XS.iconst X245.here hx rfl (hb hby at_332) k) ?_
              show Wp p e below _ (T245.setTop (mkF m 333 LL253 [(.int (0 : Int32)), (.ref b6)]))
              obtain ⟨cl278, Ar278, Sz278, Nn278, El278⟩ := id B247
              have hin278 : ¬ ((0 : Int32) < 0 ∨ cl278.slots.size ≤ ((0 : Int32)).toNatClampNeg) := inb_of Sz278 ⟨by decide, by decide⟩
              have hat278 : cl278.slots[((0 : Int32)).toNatClampNeg]? = some (.int (gt ((0 : Int32)).toNatClampNeg)) := (El278 _ (by have q := Nat.lt_of_not_le fun q => hin278 (Or.inr q); rw [Sz278] at q; exact q)).1
              rw [show (gt ((0 : Int32)).toNatClampNeg) = (gt 0) from rfl] at hat278
              refine Wp.step (X245.iaload hx (j := (0 : Int32)) (v := (.int (gt 0))) (by rw [e245]; exact Ar278.1) (State.isArrayOf_alike hZ.alike Ar278.2.1) Ar278.2.2 hin278 hat278 (g := (mkF m 333 LL253 [(.int (0 : Int32)), (.ref b6)])) rfl rfl (hb hby at_333)) ?_
              show Wp p e below _ (T245.setTop (mkF m 334 LL253 [(.int (gt 0))]))
              refine Wp.step (fun t k => XS.iload X245.here hx rfl (hb hby at_334) rfl k) ?_
              show Wp p e below _ (T245.setTop (mkF m 336 LL253 [(.int (Int32.ofNat qw)), (.int (gt 0))]))
              by_cases hc279 : (gt 0) = (Int32.ofNat qw)
              · refine Wp.step (fun t k => XS.icmpNo X245.here hx rfl (hb hby at_336) rfl (teq hc279).2 k) ?_
                show Wp p e below _ (T245.setTop (mkF m 339 LL253 []))
                refine Wp.step (fun t k => XS.iinc X245.here hx rfl (hb hby at_339) rfl (l' := #[.val (.int p0), .val (.int p1), .val (.int p2), .val (.int p3), .val (.int p4), .val (.int p5), .val (.int (Int32.ofNat nw)), .val (.int (3 : Int32)), .val (.ref b1), .val (.ref b3), .val (.ref b6), .val (.int (Int32.ofNat qw)), .val (.ref b64), .val (.int ((0 : Int32) + (1 : Int32)))]) rfl k) ?_
                show Wp p e below _ (T245.setTop (mkF m 342 #[.val (.int p0), .val (.int p1), .val (.int p2), .val (.int p3), .val (.int p4), .val (.int p5), .val (.int (Int32.ofNat nw)), .val (.int (3 : Int32)), .val (.ref b1), .val (.ref b3), .val (.ref b6), .val (.int (Int32.ofNat qw)), .val (.ref b64), .val (.int ((0 : Int32) + (1 : Int32)))] []))
                exact kont254 _ _ _ T245 X245 e245 N245 K245 B246 B247 B248 cE245 B250 B251 B252 cs245 ct245 Bs245 Bt245 (Eq.trans (congrArg (· + 1) (show (0 : Int32) = own_ey gs gp gt (Int32.ofNat qw) 0 from rfl)) (own_ey_pos (S := gs) (R := gp) (T := gt) (q := (Int32.ofNat qw)) (c := 0) ⟨hc279, own_a0⟩).symm)
              · refine Wp.step (fun t k => XS.icmpYes X245.here hx rfl (pc0 := 336) (pc' := 342) rfl (hb hby at_336) rfl (feq hc279).2 (by decide) (by decide) k) ?_
                show Wp p e below _ (T245.setTop (mkF m 342 LL253 []))
                exact kont254 _ _ _ T245 X245 e245 N245 K245 B246 B247 B248 cE245 B250 B251 B252 cs245 ct245 Bs245 Bt245 (Eq.trans rfl (own_ey_neg (S := gs) (R := gp) (T := gt) (q := (Int32.ofNat qw)) (c := 0) (fun q => hc279 q.1)).symm)
            · show Wp p e below _ (T77.setTop (mkF m 224 #[.val (.int p0), .val (.int p1), .val (.int p2), .val (.int p3), .val (.int p4), .val (.int p5), .val (.int (Int32.ofNat nw)), .val (.int (4 : Int32)), .val (.ref b1), .val (.ref b3), .val (.ref b6), .val (.int (Int32.ofNat qw)), .val (.ref b64), .unset] []))
              let LL280 : Array Slot := #[.val (.int p0), .val (.int p1), .val (.int p2), .val (.int p3), .val (.int p4), .val (.int p5), .val (.int (Int32.ofNat nw)), .val (.int (4 : Int32)), .val (.ref b1), .val (.ref b3), .val (.ref b6), .val (.int (Int32.ofNat qw)), .val (.ref b64), .unset]
              show Wp p e below _ (T77.setTop (mkF m 224 LL280 []))
              refine Wp.step (fun t k => XS.iload X77.here hx rfl (hb hby at_224) rfl k) ?_
              show Wp p e below _ (T77.setTop (mkF m 226 LL280 [(.int (4 : Int32))]))
              refine Wp.step (fun t k => XS.ifNo X77.here hx rfl (hb hby at_226) rfl ((if0 _ _).trans (tlt (show (0 : Int32) < (4 : Int32) by decide)).2.2.2) k) ?_
              show Wp p e below _ (T77.setTop (mkF m 229 LL280 []))
              refine Wp.step (fun t k => XS.aload X77.here hx rfl (hb hby at_229) rfl rfl k) ?_
              show Wp p e below _ (T77.setTop (mkF m 231 LL280 [(.ref b64)]))
              refine Wp.step (fun t k => XS.aload X77.here hx rfl (hb hby at_231) rfl rfl k) ?_
              show Wp p e below _ (T77.setTop (mkF m 233 LL280 [(.ref b1), (.ref b64)]))
              refine Wp.step (fun t k => XS.iconst X77.here hx rfl (hb hby at_233) k) ?_
              show Wp p e below _ (T77.setTop (mkF m 234 LL280 [(.int (0 : Int32)), (.ref b1), (.ref b64)]))
              obtain ⟨cl282, Ar282, Sz282, Nn282, El282⟩ := id B78
              have hin282 : ¬ ((0 : Int32) < 0 ∨ cl282.slots.size ≤ ((0 : Int32)).toNatClampNeg) := inb_of Sz282 ⟨by decide, by decide⟩
              have hat282 : cl282.slots[((0 : Int32)).toNatClampNeg]? = some (.int (gs ((0 : Int32)).toNatClampNeg)) := (El282 _ (by have q := Nat.lt_of_not_le fun q => hin282 (Or.inr q); rw [Sz282] at q; exact q)).1
              rw [show (gs ((0 : Int32)).toNatClampNeg) = (gs 0) from rfl] at hat282
              rw [show (gs 0) = (Int32.ofNat k0) from (by rw [hgs]; rfl)] at hat282
              refine Wp.step (X77.iaload hx (j := (0 : Int32)) (v := (.int (Int32.ofNat k0))) (by rw [e77]; exact Ar282.1) (State.isArrayOf_alike hZ.alike Ar282.2.1) Ar282.2.2 hin282 hat282 (g := (mkF m 234 LL280 [(.int (0 : Int32)), (.ref b1), (.ref b64)])) rfl rfl (hb hby at_234)) ?_
              show Wp p e below _ (T77.setTop (mkF m 235 LL280 [(.int (Int32.ofNat k0)), (.ref b64)]))
              refine Wp.step (fun t k => XS.aload X77.here hx rfl (hb hby at_235) rfl rfl k) ?_
              show Wp p e below _ (T77.setTop (mkF m 237 LL280 [(.ref b3), (.int (Int32.ofNat k0)), (.ref b64)]))
              refine Wp.step (fun t k => XS.iconst X77.here hx rfl (hb hby at_237) k) ?_
              show Wp p e below _ (T77.setTop (mkF m 238 LL280 [(.int (0 : Int32)), (.ref b3), (.int (Int32.ofNat k0)), (.ref b64)]))
              obtain ⟨cl283, Ar283, Sz283, Nn283, El283⟩ := id B80
              have hin283 : ¬ ((0 : Int32) < 0 ∨ cl283.slots.size ≤ ((0 : Int32)).toNatClampNeg) := inb_of Sz283 ⟨by decide, by decide⟩
              have hat283 : cl283.slots[((0 : Int32)).toNatClampNeg]? = some (.int (gp ((0 : Int32)).toNatClampNeg)) := (El283 _ (by have q := Nat.lt_of_not_le fun q => hin283 (Or.inr q); rw [Sz283] at q; exact q)).1
              rw [show (gp ((0 : Int32)).toNatClampNeg) = (gp 0) from rfl] at hat283
              rw [show (gp 0) = rr0 from (by rw [hgp]; rfl)] at hat283
              refine Wp.step (X77.iaload hx (j := (0 : Int32)) (v := (.int rr0)) (by rw [e77]; exact Ar283.1) (State.isArrayOf_alike hZ.alike Ar283.2.1) Ar283.2.2 hin283 hat283 (g := (mkF m 238 LL280 [(.int (0 : Int32)), (.ref b3), (.int (Int32.ofNat k0)), (.ref b64)])) rfl rfl (hb hby at_238)) ?_
              show Wp p e below _ (T77.setTop (mkF m 239 LL280 [(.int rr0), (.int (Int32.ofNat k0)), (.ref b64)]))
              refine Wp.step (fun t k => XS.aload X77.here hx rfl (hb hby at_239) rfl rfl k) ?_
              show Wp p e below _ (T77.setTop (mkF m 241 LL280 [(.ref b6), (.int rr0), (.int (Int32.ofNat k0)), (.ref b64)]))
              refine Wp.step (fun t k => XS.iconst X77.here hx rfl (hb hby at_241) k) ?_
              show Wp p e below _ (T77.setTop (mkF m 242 LL280 [(.int (0 : Int32)), (.ref b6), (.int rr0), (.int (Int32.ofNat k0)), (.ref b64)]))
              obtain ⟨cl284, Ar284, Sz284, Nn284, El284⟩ := id B79
              have hin284 : ¬ ((0 : Int32) < 0 ∨ cl284.slots.size ≤ ((0 : Int32)).toNatClampNeg) := inb_of Sz284 ⟨by decide, by decide⟩
              have hat284 : cl284.slots[((0 : Int32)).toNatClampNeg]? = some (.int (gt ((0 : Int32)).toNatClampNeg)) := (El284 _ (by have q := Nat.lt_of_not_le fun q => hin284 (Or.inr q); rw [Sz284] at q; exact q)).1
              rw [show (gt ((0 : Int32)).toNatClampNeg) = (gt 0) from rfl] at hat284
              rw [show (gt 0) = (Int32.ofNat l0) from (by rw [hgt]; rfl)] at hat284
              refine Wp.step (X77.iaload hx (j := (0 : Int32)) (v := (.int (Int32.ofNat l0))) (by rw [e77]; exact Ar284.1) (State.isArrayOf_alike hZ.alike Ar284.2.1) Ar284.2.2 hin284 hat284 (g := (mkF m 242 LL280 [(.int (0 : Int32)), (.ref b6), (.int rr0), (.int (Int32.ofNat k0)), (.ref b64)])) rfl rfl (hb hby at_242)) ?_
              show Wp p e below _ (T77.setTop (mkF m 243 LL280 [(.int (Int32.ofNat l0)), (.int rr0), (.int (Int32.ofNat k0)), (.ref b64)]))
              obtain ⟨cq285, kq285, q285a, q285b, q285c⟩ := isOf hZ e77 cE77
              obtain ⟨_, _, ⟨T285, L285, k285, n285⟩, -, X285, ⟨Lc285, hQ285, l285, y285, z285⟩, st285⟩ := X77.virtualBack hx (y := (⟨"com/example/erotema/erotema/model/ToldEdges", "add", "(III)V"⟩ : MethodName)) (z := (⟨"com/example/erotema/erotema/model/ToldEdges", "add", "(III)V"⟩ : MethodName)) hown (mvT hZ (hw _ (List.mem_of_getElem? (i := 81) rfl))) (mvT hZ (hw _ (List.mem_of_getElem? (i := 82) rfl))) (notFace_of_selects (args := #[]) (mvT hZ (hw _ (List.mem_of_getElem? (i := 84) rfl)))) (mvT hZ (hw _ (List.mem_of_getElem? (i := 84) rfl))) (mvT hZ (hw _ (List.mem_of_getElem? (i := 83) rfl))) (by decide) (backOf (W := 0) (rm14 l Z a0 hw [] b64 (Int32.ofNat k0) rr0 (Int32.ofNat l0) b77_1 b77_2 b77_3 0 (fun _ => (0 : Int32)) (fun _ => (0 : Int32)) (fun _ => (0 : Int32)) h77 n0 (Nat.le_trans Z0 K77.1) g_b64 cE77 c77_sources c77_properties c77_targets c77_added c77_bySourceStart c77_bySource c77_byTargetStart c77_byTarget g_b77_1 g_b77_2 g_b77_3 (Ne.symm ne_b64_b77_1) (Ne.symm ne_b64_b77_2) (Ne.symm ne_b64_b77_3) nb12 nb13 nb23 Bb77_1 Bb77_2 Bb77_3 (by omega)) hZ (hw _ (List.mem_of_getElem? (i := 85) rfl)) (hw _ (List.mem_of_getElem? (i := 3) rfl)) (by decide) (by decide)) q285a q285c (g := (mkF m 243 LL280 [(.int (Int32.ofNat l0)), (.int rr0), (.int (Int32.ofNat k0)), (.ref b64)])) rfl (by rw [hml]; rfl) (Steps.refl _) (argsL := [(.int (Int32.ofNat k0)), (.int rr0), (.int (Int32.ofNat l0))]) (rest := []) (lenOf pd_28III29V rfl) rfl (by show 2 * 0 + _ ≤ _; exact Nat.le_of_eq rfl) (hb hby at_243) (fun _ _ => ⟨rfl, e77, (by decide : 7 + 0 ≤ _), (by decide : 3092 + 0 ≤ _)⟩)
              dsimp only [Pt.U, Pt.locs, Pt.cells, Pt.slots] at X285 l285 y285 z285 st285 hQ285
              subst l285 y285 z285
              obtain ⟨h285, e285⟩ : ∃ z, T285.heap = z := ⟨_, rfl⟩
              rw [e285] at hQ285
              obtain ⟨rfl, N285q, Kc285, cE285, c285_sources, c285_properties, c285_targets, c285_added, c285_bySourceStart, c285_bySource, c285_byTargetStart, c285_byTarget, Ba285, Bb285, Bc285⟩ := hQ285
              have N285 := Fr.app N77 N285q
              have B286 := B78.keep Kc285 (ninS ne_b1_b64 (ninS ne_b1_b77_1 (ninS ne_b1_b77_2 (ninS ne_b1_b77_3 nin0))))
              have B287 := B79.keep Kc285 (ninS ne_b6_b64 (ninS ne_b6_b77_1 (ninS ne_b6_b77_2 (ninS ne_b6_b77_3 nin0))))
              have B288 := B80.keep Kc285 (ninS ne_b3_b64 (ninS ne_b3_b77_1 (ninS ne_b3_b77_2 (ninS ne_b3_b77_3 nin0))))
              have c289 := cE77.keep Kc285
              have K285 := K77.trans Kc285 (allS (Or.inr sz_b64) (allS (Or.inr sz_b77_1) (allS (Or.inr sz_b77_2) (allS (Or.inr sz_b77_3) all0))))
              refine Wp.go st285 ?_
              show Wp p e below _ (T285.setTop (mkF m 246 LL280 []))
              refine Wp.step (fun t k => XS.iload X285.here hx rfl (hb hby at_246) rfl k) ?_
              show Wp p e below _ (T285.setTop (mkF m 248 LL280 [(.int (4 : Int32))]))
              refine Wp.step (fun t k => XS.iconst X285.here hx rfl (hb hby at_248) k) ?_
              show Wp p e below _ (T285.setTop (mkF m 249 LL280 [(.int (1 : Int32)), (.int (4 : Int32))]))
              refine Wp.step (fun t k => XS.icmpNo X285.here hx rfl (hb hby at_249) rfl (tlt (show (1 : Int32) < (4 : Int32) by decide)).2.2.2 k) ?_
              show Wp p e below _ (T285.setTop (mkF m 252 LL280 []))
              refine Wp.step (fun t k => XS.aload X285.here hx rfl (hb hby at_252) rfl rfl k) ?_
              show Wp p e below _ (T285.setTop (mkF m 254 LL280 [(.ref b64)]))
              refine Wp.step (fun t k => XS.aload X285.here hx rfl (hb hby at_254) rfl rfl k) ?_
              show Wp p e below _ (T285.setTop (mkF m 256 LL280 [(.ref b1), (.ref b64)]))
              refine Wp.step (fun t k => XS.iconst X285.here hx rfl (hb hby at_256) k) ?_
              show Wp p e below _ (T285.setTop (mkF m 257 LL280 [(.int (1 : Int32)), (.ref b1), (.ref b64)]))
              obtain ⟨cl294, Ar294, Sz294, Nn294, El294⟩ := id B286
              have hin294 : ¬ ((1 : Int32) < 0 ∨ cl294.slots.size ≤ ((1 : Int32)).toNatClampNeg) := inb_of Sz294 ⟨by decide, by decide⟩
              have hat294 : cl294.slots[((1 : Int32)).toNatClampNeg]? = some (.int (gs ((1 : Int32)).toNatClampNeg)) := (El294 _ (by have q := Nat.lt_of_not_le fun q => hin294 (Or.inr q); rw [Sz294] at q; exact q)).1
              rw [show (gs ((1 : Int32)).toNatClampNeg) = (gs 1) from rfl] at hat294
              rw [show (gs 1) = (Int32.ofNat k1) from (by rw [hgs]; rfl)] at hat294
              refine Wp.step (X285.iaload hx (j := (1 : Int32)) (v := (.int (Int32.ofNat k1))) (by rw [e285]; exact Ar294.1) (State.isArrayOf_alike hZ.alike Ar294.2.1) Ar294.2.2 hin294 hat294 (g := (mkF m 257 LL280 [(.int (1 : Int32)), (.ref b1), (.ref b64)])) rfl rfl (hb hby at_257)) ?_
              show Wp p e below _ (T285.setTop (mkF m 258 LL280 [(.int (Int32.ofNat k1)), (.ref b64)]))
              refine Wp.step (fun t k => XS.aload X285.here hx rfl (hb hby at_258) rfl rfl k) ?_
              show Wp p e below _ (T285.setTop (mkF m 260 LL280 [(.ref b3), (.int (Int32.ofNat k1)), (.ref b64)]))
              refine Wp.step (fun t k => XS.iconst X285.here hx rfl (hb hby at_260) k) ?_
              show Wp p e below _ (T285.setTop (mkF m 261 LL280 [(.int (1 : Int32)), (.ref b3), (.int (Int32.ofNat k1)), (.ref b64)]))
              obtain ⟨cl295, Ar295, Sz295, Nn295, El295⟩ := id B288
              have hin295 : ¬ ((1 : Int32) < 0 ∨ cl295.slots.size ≤ ((1 : Int32)).toNatClampNeg) := inb_of Sz295 ⟨by decide, by decide⟩
              have hat295 : cl295.slots[((1 : Int32)).toNatClampNeg]? = some (.int (gp ((1 : Int32)).toNatClampNeg)) := (El295 _ (by have q := Nat.lt_of_not_le fun q => hin295 (Or.inr q); rw [Sz295] at q; exact q)).1
              rw [show (gp ((1 : Int32)).toNatClampNeg) = (gp 1) from rfl] at hat295
              rw [show (gp 1) = rr1 from (by rw [hgp]; rfl)] at hat295
              refine Wp.step (X285.iaload hx (j := (1 : Int32)) (v := (.int rr1)) (by rw [e285]; exact Ar295.1) (State.isArrayOf_alike hZ.alike Ar295.2.1) Ar295.2.2 hin295 hat295 (g := (mkF m 261 LL280 [(.int (1 : Int32)), (.ref b3), (.int (Int32.ofNat k1)), (.ref b64)])) rfl rfl (hb hby at_261)) ?_
              show Wp p e below _ (T285.setTop (mkF m 262 LL280 [(.int rr1), (.int (Int32.ofNat k1)), (.ref b64)]))
              refine Wp.step (fun t k => XS.aload X285.here hx rfl (hb hby at_262) rfl rfl k) ?_
              show Wp p e below _ (T285.setTop (mkF m 264 LL280 [(.ref b6), (.int rr1), (.int (Int32.ofNat k1)), (.ref b64)]))
              refine Wp.step (fun t k => XS.iconst X285.here hx rfl (hb hby at_264) k) ?_
              show Wp p e below _ (T285.setTop (mkF m 265 LL280 [(.int (1 : Int32)), (.ref b6), (.int rr1), (.int (Int32.ofNat k1)), (.ref b64)]))
              obtain ⟨cl296, Ar296, Sz296, Nn296, El296⟩ := id B287
              have hin296 : ¬ ((1 : Int32) < 0 ∨ cl296.slots.size ≤ ((1 : Int32)).toNatClampNeg) := inb_of Sz296 ⟨by decide, by decide⟩
              have hat296 : cl296.slots[((1 : Int32)).toNatClampNeg]? = some (.int (gt ((1 : Int32)).toNatClampNeg)) := (El296 _ (by have q := Nat.lt_of_not_le fun q => hin296 (Or.inr q); rw [Sz296] at q; exact q)).1
              rw [show (gt ((1 : Int32)).toNatClampNeg) = (gt 1) from rfl] at hat296
              rw [show (gt 1) = (Int32.ofNat l1) from (by rw [hgt]; rfl)] at hat296
              refine Wp.step (X285.iaload hx (j := (1 : Int32)) (v := (.int (Int32.ofNat l1))) (by rw [e285]; exact Ar296.1) (State.isArrayOf_alike hZ.alike Ar296.2.1) Ar296.2.2 hin296 hat296 (g := (mkF m 265 LL280 [(.int (1 : Int32)), (.ref b6), (.int rr1), (.int (Int32.ofNat k1)), (.ref b64)])) rfl rfl (hb hby at_265)) ?_
              show Wp p e below _ (T285.setTop (mkF m 266 LL280 [(.int (Int32.ofNat l1)), (.int rr1), (.int (Int32.ofNat k1)), (.ref b64)]))
              obtain ⟨cq297, kq297, q297a, q297b, q297c⟩ := isOf hZ e285 cE285
              obtain ⟨_, _, ⟨T297, L297, k297, n297⟩, -, X297, ⟨Lc297, hQ297, l297, y297, z297⟩, st297⟩ := X285.virtualBack hx (y := (⟨"com/example/erotema/erotema/model/ToldEdges", "add", "(III)V"⟩ : MethodName)) (z := (⟨"com/example/erotema/erotema/model/ToldEdges", "add", "(III)V"⟩ : MethodName)) hown (mvT hZ (hw _ (List.mem_of_getElem? (i := 81) rfl))) (mvT hZ (hw _ (List.mem_of_getElem? (i := 82) rfl))) (notFace_of_selects (args := #[]) (mvT hZ (hw _ (List.mem_of_getElem? (i := 84) rfl)))) (mvT hZ (hw _ (List.mem_of_getElem? (i := 84) rfl))) (mvT hZ (hw _ (List.mem_of_getElem? (i := 83) rfl))) (by decide) (backOf (W := 0) (rm14 l Z a0 hw [] b64 (Int32.ofNat k1) rr1 (Int32.ofNat l1) b77_1 b77_2 b77_3 1 (own_upd (fun _ => (0 : Int32)) 0 (Int32.ofNat k0)) (own_upd (fun _ => (0 : Int32)) 0 rr0) (own_upd (fun _ => (0 : Int32)) 0 (Int32.ofNat l0)) h285 n0 (Nat.le_trans Z0 K285.1) g_b64 cE285 c285_sources c285_properties c285_targets c285_added c285_bySourceStart c285_bySource c285_byTargetStart c285_byTarget g_b77_1 g_b77_2 g_b77_3 (Ne.symm ne_b64_b77_1) (Ne.symm ne_b64_b77_2) (Ne.symm ne_b64_b77_3) nb12 nb13 nb23 Ba285 Bb285 Bc285 (by omega)) hZ (hw _ (List.mem_of_getElem? (i := 85) rfl)) (hw _ (List.mem_of_getElem? (i := 3) rfl)) (by decide) (by decide)) q297a q297c (g := (mkF m 266 LL280 [(.int (Int32.ofNat l1)), (.int rr1), (.int (Int32.ofNat k1)), (.ref b64)])) rfl (by rw [hml]; rfl) (Steps.refl _) (argsL := [(.int (Int32.ofNat k1)), (.int rr1), (.int (Int32.ofNat l1))]) (rest := []) (lenOf pd_28III29V rfl) rfl (by show 2 * 0 + _ ≤ _; exact Nat.le_of_eq rfl) (hb hby at_266) (fun _ _ => ⟨rfl, e285, (by decide : 7 + 0 ≤ _), (by decide : 3092 + 0 ≤ _)⟩)
              dsimp only [Pt.U, Pt.locs, Pt.cells, Pt.slots] at X297 l297 y297 z297 st297 hQ297
              subst l297 y297 z297
              obtain ⟨h297, e297⟩ : ∃ z, T297.heap = z := ⟨_, rfl⟩
              rw [e297] at hQ297
              obtain ⟨rfl, N297q, Kc297, cE297, c297_sources, c297_properties, c297_targets, c297_added, c297_bySourceStart, c297_bySource, c297_byTargetStart, c297_byTarget, Ba297, Bb297, Bc297⟩ := hQ297
              have N297 := Fr.app N285 N297q
              have B298 := B286.keep Kc297 (ninS ne_b1_b64 (ninS ne_b1_b77_1 (ninS ne_b1_b77_2 (ninS ne_b1_b77_3 nin0))))
              have B299 := B287.keep Kc297 (ninS ne_b6_b64 (ninS ne_b6_b77_1 (ninS ne_b6_b77_2 (ninS ne_b6_b77_3 nin0))))
              have B300 := B288.keep Kc297 (ninS ne_b3_b64 (ninS ne_b3_b77_1 (ninS ne_b3_b77_2 (ninS ne_b3_b77_3 nin0))))
              have c301 := cE285.keep Kc297
              have K297 := K285.trans Kc297 (allS (Or.inr sz_b64) (allS (Or.inr sz_b77_1) (allS (Or.inr sz_b77_2) (allS (Or.inr sz_b77_3) all0))))
              refine Wp.go st297 ?_
              show Wp p e below _ (T297.setTop (mkF m 269 LL280 []))
              refine Wp.step (fun t k => XS.iload X297.here hx rfl (hb hby at_269) rfl k) ?_
              show Wp p e below _ (T297.setTop (mkF m 271 LL280 [(.int (4 : Int32))]))
              refine Wp.step (fun t k => XS.iconst X297.here hx rfl (hb hby at_271) k) ?_
              show Wp p e below _ (T297.setTop (mkF m 272 LL280 [(.int (2 : Int32)), (.int (4 : Int32))]))
              refine Wp.step (fun t k => XS.icmpNo X297.here hx rfl (hb hby at_272) rfl (tlt (show (2 : Int32) < (4 : Int32) by decide)).2.2.2 k) ?_
              show Wp p e below _ (T297.setTop (mkF m 275 LL280 []))
              refine Wp.step (fun t k => XS.aload X297.here hx rfl (hb hby at_275) rfl rfl k) ?_
              show Wp p e below _ (T297.setTop (mkF m 277 LL280 [(.ref b64)]))
              refine Wp.step (fun t k => XS.aload X297.here hx rfl (hb hby at_277) rfl rfl k) ?_
              show Wp p e below _ (T297.setTop (mkF m 279 LL280 [(.ref b1), (.ref b64)]))
              refine Wp.step (fun t k => XS.iconst X297.here hx rfl (hb hby at_279) k) ?_
              show Wp p e below _ (T297.setTop (mkF m 280 LL280 [(.int (2 : Int32)), (.ref b1), (.ref b64)]))
              obtain ⟨cl306, Ar306, Sz306, Nn306, El306⟩ := id B298
              have hin306 : ¬ ((2 : Int32) < 0 ∨ cl306.slots.size ≤ ((2 : Int32)).toNatClampNeg) := inb_of Sz306 ⟨by decide, by decide⟩
              have hat306 : cl306.slots[((2 : Int32)).toNatClampNeg]? = some (.int (gs ((2 : Int32)).toNatClampNeg)) := (El306 _ (by have q := Nat.lt_of_not_le fun q => hin306 (Or.inr q); rw [Sz306] at q; exact q)).1
              rw [show (gs ((2 : Int32)).toNatClampNeg) = (gs 2) from rfl] at hat306
              rw [show (gs 2) = (Int32.ofNat k2) from (by rw [hgs]; rfl)] at hat306
              refine Wp.step (X297.iaload hx (j := (2 : Int32)) (v := (.int (Int32.ofNat k2))) (by rw [e297]; exact Ar306.1) (State.isArrayOf_alike hZ.alike Ar306.2.1) Ar306.2.2 hin306 hat306 (g := (mkF m 280 LL280 [(.int (2 : Int32)), (.ref b1), (.ref b64)])) rfl rfl (hb hby at_280)) ?_
              show Wp p e below _ (T297.setTop (mkF m 281 LL280 [(.int (Int32.ofNat k2)), (.ref b64)]))
              refine Wp.step (fun t k => XS.aload X297.here hx rfl (hb hby at_281) rfl rfl k) ?_
              show Wp p e below _ (T297.setTop (mkF m 283 LL280 [(.ref b3), (.int (Int32.ofNat k2)), (.ref b64)]))
              refine Wp.step (fun t k => XS.iconst X297.here hx rfl (hb hby at_283) k) ?_
              show Wp p e below _ (T297.setTop (mkF m 284 LL280 [(.int (2 : Int32)), (.ref b3), (.int (Int32.ofNat k2)), (.ref b64)]))
              obtain ⟨cl307, Ar307, Sz307, Nn307, El307⟩ := id B300
              have hin307 : ¬ ((2 : Int32) < 0 ∨ cl307.slots.size ≤ ((2 : Int32)).toNatClampNeg) := inb_of Sz307 ⟨by decide, by decide⟩
              have hat307 : cl307.slots[((2 : Int32)).toNatClampNeg]? = some (.int (gp ((2 : Int32)).toNatClampNeg)) := (El307 _ (by have q := Nat.lt_of_not_le fun q => hin307 (Or.inr q); rw [Sz307] at q; exact q)).1
              rw [show (gp ((2 : Int32)).toNatClampNeg) = (gp 2) from rfl] at hat307
              rw [show (gp 2) = rr2 from (by rw [hgp]; rfl)] at hat307
              refine Wp.step (X297.iaload hx (j := (2 : Int32)) (v := (.int rr2)) (by rw [e297]; exact Ar307.1) (State.isArrayOf_alike hZ.alike Ar307.2.1) Ar307.2.2 hin307 hat307 (g := (mkF m 284 LL280 [(.int (2 : Int32)), (.ref b3), (.int (Int32.ofNat k2)), (.ref b64)])) rfl rfl (hb hby at_284)) ?_
              show Wp p e below _ (T297.setTop (mkF m 285 LL280 [(.int rr2), (.int (Int32.ofNat k2)), (.ref b64)]))
              refine Wp.step (fun t k => XS.aload X297.here hx rfl (hb hby at_285) rfl rfl k) ?_
              show Wp p e below _ (T297.setTop (mkF m 287 LL280 [(.ref b6), (.int rr2), (.int (Int32.ofNat k2)), (.ref b64)]))
              refine Wp.step (fun t k => XS.iconst X297.here hx rfl (hb hby at_287) k) ?_
              show Wp p e below _ (T297.setTop (mkF m 288 LL280 [(.int (2 : Int32)), (.ref b6), (.int rr2), (.int (Int32.ofNat k2)), (.ref b64)]))
              obtain ⟨cl308, Ar308, Sz308, Nn308, El308⟩ := id B299
              have hin308 : ¬ ((2 : Int32) < 0 ∨ cl308.slots.size ≤ ((2 : Int32)).toNatClampNeg) := inb_of Sz308 ⟨by decide, by decide⟩
              have hat308 : cl308.slots[((2 : Int32)).toNatClampNeg]? = some (.int (gt ((2 : Int32)).toNatClampNeg)) := (El308 _ (by have q := Nat.lt_of_not_le fun q => hin308 (Or.inr q); rw [Sz308] at q; exact q)).1
              rw [show (gt ((2 : Int32)).toNatClampNeg) = (gt 2) from rfl] at hat308
              rw [show (gt 2) = (Int32.ofNat l2) from (by rw [hgt]; rfl)] at hat308
              refine Wp.step (X297.iaload hx (j := (2 : Int32)) (v := (.int (Int32.ofNat l2))) (by rw [e297]; exact Ar308.1) (State.isArrayOf_alike hZ.alike Ar308.2.1) Ar308.2.2 hin308 hat308 (g := (mkF m 288 LL280 [(.int (2 : Int32)), (.ref b6), (.int rr2), (.int (Int32.ofNat k2)), (.ref b64)])) rfl rfl (hb hby at_288)) ?_
              show Wp p e below _ (T297.setTop (mkF m 289 LL280 [(.int (Int32.ofNat l2)), (.int rr2), (.int (Int32.ofNat k2)), (.ref b64)]))
              obtain ⟨cq309, kq309, q309a, q309b, q309c⟩ := isOf hZ e297 cE297
              obtain ⟨_, _, ⟨T309, L309, k309, n309⟩, -, X309, ⟨Lc309, hQ309, l309, y309, z309⟩, st309⟩ := X297.virtualBack hx (y := (⟨"com/example/erotema/erotema/model/ToldEdges", "add", "(III)V"⟩ : MethodName)) (z := (⟨"com/example/erotema/erotema/model/ToldEdges", "add", "(III)V"⟩ : MethodName)) hown (mvT hZ (hw _ (List.mem_of_getElem? (i := 81) rfl))) (mvT hZ (hw _ (List.mem_of_getElem? (i := 82) rfl))) (notFace_of_selects (args := #[]) (mvT hZ (hw _ (List.mem_of_getElem? (i := 84) rfl)))) (mvT hZ (hw _ (List.mem_of_getElem? (i := 84) rfl))) (mvT hZ (hw _ (List.mem_of_getElem? (i := 83) rfl))) (by decide) (backOf (W := 0) (rm14 l Z a0 hw [] b64 (Int32.ofNat k2) rr2 (Int32.ofNat l2) b77_1 b77_2 b77_3 2 (own_upd (own_upd (fun _ => (0 : Int32)) 0 (Int32.ofNat k0)) 1 (Int32.ofNat k1)) (own_upd (own_upd (fun _ => (0 : Int32)) 0 rr0) 1 rr1) (own_upd (own_upd (fun _ => (0 : Int32)) 0 (Int32.ofNat l0)) 1 (Int32.ofNat l1)) h297 n0 (Nat.le_trans Z0 K297.1) g_b64 cE297 c297_sources c297_properties c297_targets c297_added c297_bySourceStart c297_bySource c297_byTargetStart c297_byTarget g_b77_1 g_b77_2 g_b77_3 (Ne.symm ne_b64_b77_1) (Ne.symm ne_b64_b77_2) (Ne.symm ne_b64_b77_3) nb12 nb13 nb23 Ba297 Bb297 Bc297 (by omega)) hZ (hw _ (List.mem_of_getElem? (i := 85) rfl)) (hw _ (List.mem_of_getElem? (i := 3) rfl)) (by decide) (by decide)) q309a q309c (g := (mkF m 289 LL280 [(.int (Int32.ofNat l2)), (.int rr2), (.int (Int32.ofNat k2)), (.ref b64)])) rfl (by rw [hml]; rfl) (Steps.refl _) (argsL := [(.int (Int32.ofNat k2)), (.int rr2), (.int (Int32.ofNat l2))]) (rest := []) (lenOf pd_28III29V rfl) rfl (by show 2 * 0 + _ ≤ _; exact Nat.le_of_eq rfl) (hb hby at_289) (fun _ _ => ⟨rfl, e297, (by decide : 7 + 0 ≤ _), (by decide : 3092 + 0 ≤ _)⟩)
              dsimp only [Pt.U, Pt.locs, Pt.cells, Pt.slots] at X309 l309 y309 z309 st309 hQ309
              subst l309 y309 z309
              obtain ⟨h309, e309⟩ : ∃ z, T309.heap = z := ⟨_, rfl⟩
              rw [e309] at hQ309
              obtain ⟨rfl, N309q, Kc309, cE309, c309_sources, c309_properties, c309_targets, c309_added, c309_bySourceStart, c309_bySource, c309_byTargetStart, c309_byTarget, Ba309, Bb309, Bc309⟩ := hQ309
              have N309 := Fr.app N297 N309q
              have B310 := B298.keep Kc309 (ninS ne_b1_b64 (ninS ne_b1_b77_1 (ninS ne_b1_b77_2 (ninS ne_b1_b77_3 nin0))))
              have B311 := B299.keep Kc309 (ninS ne_b6_b64 (ninS ne_b6_b77_1 (ninS ne_b6_b77_2 (ninS ne_b6_b77_3 nin0))))
              have B312 := B300.keep Kc309 (ninS ne_b3_b64 (ninS ne_b3_b77_1 (ninS ne_b3_b77_2 (ninS ne_b3_b77_3 nin0))))
              have c313 := cE297.keep Kc309
              have K309 := K297.trans Kc309 (allS (Or.inr sz_b64) (allS (Or.inr sz_b77_1) (allS (Or.inr sz_b77_2) (allS (Or.inr sz_b77_3) all0))))
              refine Wp.go st309 ?_
              show Wp p e below _ (T309.setTop (mkF m 292 LL280 []))
              refine Wp.step (fun t k => XS.iload X309.here hx rfl (hb hby at_292) rfl k) ?_
              show Wp p e below _ (T309.setTop (mkF m 294 LL280 [(.int (4 : Int32))]))
              refine Wp.step (fun t k => XS.iconst X309.here hx rfl (hb hby at_294) k) ?_
              show Wp p e below _ (T309.setTop (mkF m 295 LL280 [(.int (3 : Int32)), (.int (4 : Int32))]))
              refine Wp.step (fun t k => XS.icmpNo X309.here hx rfl (hb hby at_295) rfl (tlt (show (3 : Int32) < (4 : Int32) by decide)).2.2.2 k) ?_
              show Wp p e below _ (T309.setTop (mkF m 298 LL280 []))
              refine Wp.step (fun t k => XS.aload X309.here hx rfl (hb hby at_298) rfl rfl k) ?_
              show Wp p e below _ (T309.setTop (mkF m 300 LL280 [(.ref b64)]))
              refine Wp.step (fun t k => XS.aload X309.here hx rfl (hb hby at_300) rfl rfl k) ?_
              show Wp p e below _ (T309.setTop (mkF m 302 LL280 [(.ref b1), (.ref b64)]))
              refine Wp.step (fun t k => XS.iconst X309.here hx rfl (hb hby at_302) k) ?_
              show Wp p e below _ (T309.setTop (mkF m 303 LL280 [(.int (3 : Int32)), (.ref b1), (.ref b64)]))
              obtain ⟨cl318, Ar318, Sz318, Nn318, El318⟩ := id B310
              have hin318 : ¬ ((3 : Int32) < 0 ∨ cl318.slots.size ≤ ((3 : Int32)).toNatClampNeg) := inb_of Sz318 ⟨by decide, by decide⟩
              have hat318 : cl318.slots[((3 : Int32)).toNatClampNeg]? = some (.int (gs ((3 : Int32)).toNatClampNeg)) := (El318 _ (by have q := Nat.lt_of_not_le fun q => hin318 (Or.inr q); rw [Sz318] at q; exact q)).1
              rw [show (gs ((3 : Int32)).toNatClampNeg) = (gs 3) from rfl] at hat318
              rw [show (gs 3) = (Int32.ofNat k3) from (by rw [hgs]; rfl)] at hat318
              refine Wp.step (X309.iaload hx (j := (3 : Int32)) (v := (.int (Int32.ofNat k3))) (by rw [e309]; exact Ar318.1) (State.isArrayOf_alike hZ.alike Ar318.2.1) Ar318.2.2 hin318 hat318 (g := (mkF m 303 LL280 [(.int (3 : Int32)), (.ref b1), (.ref b64)])) rfl rfl (hb hby at_303)) ?_
              show Wp p e below _ (T309.setTop (mkF m 304 LL280 [(.int (Int32.ofNat k3)), (.ref b64)]))
              refine Wp.step (fun t k => XS.aload X309.here hx rfl (hb hby at_304) rfl rfl k) ?_
              show Wp p e below _ (T309.setTop (mkF m 306 LL280 [(.ref b3), (.int (Int32.ofNat k3)), (.ref b64)]))
              refine Wp.step (fun t k => XS.iconst X309.here hx rfl (hb hby at_306) k) ?_
              show Wp p e below _ (T309.setTop (mkF m 307 LL280 [(.int (3 : Int32)), (.ref b3), (.int (Int32.ofNat k3)), (.ref b64)]))
              obtain ⟨cl319, Ar319, Sz319, Nn319, El319⟩ := id B312
              have hin319 : ¬ ((3 : Int32) < 0 ∨ cl319.slots.size ≤ ((3 : Int32)).toNatClampNeg) := inb_of Sz319 ⟨by decide, by decide⟩
              have hat319 : cl319.slots[((3 : Int32)).toNatClampNeg]? = some (.int (gp ((3 : Int32)).toNatClampNeg)) := (El319 _ (by have q := Nat.lt_of_not_le fun q => hin319 (Or.inr q); rw [Sz319] at q; exact q)).1
              rw [show (gp ((3 : Int32)).toNatClampNeg) = (gp 3) from rfl] at hat319
              rw [show (gp 3) = rr3 from (by rw [hgp]; rfl)] at hat319
              refine Wp.step (X309.iaload hx (j := (3 : Int32)) (v := (.int rr3)) (by rw [e309]; exact Ar319.1) (State.isArrayOf_alike hZ.alike Ar319.2.1) Ar319.2.2 hin319 hat319 (g := (mkF m 307 LL280 [(.int (3 : Int32)), (.ref b3), (.int (Int32.ofNat k3)), (.ref b64)])) rfl rfl (hb hby at_307)) ?_
              show Wp p e below _ (T309.setTop (mkF m 308 LL280 [(.int rr3), (.int (Int32.ofNat k3)), (.ref b64)]))
              refine Wp.step (fun t k => XS.aload X309.here hx rfl (hb hby at_308) rfl rfl k) ?_
              show Wp p e below _ (T309.setTop (mkF m 310 LL280 [(.ref b6), (.int rr3), (.int (Int32.ofNat k3)), (.ref b64)]))
              refine Wp.step (fun t k => XS.iconst X309.here hx rfl (hb hby at_310) k) ?_
              show Wp p e below _ (T309.setTop (mkF m 311 LL280 [(.int (3 : Int32)), (.ref b6), (.int rr3), (.int (Int32.ofNat k3)), (.ref b64)]))
              obtain ⟨cl320, Ar320, Sz320, Nn320, El320⟩ := id B311
              have hin320 : ¬ ((3 : Int32) < 0 ∨ cl320.slots.size ≤ ((3 : Int32)).toNatClampNeg) := inb_of Sz320 ⟨by decide, by decide⟩
              have hat320 : cl320.slots[((3 : Int32)).toNatClampNeg]? = some (.int (gt ((3 : Int32)).toNatClampNeg)) := (El320 _ (by have q := Nat.lt_of_not_le fun q => hin320 (Or.inr q); rw [Sz320] at q; exact q)).1
              rw [show (gt ((3 : Int32)).toNatClampNeg) = (gt 3) from rfl] at hat320
              rw [show (gt 3) = (Int32.ofNat l3) from (by rw [hgt]; rfl)] at hat320
              refine Wp.step (X309.iaload hx (j := (3 : Int32)) (v := (.int (Int32.ofNat l3))) (by rw [e309]; exact Ar320.1) (State.isArrayOf_alike hZ.alike Ar320.2.1) Ar320.2.2 hin320 hat320 (g := (mkF m 311 LL280 [(.int (3 : Int32)), (.ref b6), (.int rr3), (.int (Int32.ofNat k3)), (.ref b64)])) rfl rfl (hb hby at_311)) ?_
              show Wp p e below _ (T309.setTop (mkF m 312 LL280 [(.int (Int32.ofNat l3)), (.int rr3), (.int (Int32.ofNat k3)), (.ref b64)]))
              obtain ⟨cq321, kq321, q321a, q321b, q321c⟩ := isOf hZ e309 cE309
              obtain ⟨_, _, ⟨T321, L321, k321, n321⟩, -, X321, ⟨Lc321, hQ321, l321, y321, z321⟩, st321⟩ := X309.virtualBack hx (y := (⟨"com/example/erotema/erotema/model/ToldEdges", "add", "(III)V"⟩ : MethodName)) (z := (⟨"com/example/erotema/erotema/model/ToldEdges", "add", "(III)V"⟩ : MethodName)) hown (mvT hZ (hw _ (List.mem_of_getElem? (i := 81) rfl))) (mvT hZ (hw _ (List.mem_of_getElem? (i := 82) rfl))) (notFace_of_selects (args := #[]) (mvT hZ (hw _ (List.mem_of_getElem? (i := 84) rfl)))) (mvT hZ (hw _ (List.mem_of_getElem? (i := 84) rfl))) (mvT hZ (hw _ (List.mem_of_getElem? (i := 83) rfl))) (by decide) (backOf (W := 0) (rm14 l Z a0 hw [] b64 (Int32.ofNat k3) rr3 (Int32.ofNat l3) b77_1 b77_2 b77_3 3 (own_upd (own_upd (own_upd (fun _ => (0 : Int32)) 0 (Int32.ofNat k0)) 1 (Int32.ofNat k1)) 2 (Int32.ofNat k2)) (own_upd (own_upd (own_upd (fun _ => (0 : Int32)) 0 rr0) 1 rr1) 2 rr2) (own_upd (own_upd (own_upd (fun _ => (0 : Int32)) 0 (Int32.ofNat l0)) 1 (Int32.ofNat l1)) 2 (Int32.ofNat l2)) h309 n0 (Nat.le_trans Z0 K309.1) g_b64 cE309 c309_sources c309_properties c309_targets c309_added c309_bySourceStart c309_bySource c309_byTargetStart c309_byTarget g_b77_1 g_b77_2 g_b77_3 (Ne.symm ne_b64_b77_1) (Ne.symm ne_b64_b77_2) (Ne.symm ne_b64_b77_3) nb12 nb13 nb23 Ba309 Bb309 Bc309 (by omega)) hZ (hw _ (List.mem_of_getElem? (i := 85) rfl)) (hw _ (List.mem_of_getElem? (i := 3) rfl)) (by decide) (by decide)) q321a q321c (g := (mkF m 312 LL280 [(.int (Int32.ofNat l3)), (.int rr3), (.int (Int32.ofNat k3)), (.ref b64)])) rfl (by rw [hml]; rfl) (Steps.refl _) (argsL := [(.int (Int32.ofNat k3)), (.int rr3), (.int (Int32.ofNat l3))]) (rest := []) (lenOf pd_28III29V rfl) rfl (by show 2 * 0 + _ ≤ _; exact Nat.le_of_eq rfl) (hb hby at_312) (fun _ _ => ⟨rfl, e309, (by decide : 7 + 0 ≤ _), (by decide : 3092 + 0 ≤ _)⟩)
              dsimp only [Pt.U, Pt.locs, Pt.cells, Pt.slots] at X321 l321 y321 z321 st321 hQ321
              subst l321 y321 z321
              obtain ⟨h321, e321⟩ : ∃ z, T321.heap = z := ⟨_, rfl⟩
              rw [e321] at hQ321
              obtain ⟨rfl, N321q, Kc321, cE321, c321_sources, c321_properties, c321_targets, c321_added, c321_bySourceStart, c321_bySource, c321_byTargetStart, c321_byTarget, Ba321, Bb321, Bc321⟩ := hQ321
              have N321 := Fr.app N309 N321q
              have B322 := B310.keep Kc321 (ninS ne_b1_b64 (ninS ne_b1_b77_1 (ninS ne_b1_b77_2 (ninS ne_b1_b77_3 nin0))))
              have B323 := B311.keep Kc321 (ninS ne_b6_b64 (ninS ne_b6_b77_1 (ninS ne_b6_b77_2 (ninS ne_b6_b77_3 nin0))))
              have B324 := B312.keep Kc321 (ninS ne_b3_b64 (ninS ne_b3_b77_1 (ninS ne_b3_b77_2 (ninS ne_b3_b77_3 nin0))))
              have c325 := cE309.keep Kc321
              have K321 := K309.trans Kc321 (allS (Or.inr sz_b64) (allS (Or.inr sz_b77_1) (allS (Or.inr sz_b77_2) (allS (Or.inr sz_b77_3) all0))))
              refine Wp.go st321 ?_
              show Wp p e below _ (T321.setTop (mkF m 315 LL280 []))
              refine Wp.step (fun t k => XS.aload X321.here hx rfl (hb hby at_315) rfl rfl k) ?_
              show Wp p e below _ (T321.setTop (mkF m 317 LL280 [(.ref b64)]))
              refine Wp.step (fun t k => XS.iload X321.here hx rfl (hb hby at_317) rfl k) ?_
              show Wp p e below _ (T321.setTop (mkF m 319 LL280 [(.int (Int32.ofNat nw)), (.ref b64)]))
              have hKK : ∀ i, i < 4 → (own_upd (own_upd (own_upd (own_upd (fun _ => (0 : Int32)) 0 (Int32.ofNat k0)) 1 (Int32.ofNat k1)) 2 (Int32.ofNat k2)) 3 (Int32.ofNat k3)) i = Int32.ofNat ((own_lk k0 k1 k2 k3) i) ∧ (own_lk k0 k1 k2 k3) i < nw := fun i hi => by
                match i, hi with
                | 0, _ => exact ⟨rfl, hk0⟩
                | 1, _ => exact ⟨rfl, hk1⟩
                | 2, _ => exact ⟨rfl, hk2⟩
                | 3, _ => exact ⟨rfl, hk3⟩
                | i + 4, hi => exact absurd hi (by omega)
              have hTT : ∀ i, i < 4 → (own_upd (own_upd (own_upd (own_upd (fun _ => (0 : Int32)) 0 (Int32.ofNat l0)) 1 (Int32.ofNat l1)) 2 (Int32.ofNat l2)) 3 (Int32.ofNat l3)) i = Int32.ofNat ((own_lk l0 l1 l2 l3) i) ∧ (own_lk l0 l1 l2 l3) i < nw := fun i hi => by
                match i, hi with
                | 0, _ => exact ⟨rfl, hl0⟩
                | 1, _ => exact ⟨rfl, hl1⟩
                | 2, _ => exact ⟨rfl, hl2⟩
                | 3, _ => exact ⟨rfl, hl3⟩
                | i + 4, hi => exact absurd hi (by omega)
              obtain ⟨cq329, kq329, q329a, q329b, q329c⟩ := isOf hZ e321 cE321
              obtain ⟨_, _, ⟨T329, L329, k329, n329⟩, -, X329, ⟨Lc329, hQ329, l329, y329, z329⟩, st329⟩ := X321.virtualBack hx (y := (⟨"com/example/erotema/erotema/model/ToldEdges", "index", "(I)V"⟩ : MethodName)) (z := (⟨"com/example/erotema/erotema/model/ToldEdges", "index", "(I)V"⟩ : MethodName)) hown (mvT hZ (hw _ (List.mem_of_getElem? (i := 16) rfl))) (mvT hZ (hw _ (List.mem_of_getElem? (i := 17) rfl))) (notFace_of_selects (args := #[]) (mvT hZ (hw _ (List.mem_of_getElem? (i := 19) rfl)))) (mvT hZ (hw _ (List.mem_of_getElem? (i := 19) rfl))) (mvT hZ (hw _ (List.mem_of_getElem? (i := 18) rfl))) (by decide) (backOf (W := 0) (rm3 l Z a0 hw [] b64 (Int32.ofNat nw) b77_1 b77_2 b77_3 4 nw (own_lk k0 k1 k2 k3) (own_lk l0 l1 l2 l3) (own_upd (own_upd (own_upd (own_upd (fun _ => (0 : Int32)) 0 (Int32.ofNat k0)) 1 (Int32.ofNat k1)) 2 (Int32.ofNat k2)) 3 (Int32.ofNat k3)) (own_upd (own_upd (own_upd (own_upd (fun _ => (0 : Int32)) 0 rr0) 1 rr1) 2 rr2) 3 rr3) (own_upd (own_upd (own_upd (own_upd (fun _ => (0 : Int32)) 0 (Int32.ofNat l0)) 1 (Int32.ofNat l1)) 2 (Int32.ofNat l2)) 3 (Int32.ofNat l3)) h321 n0 (Nat.le_trans Z0 K321.1) rfl g_b64 cE321 c321_sources c321_properties c321_targets c321_added c321_bySourceStart c321_bySource c321_byTargetStart c321_byTarget (Ne.symm ne_b64_b77_1) (Ne.symm ne_b64_b77_2) (Ne.symm ne_b64_b77_3) Ba321 Bb321 Bc321 (by omega) (by omega) hKK hTT) hZ (hw _ (List.mem_of_getElem? (i := 20) rfl)) (hw _ (List.mem_of_getElem? (i := 3) rfl)) (by decide) (by decide)) q329a q329c (g := (mkF m 319 LL280 [(.int (Int32.ofNat nw)), (.ref b64)])) rfl (by rw [hml]; rfl) (Steps.refl _) (argsL := [(.int (Int32.ofNat nw))]) (rest := []) (lenOf pd_28I29V rfl) rfl (by show 2 * 0 + _ ≤ _; exact Nat.le_of_eq rfl) (hb hby at_319) (fun _ _ => ⟨rfl, e321, (by decide : 7 + 10 ≤ _), (by decide : 3092 + 50 ≤ _)⟩)
              dsimp only [Pt.U, Pt.locs, Pt.cells, Pt.slots] at X329 l329 y329 z329 st329 hQ329
              subst l329 y329 z329
              obtain ⟨h329, e329⟩ : ∃ z, T329.heap = z := ⟨_, rfl⟩
              rw [e329] at hQ329
              obtain ⟨bs329, bt329, FF329, rfl, N329q, Kc329, cE329, cs329, Bs329, ct329, Bt329, f4329, fq329⟩ := hQ329
              have N329 := Fr.app N321 N329q
              have B330 := B322.keep Kc329 (ninS ne_b1_b64 nin0)
              have B331 := B323.keep Kc329 (ninS ne_b6_b64 nin0)
              have B332 := B324.keep Kc329 (ninS ne_b3_b64 nin0)
              have c333 := cE321.keep Kc329
              have B334 := Ba321.keep Kc329 (ninS (Ne.symm ne_b64_b77_1) nin0)
              have B335 := Bb321.keep Kc329 (ninS (Ne.symm ne_b64_b77_2) nin0)
              have B336 := Bc321.keep Kc329 (ninS (Ne.symm ne_b64_b77_3) nin0)
              have K329 := K321.trans Kc329 (allS (Or.inr sz_b64) all0)
              refine Wp.go st329 ?_
              show Wp p e below _ (T329.setTop (mkF m 322 LL280 []))
              refine Wp.step (fun t k => XS.iconst X329.here hx rfl (hb hby at_322) k) ?_
              show Wp p e below _ (T329.setTop (mkF m 323 LL280 [(.int (0 : Int32))]))
              refine Wp.step (fun t k => XS.istore X329.here hx rfl (hb hby at_323) rfl (l' := #[.val (.int p0), .val (.int p1), .val (.int p2), .val (.int p3), .val (.int p4), .val (.int p5), .val (.int (Int32.ofNat nw)), .val (.int (4 : Int32)), .val (.ref b1), .val (.ref b3), .val (.ref b6), .val (.int (Int32.ofNat qw)), .val (.ref b64), .val (.int (0 : Int32))]) rfl k) ?_
              show Wp p e below _ (T329.setTop (mkF m 325 #[.val (.int p0), .val (.int p1), .val (.int p2), .val (.int p3), .val (.int p4), .val (.int p5), .val (.int (Int32.ofNat nw)), .val (.int (4 : Int32)), .val (.ref b1), .val (.ref b3), .val (.ref b6), .val (.int (Int32.ofNat qw)), .val (.ref b64), .val (.int (0 : Int32))] []))
              let LL337 : Array Slot := #[.val (.int p0), .val (.int p1), .val (.int p2), .val (.int p3), .val (.int p4), .val (.int p5), .val (.int (Int32.ofNat nw)), .val (.int (4 : Int32)), .val (.ref b1), .val (.ref b3), .val (.ref b6), .val (.int (Int32.ofNat qw)), .val (.ref b64), .val (.int (0 : Int32))]
              show Wp p e below _ (T329.setTop (mkF m 325 LL337 []))
              have kont338 : ∀ (cv1 : Int32) (hh_338 : Heap) (locs_338 : List Loc) (T_338 : State) (X_338 : Stand p l e room_1 s m #[(.int p0), (.int p1), (.int p2), (.int p3), (.int p4), (.int p5)] below meth c T_338 locs_338 17 3142) (eT_338 : T_338.heap = hh_338) (NN_338 : Fr n0 locs_338) (KK_338 : Keep h0 hh_338 []) (q0_338 : own_IA .int Z hh_338 b1 (4 : Int32) gs) (q1_338 : own_IA .int Z hh_338 b6 (4 : Int32) gt) (q2_338 : own_IA .int Z hh_338 b3 (4 : Int32) gp) (q3_338 : Exa Z hh_338 b64 "com/example/erotema/erotema/model/ToldEdges") (q4_338 : own_IA .int Z hh_338 b77_1 (Int32.ofNat 1024) (own_upd (own_upd (own_upd (own_upd (fun _ => (0 : Int32)) 0 (Int32.ofNat k0)) 1 (Int32.ofNat k1)) 2 (Int32.ofNat k2)) 3 (Int32.ofNat k3))) (q5_338 : own_IA .int Z hh_338 b77_2 (Int32.ofNat 1024) (own_upd (own_upd (own_upd (own_upd (fun _ => (0 : Int32)) 0 rr0) 1 rr1) 2 rr2) 3 rr3)) (q6_338 : own_IA .int Z hh_338 b77_3 (Int32.ofNat 1024) (own_upd (own_upd (own_upd (own_upd (fun _ => (0 : Int32)) 0 (Int32.ofNat l0)) 1 (Int32.ofNat l1)) 2 (Int32.ofNat l2)) 3 (Int32.ofNat l3))) (q7_338 : Fld Z hh_338 b64 "com/example/erotema/erotema/model/ToldEdges" "bySourceStart" "[I" (.ref bs329)) (q8_338 : Fld Z hh_338 b64 "com/example/erotema/erotema/model/ToldEdges" "byTargetStart" "[I" (.ref bt329)) (q9_338 : own_IA .int Z hh_338 bs329 (Int32.ofNat (nw + 1)) (own_DI (own_lk k0 k1 k2 k3) (own_W (own_upd (own_upd (own_upd (own_upd (fun _ => (0 : Int32)) 0 rr0) 1 rr1) 2 rr2) 3 rr3) (own_upd (own_upd (own_upd (own_upd (fun _ => (0 : Int32)) 0 (Int32.ofNat l0)) 1 (Int32.ofNat l1)) 2 (Int32.ofNat l2)) 3 (Int32.ofNat l3))) 4)) (q10_338 : own_IA .int Z hh_338 bt329 (Int32.ofNat (nw + 1)) (fun v => Int32.ofNat (FF329 v))) (hcv1 : cv1 = own_ey gs gp gt (Int32.ofNat qw) 1), Wp p e below (Out s (Q0 Z p0 p1 p2 p3 p4 p5 h0 n0) room_1.cells room_1.slots) (T_338.setTop (mkF m 342 #[.val (.int p0), .val (.int p1), .val (.int p2), .val (.int p3), .val (.int p4), .val (.int p5), .val (.int (Int32.ofNat nw)), .val (.int (4 : Int32)), .val (.ref b1), .val (.ref b3), .val (.ref b6), .val (.int (Int32.ofNat qw)), .val (.ref b64), .val (.int cv1)] [])) := by
                intro cv1 hh_338 locs_338 T_338 X_338 eT_338 NN_338 KK_338 q0_338 q1_338 q2_338 q3_338 q4_338 q5_338 q6_338 q7_338 q8_338 q9_338 q10_338 hcv1
                let LL339 : Array Slot := #[.val (.int p0), .val (.int p1), .val (.int p2), .val (.int p3), .val (.int p4), .val (.int p5), .val (.int (Int32.ofNat nw)), .val (.int (4 : Int32)), .val (.ref b1), .val (.ref b3), .val (.ref b6), .val (.int (Int32.ofNat qw)), .val (.ref b64), .val (.int cv1)]
                show Wp p e below _ (T_338.setTop (mkF m 342 LL339 []))
                have kont340 : ∀ (cv2 : Int32) (hh_340 : Heap) (locs_340 : List Loc) (T_340 : State) (X_340 : Stand p l e room_1 s m #[(.int p0), (.int p1), (.int p2), (.int p3), (.int p4), (.int p5)] below meth c T_340 locs_340 17 3142) (eT_340 : T_340.heap = hh_340) (NN_340 : Fr n0 locs_340) (KK_340 : Keep h0 hh_340 []) (q0_340 : own_IA .int Z hh_340 b1 (4 : Int32) gs) (q1_340 : own_IA .int Z hh_340 b6 (4 : Int32) gt) (q2_340 : own_IA .int Z hh_340 b3 (4 : Int32) gp) (q3_340 : Exa Z hh_340 b64 "com/example/erotema/erotema/model/ToldEdges") (q4_340 : own_IA .int Z hh_340 b77_1 (Int32.ofNat 1024) (own_upd (own_upd (own_upd (own_upd (fun _ => (0 : Int32)) 0 (Int32.ofNat k0)) 1 (Int32.ofNat k1)) 2 (Int32.ofNat k2)) 3 (Int32.ofNat k3))) (q5_340 : own_IA .int Z hh_340 b77_2 (Int32.ofNat 1024) (own_upd (own_upd (own_upd (own_upd (fun _ => (0 : Int32)) 0 rr0) 1 rr1) 2 rr2) 3 rr3)) (q6_340 : own_IA .int Z hh_340 b77_3 (Int32.ofNat 1024) (own_upd (own_upd (own_upd (own_upd (fun _ => (0 : Int32)) 0 (Int32.ofNat l0)) 1 (Int32.ofNat l1)) 2 (Int32.ofNat l2)) 3 (Int32.ofNat l3))) (q7_340 : Fld Z hh_340 b64 "com/example/erotema/erotema/model/ToldEdges" "bySourceStart" "[I" (.ref bs329)) (q8_340 : Fld Z hh_340 b64 "com/example/erotema/erotema/model/ToldEdges" "byTargetStart" "[I" (.ref bt329)) (q9_340 : own_IA .int Z hh_340 bs329 (Int32.ofNat (nw + 1)) (own_DI (own_lk k0 k1 k2 k3) (own_W (own_upd (own_upd (own_upd (own_upd (fun _ => (0 : Int32)) 0 rr0) 1 rr1) 2 rr2) 3 rr3) (own_upd (own_upd (own_upd (own_upd (fun _ => (0 : Int32)) 0 (Int32.ofNat l0)) 1 (Int32.ofNat l1)) 2 (Int32.ofNat l2)) 3 (Int32.ofNat l3))) 4)) (q10_340 : own_IA .int Z hh_340 bt329 (Int32.ofNat (nw + 1)) (fun v => Int32.ofNat (FF329 v))) (hcv2 : cv2 = own_ey gs gp gt (Int32.ofNat qw) 2), Wp p e below (Out s (Q0 Z p0 p1 p2 p3 p4 p5 h0 n0) room_1.cells room_1.slots) (T_340.setTop (mkF m 374 #[.val (.int p0), .val (.int p1), .val (.int p2), .val (.int p3), .val (.int p4), .val (.int p5), .val (.int (Int32.ofNat nw)), .val (.int (4 : Int32)), .val (.ref b1), .val (.ref b3), .val (.ref b6), .val (.int (Int32.ofNat qw)), .val (.ref b64), .val (.int cv2)] [])) := by
                  intro cv2 hh_340 locs_340 T_340 X_340 eT_340 NN_340 KK_340 q0_340 q1_340 q2_340 q3_340 q4_340 q5_340 q6_340 q7_340 q8_340 q9_340 q10_340 hcv2
                  let LL341 : Array Slot := #[.val (.int p0), .val (.int p1), .val (.int p2), .val (.int p3), .val (.int p4), .val (.int p5), .val (.int (Int32.ofNat nw)), .val (.int (4 : Int32)), .val (.ref b1), .val (.ref b3), .val (.ref b6), .val (.int (Int32.ofNat qw)), .val (.ref b64), .val (.int cv2)]
                  show Wp p e below _ (T_340.setTop (mkF m 374 LL341 []))
                  have kont342 : ∀ (cv3 : Int32) (hh_342 : Heap) (locs_342 : List Loc) (T_342 : State) (X_342 : Stand p l e room_1 s m #[(.int p0), (.int p1), (.int p2), (.int p3), (.int p4), (.int p5)] below meth c T_342 locs_342 17 3142) (eT_342 : T_342.heap = hh_342) (NN_342 : Fr n0 locs_342) (KK_342 : Keep h0 hh_342 []) (q0_342 : own_IA .int Z hh_342 b1 (4 : Int32) gs) (q1_342 : own_IA .int Z hh_342 b6 (4 : Int32) gt) (q2_342 : own_IA .int Z hh_342 b3 (4 : Int32) gp) (q3_342 : Exa Z hh_342 b64 "com/example/erotema/erotema/model/ToldEdges") (q4_342 : own_IA .int Z hh_342 b77_1 (Int32.ofNat 1024) (own_upd (own_upd (own_upd (own_upd (fun _ => (0 : Int32)) 0 (Int32.ofNat k0)) 1 (Int32.ofNat k1)) 2 (Int32.ofNat k2)) 3 (Int32.ofNat k3))) (q5_342 : own_IA .int Z hh_342 b77_2 (Int32.ofNat 1024) (own_upd (own_upd (own_upd (own_upd (fun _ => (0 : Int32)) 0 rr0) 1 rr1) 2 rr2) 3 rr3)) (q6_342 : own_IA .int Z hh_342 b77_3 (Int32.ofNat 1024) (own_upd (own_upd (own_upd (own_upd (fun _ => (0 : Int32)) 0 (Int32.ofNat l0)) 1 (Int32.ofNat l1)) 2 (Int32.ofNat l2)) 3 (Int32.ofNat l3))) (q7_342 : Fld Z hh_342 b64 "com/example/erotema/erotema/model/ToldEdges" "bySourceStart" "[I" (.ref bs329)) (q8_342 : Fld Z hh_342 b64 "com/example/erotema/erotema/model/ToldEdges" "byTargetStart" "[I" (.ref bt329)) (q9_342 : own_IA .int Z hh_342 bs329 (Int32.ofNat (nw + 1)) (own_DI (own_lk k0 k1 k2 k3) (own_W (own_upd (own_upd (own_upd (own_upd (fun _ => (0 : Int32)) 0 rr0) 1 rr1) 2 rr2) 3 rr3) (own_upd (own_upd (own_upd (own_upd (fun _ => (0 : Int32)) 0 (Int32.ofNat l0)) 1 (Int32.ofNat l1)) 2 (Int32.ofNat l2)) 3 (Int32.ofNat l3))) 4)) (q10_342 : own_IA .int Z hh_342 bt329 (Int32.ofNat (nw + 1)) (fun v => Int32.ofNat (FF329 v))) (hcv3 : cv3 = own_ey gs gp gt (Int32.ofNat qw) 3), Wp p e below (Out s (Q0 Z p0 p1 p2 p3 p4 p5 h0 n0) room_1.cells room_1.slots) (T_342.setTop (mkF m 420 #[.val (.int p0), .val (.int p1), .val (.int p2), .val (.int p3), .val (.int p4), .val (.int p5), .val (.int (Int32.ofNat nw)), .val (.int (4 : Int32)), .val (.ref b1), .val (.ref b3), .val (.ref b6), .val (.int (Int32.ofNat qw)), .val (.ref b64), .val (.int cv3)] [])) := by
                    intro cv3 hh_342 locs_342 T_342 X_342 eT_342 NN_342 KK_342 q0_342 q1_342 q2_342 q3_342 q4_342 q5_342 q6_342 q7_342 q8_342 q9_342 q10_342 hcv3
                    let LL343 : Array Slot := #[.val (.int p0), .val (.int p1), .val (.int p2), .val (.int p3), .val (.int p4), .val (.int p5), .val (.int (Int32.ofNat nw)), .val (.int (4 : Int32)), .val (.ref b1), .val (.ref b3), .val (.ref b6), .val (.int (Int32.ofNat qw)), .val (.ref b64), .val (.int cv3)]
                    show Wp p e below _ (T_342.setTop (mkF m 420 LL343 []))
                    have kont344 : ∀ (cv4 : Int32) (hh_344 : Heap) (locs_344 : List Loc) (T_344 : State) (X_344 : Stand p l e room_1 s m #[(.int p0), (.int p1), (.int p2), (.int p3), (.int p4), (.int p5)] below meth c T_344 locs_344 17 3142) (eT_344 : T_344.heap = hh_344) (NN_344 : Fr n0 locs_344) (KK_344 : Keep h0 hh_344 []) (q0_344 : own_IA .int Z hh_344 b1 (4 : Int32) gs) (q1_344 : own_IA .int Z hh_344 b6 (4 : Int32) gt) (q2_344 : own_IA .int Z hh_344 b3 (4 : Int32) gp) (q3_344 : Exa Z hh_344 b64 "com/example/erotema/erotema/model/ToldEdges") (q4_344 : own_IA .int Z hh_344 b77_1 (Int32.ofNat 1024) (own_upd (own_upd (own_upd (own_upd (fun _ => (0 : Int32)) 0 (Int32.ofNat k0)) 1 (Int32.ofNat k1)) 2 (Int32.ofNat k2)) 3 (Int32.ofNat k3))) (q5_344 : own_IA .int Z hh_344 b77_2 (Int32.ofNat 1024) (own_upd (own_upd (own_upd (own_upd (fun _ => (0 : Int32)) 0 rr0) 1 rr1) 2 rr2) 3 rr3)) (q6_344 : own_IA .int Z hh_344 b77_3 (Int32.ofNat 1024) (own_upd (own_upd (own_upd (own_upd (fun _ => (0 : Int32)) 0 (Int32.ofNat l0)) 1 (Int32.ofNat l1)) 2 (Int32.ofNat l2)) 3 (Int32.ofNat l3))) (q7_344 : Fld Z hh_344 b64 "com/example/erotema/erotema/model/ToldEdges" "bySourceStart" "[I" (.ref bs329)) (q8_344 : Fld Z hh_344 b64 "com/example/erotema/erotema/model/ToldEdges" "byTargetStart" "[I" (.ref bt329)) (q9_344 : own_IA .int Z hh_344 bs329 (Int32.ofNat (nw + 1)) (own_DI (own_lk k0 k1 k2 k3) (own_W (own_upd (own_upd (own_upd (own_upd (fun _ => (0 : Int32)) 0 rr0) 1 rr1) 2 rr2) 3 rr3) (own_upd (own_upd (own_upd (own_upd (fun _ => (0 : Int32)) 0 (Int32.ofNat l0)) 1 (Int32.ofNat l1)) 2 (Int32.ofNat l2)) 3 (Int32.ofNat l3))) 4)) (q10_344 : own_IA .int Z hh_344 bt329 (Int32.ofNat (nw + 1)) (fun v => Int32.ofNat (FF329 v))) (hcv4 : cv4 = own_ey gs gp gt (Int32.ofNat qw) 4), Wp p e below (Out s (Q0 Z p0 p1 p2 p3 p4 p5 h0 n0) room_1.cells room_1.slots) (T_344.setTop (mkF m 480 #[.val (.int p0), .val (.int p1), .val (.int p2), .val (.int p3), .val (.int p4), .val (.int p5), .val (.int (Int32.ofNat nw)), .val (.int (4 : Int32)), .val (.ref b1), .val (.ref b3), .val (.ref b6), .val (.int (Int32.ofNat qw)), .val (.ref b64), .val (.int cv4)] [])) := by
                      intro cv4 hh_344 locs_344 T_344 X_344 eT_344 NN_344 KK_344 q0_344 q1_344 q2_344 q3_344 q4_344 q5_344 q6_344 q7_344 q8_344 q9_344 q10_344 hcv4
                      let LL345 : Array Slot := #[.val (.int p0), .val (.int p1), .val (.int p2), .val (.int p3), .val (.int p4), .val (.int p5), .val (.int (Int32.ofNat nw)), .val (.int (4 : Int32)), .val (.ref b1), .val (.ref b3), .val (.ref b6), .val (.int (Int32.ofNat qw)), .val (.ref b64), .val (.int cv4)]
                      show Wp p e below _ (T_344.setTop (mkF m 480 LL345 []))
                      refine Wp.step (fun t k => XS.aload X_344.here hx rfl (hb hby at_480) rfl rfl k) ?_
                      show Wp p e below _ (T_344.setTop (mkF m 482 LL345 [(.ref b64)]))
                      refine Wp.step (fun t k => XS.iload X_344.here hx rfl (hb hby at_482) rfl k) ?_
                      show Wp p e below _ (T_344.setTop (mkF m 484 LL345 [(.int (Int32.ofNat qw)), (.ref b64)]))
                      have hS : ∀ i, i < 4 → gs i = Int32.ofNat ((own_lk k0 k1 k2 k3) i) ∧ gp i = (own_upd (own_upd (own_upd (own_upd (fun _ => (0 : Int32)) 0 rr0) 1 rr1) 2 rr2) 3 rr3) i ∧ gt i = (own_upd (own_upd (own_upd (own_upd (fun _ => (0 : Int32)) 0 (Int32.ofNat l0)) 1 (Int32.ofNat l1)) 2 (Int32.ofNat l2)) 3 (Int32.ofNat l3)) i := fun i hi => by
                        match i, hi with
                        | 0, _ => exact ⟨by rw [hgs] <;> rfl, by rw [hgp] <;> rfl, by rw [hgt] <;> rfl⟩
                        | 1, _ => exact ⟨by rw [hgs] <;> rfl, by rw [hgp] <;> rfl, by rw [hgt] <;> rfl⟩
                        | 2, _ => exact ⟨by rw [hgs] <;> rfl, by rw [hgp] <;> rfl, by rw [hgt] <;> rfl⟩
                        | 3, _ => exact ⟨by rw [hgs] <;> rfl, by rw [hgp] <;> rfl, by rw [hgt] <;> rfl⟩
                        | i + 4, hi => exact absurd hi (by omega)
                      obtain ⟨cq346, kq346, q346a, q346b, q346c⟩ := isOf hZ eT_344 q3_344
                      obtain ⟨_, _, ⟨T346, L346, k346, n346⟩, -, X346, ⟨Lc346, hQ346, l346, y346, z346⟩, st346⟩ := X_344.virtualBack hx (y := (⟨"com/example/erotema/erotema/model/ToldEdges", "countTo", "(I)I"⟩ : MethodName)) (z := (⟨"com/example/erotema/erotema/model/ToldEdges", "countTo", "(I)I"⟩ : MethodName)) hown (mvT hZ (hw _ (List.mem_of_getElem? (i := 75) rfl))) (mvT hZ (hw _ (List.mem_of_getElem? (i := 76) rfl))) (notFace_of_selects (args := #[]) (mvT hZ (hw _ (List.mem_of_getElem? (i := 78) rfl)))) (mvT hZ (hw _ (List.mem_of_getElem? (i := 78) rfl))) (mvT hZ (hw _ (List.mem_of_getElem? (i := 77) rfl))) (by decide) (backOf (W := 0) (rm13 l Z a0 hw [] b64 (Int32.ofNat qw) bt329 4 nw (own_lk k0 k1 k2 k3) (own_lk l0 l1 l2 l3) (own_upd (own_upd (own_upd (own_upd (fun _ => (0 : Int32)) 0 rr0) 1 rr1) 2 rr2) 3 rr3) (own_upd (own_upd (own_upd (own_upd (fun _ => (0 : Int32)) 0 (Int32.ofNat l0)) 1 (Int32.ofNat l1)) 2 (Int32.ofNat l2)) 3 (Int32.ofNat l3)) FF329 qw hh_344 n0 (Nat.le_trans Z0 KK_344.1) rfl q8_344 q10_344 (by omega) (by omega) hTT f4329 fq329) hZ (hw _ (List.mem_of_getElem? (i := 79) rfl)) (hw _ (List.mem_of_getElem? (i := 3) rfl)) (by decide) (by decide)) q346a q346c (g := (mkF m 484 LL345 [(.int (Int32.ofNat qw)), (.ref b64)])) rfl (by rw [hml]; rfl) (Steps.refl _) (argsL := [(.int (Int32.ofNat qw))]) (rest := []) (lenOf pd_28I29I rfl) rfl (by show 2 * 0 + _ ≤ _; exact Nat.le_of_eq rfl) (hb hby at_484) (fun _ _ => ⟨rfl, eT_344, (by decide : 17 + 0 ≤ _), (by decide : 3142 + 0 ≤ _)⟩)
                      dsimp only [Pt.U, Pt.locs, Pt.cells, Pt.slots] at X346 l346 y346 z346 st346 hQ346
                      subst l346 y346 z346
                      obtain ⟨rfl, N346q, e346⟩ := hQ346
                      have N346 := Fr.app NN_344 N346q
                      refine Wp.go st346 ?_
                      show Wp p e below _ (T346.setTop (mkF m 487 LL345 [(.int (Int32.ofNat (own_D (fun z => own_el z == Int32.ofNat qw) (own_lk k0 k1 k2 k3) (own_W (own_upd (own_upd (own_upd (own_upd (fun _ => (0 : Int32)) 0 rr0) 1 rr1) 2 rr2) 3 rr3) (own_upd (own_upd (own_upd (own_upd (fun _ => (0 : Int32)) 0 (Int32.ofNat l0)) 1 (Int32.ofNat l1)) 2 (Int32.ofNat l2)) 3 (Int32.ofNat l3))) 4 nw)))]))
                      refine Wp.step (fun t k => XS.iload X346.here hx rfl (hb hby at_487) rfl k) ?_
                      show Wp p e below _ (T346.setTop (mkF m 489 LL345 [(.int cv4), (.int (Int32.ofNat (own_D (fun z => own_el z == Int32.ofNat qw) (own_lk k0 k1 k2 k3) (own_W (own_upd (own_upd (own_upd (own_upd (fun _ => (0 : Int32)) 0 rr0) 1 rr1) 2 rr2) 3 rr3) (own_upd (own_upd (own_upd (own_upd (fun _ => (0 : Int32)) 0 (Int32.ofNat l0)) 1 (Int32.ofNat l1)) 2 (Int32.ofNat l2)) 3 (Int32.ofNat l3))) 4 nw)))]))
                      refine Wp.step (fun t k => XS.icmpNo X346.here hx rfl (hb hby at_489) rfl (teq (show (Int32.ofNat (own_D (fun z => own_el z == Int32.ofNat qw) (own_lk k0 k1 k2 k3) (own_W (own_upd (own_upd (own_upd (own_upd (fun _ => (0 : Int32)) 0 rr0) 1 rr1) 2 rr2) 3 rr3) (own_upd (own_upd (own_upd (own_upd (fun _ => (0 : Int32)) 0 (Int32.ofNat l0)) 1 (Int32.ofNat l1)) 2 (Int32.ofNat l2)) 3 (Int32.ofNat l3))) 4 nw)) = cv4 from (own_y (K := (own_lk k0 k1 k2 k3)) (Tg := (own_lk l0 l1 l2 l3)) (g2 := (own_upd (own_upd (own_upd (own_upd (fun _ => (0 : Int32)) 0 rr0) 1 rr1) 2 rr2) 3 rr3)) (g3 := (own_upd (own_upd (own_upd (own_upd (fun _ => (0 : Int32)) 0 (Int32.ofNat l0)) 1 (Int32.ofNat l1)) 2 (Int32.ofNat l2)) 3 (Int32.ofNat l3))) (S := gs) (R := gp) (T := gt) hn4 hqw (fun i hi => (hKK i hi).2) hTT hS).trans hcv4.symm)).2 k) ?_
                      show Wp p e below _ (T346.setTop (mkF m 492 LL345 []))
                      refine Wp.step (fun t k => XS.iconst X346.here hx rfl (hb hby at_492) k) ?_
                      show Wp p e below _ (T346.setTop (mkF m 493 LL345 [(.int (1 : Int32))]))
                      refine Wp.step (fun t k => XS.goto X346.here hx rfl (pc0 := 493) (pc' := 497) rfl (hb hby at_493) (by decide) (by decide) k) ?_
                      show Wp p e below _ (T346.setTop (mkF m 497 LL345 [(.int (1 : Int32))]))
                      refine Wp.retN X346 hx (t := .boolean) Bd.returns (by simp) (hb hby at_497) hlk ?_ (by decide) (by decide)
                      show Q0 Z p0 p1 p2 p3 p4 p5 h0 n0 (some (.int (nar .boolean (1 : Int32)))) T346.heap _
                      rw [e346]
                      exact ⟨rfl, N346⟩
                    refine Wp.step (fun t k => XS.iload X_342.here hx rfl (hb hby at_420) rfl k) ?_
                    show Wp p e below _ (T_342.setTop (mkF m 422 LL343 [(.int (4 : Int32))]))
                    refine Wp.step (fun t k => XS.iconst X_342.here hx rfl (hb hby at_422) k) ?_
                    show Wp p e below _ (T_342.setTop (mkF m 423 LL343 [(.int (3 : Int32)), (.int (4 : Int32))]))
                    refine Wp.step (fun t k => XS.icmpNo X_342.here hx rfl (hb hby at_423) rfl (tlt (show (3 : Int32) < (4 : Int32) by decide)).2.2.2 k) ?_
                    show Wp p e below _ (T_342.setTop (mkF m 426 LL343 []))
                    refine Wp.step (fun t k => XS.aload X_342.here hx rfl (hb hby at_426) rfl rfl k) ?_
                    show Wp p e below _ (T_342.setTop (mkF m 428 LL343 [(.ref b6)]))
                    refine Wp.step (fun t k => XS.iconst X_342.here hx rfl (hb hby at_428) k) ?_
                    show Wp p e below _ (T_342.setTop (mkF m 429 LL343 [(.int (3 : Int32)), (.ref b6)]))
                    obtain ⟨cl349, Ar349, Sz349, Nn349, El349⟩ := id q1_342
                    have hin349 : ¬ ((3 : Int32) < 0 ∨ cl349.slots.size ≤ ((3 : Int32)).toNatClampNeg) := inb_of Sz349 ⟨by decide, by decide⟩
                    have hat349 : cl349.slots[((3 : Int32)).toNatClampNeg]? = some (.int (gt ((3 : Int32)).toNatClampNeg)) := (El349 _ (by have q := Nat.lt_of_not_le fun q => hin349 (Or.inr q); rw [Sz349] at q; exact q)).1
                    rw [show (gt ((3 : Int32)).toNatClampNeg) = (gt 3) from rfl] at hat349
                    refine Wp.step (X_342.iaload hx (j := (3 : Int32)) (v := (.int (gt 3))) (by rw [eT_342]; exact Ar349.1) (State.isArrayOf_alike hZ.alike Ar349.2.1) Ar349.2.2 hin349 hat349 (g := (mkF m 429 LL343 [(.int (3 : Int32)), (.ref b6)])) rfl rfl (hb hby at_429)) ?_
                    show Wp p e below _ (T_342.setTop (mkF m 430 LL343 [(.int (gt 3))]))
                    refine Wp.step (fun t k => XS.iload X_342.here hx rfl (hb hby at_430) rfl k) ?_
                    show Wp p e below _ (T_342.setTop (mkF m 432 LL343 [(.int (Int32.ofNat qw)), (.int (gt 3))]))
                    by_cases hc350 : (gt 3) = (Int32.ofNat qw)
                    · refine Wp.step (fun t k => XS.icmpNo X_342.here hx rfl (hb hby at_432) rfl (teq hc350).2 k) ?_
                      show Wp p e below _ (T_342.setTop (mkF m 435 LL343 []))
                      refine Wp.step (fun t k => XS.aload X_342.here hx rfl (hb hby at_435) rfl rfl k) ?_
                      show Wp p e below _ (T_342.setTop (mkF m 437 LL343 [(.ref b1)]))
                      refine Wp.step (fun t k => XS.aload X_342.here hx rfl (hb hby at_437) rfl rfl k) ?_
                      show Wp p e below _ (T_342.setTop (mkF m 439 LL343 [(.ref b3), (.ref b1)]))
                      refine Wp.step (fun t k => XS.aload X_342.here hx rfl (hb hby at_439) rfl rfl k) ?_
                      show Wp p e below _ (T_342.setTop (mkF m 441 LL343 [(.ref b6), (.ref b3), (.ref b1)]))
                      refine Wp.step (fun t k => XS.iconst X_342.here hx rfl (hb hby at_441) k) ?_
                      show Wp p e below _ (T_342.setTop (mkF m 442 LL343 [(.int (3 : Int32)), (.ref b6), (.ref b3), (.ref b1)]))
                      refine Wp.step (fun t k => XS.iconst X_342.here hx rfl (hb hby at_442) k) ?_
                      show Wp p e below _ (T_342.setTop (mkF m 443 LL343 [(.int (0 : Int32)), (.int (3 : Int32)), (.ref b6), (.ref b3), (.ref b1)]))
                      obtain ⟨_, _, ⟨T351, L351, k351, n351⟩, -, X351, ⟨Lc351, hQ351, l351, y351, z351⟩, st351⟩ := Jvm.LawKit.callS X_342 hx (y := (⟨"com/example/erotema/erotema/model/ToldEdgesCountToPinLaw", "same", "([I[I[III)Z"⟩ : MethodName)) hown (mvT hZ (hw _ (List.mem_of_getElem? (i := 93) rfl))) (mvT hZ (hw _ (List.mem_of_getElem? (i := 94) rfl))) (mvT hZ (hw _ (List.mem_of_getElem? (i := 95) rfl))) (mvT hZ (hw _ (List.mem_of_getElem? (i := 96) rfl))) (by decide) (backOf (W := 0) (rm17 l Z a0 hw [] b1 b3 b6 (3 : Int32) (0 : Int32) gs gp gt 3 0 hh_342 n0 (Nat.le_trans Z0 KK_342.1) rfl rfl q0_342 q2_342 q1_342 (by decide) (by decide)) hZ (hw _ (List.mem_of_getElem? (i := 96) rfl)) (hw _ (List.mem_of_getElem? (i := 95) rfl)) (by decide) (by decide)) (g := (mkF m 443 LL343 [(.int (0 : Int32)), (.int (3 : Int32)), (.ref b6), (.ref b3), (.ref b1)])) rfl (by rw [hml]; rfl) (argsL := [(.ref b1), (.ref b3), (.ref b6), (.int (3 : Int32)), (.int (0 : Int32))]) (rest := []) (lenOf pd_285bI5bI5bIII29Z rfl) rfl (by show 2 * 0 + _ ≤ _; exact Nat.le_of_eq rfl) (hb hby at_443) (fun _ _ => ⟨rfl, eT_342, (by decide : 17 + 0 ≤ _), (by decide : 3142 + 0 ≤ _)⟩)
                      dsimp only [Pt.U, Pt.locs, Pt.cells, Pt.slots] at X351 l351 y351 z351 st351 hQ351
                      subst l351 y351 z351
                      obtain ⟨rfl, N351q, e351⟩ := hQ351
                      have N351 := Fr.app NN_342 N351q
                      refine Wp.step st351 ?_
                      show Wp p e below _ (T351.setTop (mkF m 446 LL343 [(.int (own_b (own_same gs gp gt 3 0)))]))
                      by_cases hc352 : (own_b (own_same gs gp gt 3 0)) = (0 : Int32)
                      · refine Wp.step (fun t k => XS.ifNo X351.here hx rfl (hb hby at_446) rfl ((if0 _ _).trans (teq hc352).2) k) ?_
                        show Wp p e below _ (T351.setTop (mkF m 449 LL343 []))
                        refine Wp.step (fun t k => XS.aload X351.here hx rfl (hb hby at_449) rfl rfl k) ?_
                        show Wp p e below _ (T351.setTop (mkF m 451 LL343 [(.ref b1)]))
                        refine Wp.step (fun t k => XS.aload X351.here hx rfl (hb hby at_451) rfl rfl k) ?_
                        show Wp p e below _ (T351.setTop (mkF m 453 LL343 [(.ref b3), (.ref b1)]))
                        refine Wp.step (fun t k => XS.aload X351.here hx rfl (hb hby at_453) rfl rfl k) ?_
                        show Wp p e below _ (T351.setTop (mkF m 455 LL343 [(.ref b6), (.ref b3), (.ref b1)]))
                        refine Wp.step (fun t k => XS.iconst X351.here hx rfl (hb hby at_455) k) ?_
                        show Wp p e below _ (T351.setTop (mkF m 456 LL343 [(.int (3 : Int32)), (.ref b6), (.ref b3), (.ref b1)]))
                        refine Wp.step (fun t k => XS.iconst X351.here hx rfl (hb hby at_456) k) ?_
                        show Wp p e below _ (T351.setTop (mkF m 457 LL343 [(.int (1 : Int32)), (.int (3 : Int32)), (.ref b6), (.ref b3), (.ref b1)]))
                        obtain ⟨_, _, ⟨T353, L353, k353, n353⟩, -, X353, ⟨Lc353, hQ353, l353, y353, z353⟩, st353⟩ := Jvm.LawKit.callS X351 hx (y := (⟨"com/example/erotema/erotema/model/ToldEdgesCountToPinLaw", "same", "([I[I[III)Z"⟩ : MethodName)) hown (mvT hZ (hw _ (List.mem_of_getElem? (i := 93) rfl))) (mvT hZ (hw _ (List.mem_of_getElem? (i := 94) rfl))) (mvT hZ (hw _ (List.mem_of_getElem? (i := 95) rfl))) (mvT hZ (hw _ (List.mem_of_getElem? (i := 96) rfl))) (by decide) (backOf (W := 0) (rm17 l Z a0 hw [] b1 b3 b6 (3 : Int32) (1 : Int32) gs gp gt 3 1 hh_342 n0 (Nat.le_trans Z0 KK_342.1) rfl rfl q0_342 q2_342 q1_342 (by decide) (by decide)) hZ (hw _ (List.mem_of_getElem? (i := 96) rfl)) (hw _ (List.mem_of_getElem? (i := 95) rfl)) (by decide) (by decide)) (g := (mkF m 457 LL343 [(.int (1 : Int32)), (.int (3 : Int32)), (.ref b6), (.ref b3), (.ref b1)])) rfl (by rw [hml]; rfl) (argsL := [(.ref b1), (.ref b3), (.ref b6), (.int (3 : Int32)), (.int (1 : Int32))]) (rest := []) (lenOf pd_285bI5bI5bIII29Z rfl) rfl (by show 2 * 0 + _ ≤ _; exact Nat.le_of_eq rfl) (hb hby at_457) (fun _ _ => ⟨rfl, e351, (by decide : 17 + 0 ≤ _), (by decide : 3142 + 0 ≤ _)⟩)
                        dsimp only [Pt.U, Pt.locs, Pt.cells, Pt.slots] at X353 l353 y353 z353 st353 hQ353
                        subst l353 y353 z353
                        obtain ⟨rfl, N353q, e353⟩ := hQ353
                        have N353 := Fr.app N351 N353q
                        refine Wp.step st353 ?_
                        show Wp p e below _ (T353.setTop (mkF m 460 LL343 [(.int (own_b (own_same gs gp gt 3 1)))]))
                        by_cases hc354 : (own_b (own_same gs gp gt 3 1)) = (0 : Int32)
                        · refine Wp.step (fun t k => XS.ifNo X353.here hx rfl (hb hby at_460) rfl ((if0 _ _).trans (teq hc354).2) k) ?_
                          show Wp p e below _ (T353.setTop (mkF m 463 LL343 []))
                          refine Wp.step (fun t k => XS.aload X353.here hx rfl (hb hby at_463) rfl rfl k) ?_
                          show Wp p e below _ (T353.setTop (mkF m 465 LL343 [(.ref b1)]))
                          refine Wp.step (fun t k => XS.aload X353.here hx rfl (hb hby at_465) rfl rfl k) ?_
                          show Wp p e below _ (T353.setTop (mkF m 467 LL343 [(.ref b3), (.ref b1)]))
                          refine Wp.step (fun t k => XS.aload X353.here hx rfl (hb hby at_467) rfl rfl k) ?_
                          show Wp p e below _ (T353.setTop (mkF m 469 LL343 [(.ref b6), (.ref b3), (.ref b1)]))
                          refine Wp.step (fun t k => XS.iconst X353.here hx rfl (hb hby at_469) k) ?_
                          show Wp p e below _ (T353.setTop (mkF m 470 LL343 [(.int (3 : Int32)), (.ref b6), (.ref b3), (.ref b1)]))
                          refine Wp.step (fun t k => XS.iconst X353.here hx rfl (hb hby at_470) k) ?_
                          show Wp p e below _ (T353.setTop (mkF m 471 LL343 [(.int (2 : Int32)), (.int (3 : Int32)), (.ref b6), (.ref b3), (.ref b1)]))
                          obtain ⟨_, _, ⟨T355, L355, k355, n355⟩, -, X355, ⟨Lc355, hQ355, l355, y355, z355⟩, st355⟩ := Jvm.LawKit.callS X353 hx (y := (⟨"com/example/erotema/erotema/model/ToldEdgesCountToPinLaw", "same", "([I[I[III)Z"⟩ : MethodName)) hown (mvT hZ (hw _ (List.mem_of_getElem? (i := 93) rfl))) (mvT hZ (hw _ (List.mem_of_getElem? (i := 94) rfl))) (mvT hZ (hw _ (List.mem_of_getElem? (i := 95) rfl))) (mvT hZ (hw _ (List.mem_of_getElem? (i := 96) rfl))) (by decide) (backOf (W := 0) (rm17 l Z a0 hw [] b1 b3 b6 (3 : Int32) (2 : Int32) gs gp gt 3 2 hh_342 n0 (Nat.le_trans Z0 KK_342.1) rfl rfl q0_342 q2_342 q1_342 (by decide) (by decide)) hZ (hw _ (List.mem_of_getElem? (i := 96) rfl)) (hw _ (List.mem_of_getElem? (i := 95) rfl)) (by decide) (by decide)) (g := (mkF m 471 LL343 [(.int (2 : Int32)), (.int (3 : Int32)), (.ref b6), (.ref b3), (.ref b1)])) rfl (by rw [hml]; rfl) (argsL := [(.ref b1), (.ref b3), (.ref b6), (.int (3 : Int32)), (.int (2 : Int32))]) (rest := []) (lenOf pd_285bI5bI5bIII29Z rfl) rfl (by show 2 * 0 + _ ≤ _; exact Nat.le_of_eq rfl) (hb hby at_471) (fun _ _ => ⟨rfl, e353, (by decide : 17 + 0 ≤ _), (by decide : 3142 + 0 ≤ _)⟩)
                          dsimp only [Pt.U, Pt.locs, Pt.cells, Pt.slots] at X355 l355 y355 z355 st355 hQ355
                          subst l355 y355 z355
                          obtain ⟨rfl, N355q, e355⟩ := hQ355
                          have N355 := Fr.app N353 N355q
                          refine Wp.step st355 ?_
                          show Wp p e below _ (T355.setTop (mkF m 474 LL343 [(.int (own_b (own_same gs gp gt 3 2)))]))
                          by_cases hc356 : (own_b (own_same gs gp gt 3 2)) = (0 : Int32)
                          · refine Wp.step (fun t k => XS.ifNo X355.here hx rfl (hb hby at_474) rfl ((if0 _ _).trans (teq hc356).2) k) ?_
                            show Wp p e below _ (T355.setTop (mkF m 477 LL343 []))
                            refine Wp.step (fun t k => XS.iinc X355.here hx rfl (hb hby at_477) rfl (l' := #[.val (.int p0), .val (.int p1), .val (.int p2), .val (.int p3), .val (.int p4), .val (.int p5), .val (.int (Int32.ofNat nw)), .val (.int (4 : Int32)), .val (.ref b1), .val (.ref b3), .val (.ref b6), .val (.int (Int32.ofNat qw)), .val (.ref b64), .val (.int (cv3 + (1 : Int32)))]) rfl k) ?_
                            show Wp p e below _ (T355.setTop (mkF m 480 #[.val (.int p0), .val (.int p1), .val (.int p2), .val (.int p3), .val (.int p4), .val (.int p5), .val (.int (Int32.ofNat nw)), .val (.int (4 : Int32)), .val (.ref b1), .val (.ref b3), .val (.ref b6), .val (.int (Int32.ofNat qw)), .val (.ref b64), .val (.int (cv3 + (1 : Int32)))] []))
                            exact kont344 _ _ _ T355 X355 e355 N355 KK_342 q0_342 q1_342 q2_342 q3_342 q4_342 q5_342 q6_342 q7_342 q8_342 q9_342 q10_342 (Eq.trans (congrArg (· + 1) hcv3) (own_ey_pos (S := gs) (R := gp) (T := gt) (q := (Int32.ofNat qw)) (c := 3) ⟨hc350, (own_aS (own_aS (own_aS own_a0 (own_b0.mp hc352)) (own_b0.mp hc354)) (own_b0.mp hc356))⟩).symm)
                          · refine Wp.step (fun t k => XS.ifYes X355.here hx rfl (pc0 := 474) (pc' := 480) rfl (hb hby at_474) rfl ((if0 _ _).trans (feq hc356).2) (by decide) (by decide) k) ?_
                            show Wp p e below _ (T355.setTop (mkF m 480 LL343 []))
                            exact kont344 _ _ _ T355 X355 e355 N355 KK_342 q0_342 q1_342 q2_342 q3_342 q4_342 q5_342 q6_342 q7_342 q8_342 q9_342 q10_342 (Eq.trans hcv3 (own_ey_neg (S := gs) (R := gp) (T := gt) (q := (Int32.ofNat qw)) (c := 3) (fun q => q.2 2 (by decide) (Classical.byContradiction fun z => hc356 (own_b0.mpr z)))).symm)
                        · refine Wp.step (fun t k => XS.ifYes X353.here hx rfl (pc0 := 460) (pc' := 480) rfl (hb hby at_460) rfl ((if0 _ _).trans (feq hc354).2) (by decide) (by decide) k) ?_
                          show Wp p e below _ (T353.setTop (mkF m 480 LL343 []))
                          exact kont344 _ _ _ T353 X353 e353 N353 KK_342 q0_342 q1_342 q2_342 q3_342 q4_342 q5_342 q6_342 q7_342 q8_342 q9_342 q10_342 (Eq.trans hcv3 (own_ey_neg (S := gs) (R := gp) (T := gt) (q := (Int32.ofNat qw)) (c := 3) (fun q => q.2 1 (by decide) (Classical.byContradiction fun z => hc354 (own_b0.mpr z)))).symm)
                      · refine Wp.step (fun t k => XS.ifYes X351.here hx rfl (pc0 := 446) (pc' := 480) rfl (hb hby at_446) rfl ((if0 _ _).trans (feq hc352).2) (by decide) (by decide) k) ?_
                        show Wp p e below _ (T351.setTop (mkF m 480 LL343 []))
                        exact kont344 _ _ _ T351 X351 e351 N351 KK_342 q0_342 q1_342 q2_342 q3_342 q4_342 q5_342 q6_342 q7_342 q8_342 q9_342 q10_342 (Eq.trans hcv3 (own_ey_neg (S := gs) (R := gp) (T := gt) (q := (Int32.ofNat qw)) (c := 3) (fun q => q.2 0 (by decide) (Classical.byContradiction fun z => hc352 (own_b0.mpr z)))).symm)
                    · refine Wp.step (fun t k => XS.icmpYes X_342.here hx rfl (pc0 := 432) (pc' := 480) rfl (hb hby at_432) rfl (feq hc350).2 (by decide) (by decide) k) ?_
                      show Wp p e below _ (T_342.setTop (mkF m 480 LL343 []))
                      exact kont344 _ _ _ T_342 X_342 eT_342 NN_342 KK_342 q0_342 q1_342 q2_342 q3_342 q4_342 q5_342 q6_342 q7_342 q8_342 q9_342 q10_342 (Eq.trans hcv3 (own_ey_neg (S := gs) (R := gp) (T := gt) (q := (Int32.ofNat qw)) (c := 3) (fun q => hc350 q.1)).symm)
                  refine Wp.step (fun t k => XS.iload X_340.here hx rfl (hb hby at_374) rfl k) ?_
                  show Wp p e below _ (T_340.setTop (mkF m 376 LL341 [(.int (4 : Int32))]))
                  refine Wp.step (fun t k => XS.iconst X_340.here hx rfl (hb hby at_376) k) ?_
                  show Wp p e below _ (T_340.setTop (mkF m 377 LL341 [(.int (2 : Int32)), (.int (4 : Int32))]))
                  refine Wp.step (fun t k => XS.icmpNo X_340.here hx rfl (hb hby at_377) rfl (tlt (show (2 : Int32) < (4 : Int32) by decide)).2.2.2 k) ?_
                  show Wp p e below _ (T_340.setTop (mkF m 380 LL341 []))
                  refine Wp.step (fun t k => XS.aload X_340.here hx rfl (hb hby at_380) rfl rfl k) ?_
                  show Wp p e below _ (T_340.setTop (mkF m 382 LL341 [(.ref b6)]))
                  refine Wp.step (fun t k => XS.iconst X_340.here hx rfl (hb hby at_382) k) ?_
                  show Wp p e below _ (T_340.setTop (mkF m 383 LL341 [(.int (2 : Int32)), (.ref b6)]))
                  obtain ⟨cl358, Ar358, Sz358, Nn358, El358⟩ := id q1_340
                  have hin358 : ¬ ((2 : Int32) < 0 ∨ cl358.slots.size ≤ ((2 : Int32)).toNatClampNeg) := inb_of Sz358 ⟨by decide, by decide⟩
                  have hat358 : cl358.slots[((2 : Int32)).toNatClampNeg]? = some (.int (gt ((2 : Int32)).toNatClampNeg)) := (El358 _ (by have q := Nat.lt_of_not_le fun q => hin358 (Or.inr q); rw [Sz358] at q; exact q)).1
                  rw [show (gt ((2 : Int32)).toNatClampNeg) = (gt 2) from rfl] at hat358
                  refine Wp.step (X_340.iaload hx (j := (2 : Int32)) (v := (.int (gt 2))) (by rw [eT_340]; exact Ar358.1) (State.isArrayOf_alike hZ.alike Ar358.2.1) Ar358.2.2 hin358 hat358 (g := (mkF m 383 LL341 [(.int (2 : Int32)), (.ref b6)])) rfl rfl (hb hby at_383)) ?_
                  show Wp p e below _ (T_340.setTop (mkF m 384 LL341 [(.int (gt 2))]))
                  refine Wp.step (fun t k => XS.iload X_340.here hx rfl (hb hby at_384) rfl k) ?_
                  show Wp p e below _ (T_340.setTop (mkF m 386 LL341 [(.int (Int32.ofNat qw)), (.int (gt 2))]))
                  by_cases hc359 : (gt 2) = (Int32.ofNat qw)
                  · refine Wp.step (fun t k => XS.icmpNo X_340.here hx rfl (hb hby at_386) rfl (teq hc359).2 k) ?_
                    show Wp p e below _ (T_340.setTop (mkF m 389 LL341 []))
                    refine Wp.step (fun t k => XS.aload X_340.here hx rfl (hb hby at_389) rfl rfl k) ?_
                    show Wp p e below _ (T_340.setTop (mkF m 391 LL341 [(.ref b1)]))
                    refine Wp.step (fun t k => XS.aload X_340.here hx rfl (hb hby at_391) rfl rfl k) ?_
                    show Wp p e below _ (T_340.setTop (mkF m 393 LL341 [(.ref b3), (.ref b1)]))
                    refine Wp.step (fun t k => XS.aload X_340.here hx rfl (hb hby at_393) rfl rfl k) ?_
                    show Wp p e below _ (T_340.setTop (mkF m 395 LL341 [(.ref b6), (.ref b3), (.ref b1)]))
                    refine Wp.step (fun t k => XS.iconst X_340.here hx rfl (hb hby at_395) k) ?_
                    show Wp p e below _ (T_340.setTop (mkF m 396 LL341 [(.int (2 : Int32)), (.ref b6), (.ref b3), (.ref b1)]))
                    refine Wp.step (fun t k => XS.iconst X_340.here hx rfl (hb hby at_396) k) ?_
                    show Wp p e below _ (T_340.setTop (mkF m 397 LL341 [(.int (0 : Int32)), (.int (2 : Int32)), (.ref b6), (.ref b3), (.ref b1)]))
                    obtain ⟨_, _, ⟨T360, L360, k360, n360⟩, -, X360, ⟨Lc360, hQ360, l360, y360, z360⟩, st360⟩ := Jvm.LawKit.callS X_340 hx (y := (⟨"com/example/erotema/erotema/model/ToldEdgesCountToPinLaw", "same", "([I[I[III)Z"⟩ : MethodName)) hown (mvT hZ (hw _ (List.mem_of_getElem? (i := 93) rfl))) (mvT hZ (hw _ (List.mem_of_getElem? (i := 94) rfl))) (mvT hZ (hw _ (List.mem_of_getElem? (i := 95) rfl))) (mvT hZ (hw _ (List.mem_of_getElem? (i := 96) rfl))) (by decide) (backOf (W := 0) (rm17 l Z a0 hw [] b1 b3 b6 (2 : Int32) (0 : Int32) gs gp gt 2 0 hh_340 n0 (Nat.le_trans Z0 KK_340.1) rfl rfl q0_340 q2_340 q1_340 (by decide) (by decide)) hZ (hw _ (List.mem_of_getElem? (i := 96) rfl)) (hw _ (List.mem_of_getElem? (i := 95) rfl)) (by decide) (by decide)) (g := (mkF m 397 LL341 [(.int (0 : Int32)), (.int (2 : Int32)), (.ref b6), (.ref b3), (.ref b1)])) rfl (by rw [hml]; rfl) (argsL := [(.ref b1), (.ref b3), (.ref b6), (.int (2 : Int32)), (.int (0 : Int32))]) (rest := []) (lenOf pd_285bI5bI5bIII29Z rfl) rfl (by show 2 * 0 + _ ≤ _; exact Nat.le_of_eq rfl) (hb hby at_397) (fun _ _ => ⟨rfl, eT_340, (by decide : 17 + 0 ≤ _), (by decide : 3142 + 0 ≤ _)⟩)
                    dsimp only [Pt.U, Pt.locs, Pt.cells, Pt.slots] at X360 l360 y360 z360 st360 hQ360
                    subst l360 y360 z360
                    obtain ⟨rfl, N360q, e360⟩ := hQ360
                    have N360 := Fr.app NN_340 N360q
                    refine Wp.step st360 ?_
                    show Wp p e below _ (T360.setTop (mkF m 400 LL341 [(.int (own_b (own_same gs gp gt 2 0)))]))
                    by_cases hc361 : (own_b (own_same gs gp gt 2 0)) = (0 : Int32)
                    · refine Wp.step (fun t k => XS.ifNo X360.here hx rfl (hb hby at_400) rfl ((if0 _ _).trans (teq hc361).2) k) ?_
                      show Wp p e below _ (T360.setTop (mkF m 403 LL341 []))
                      refine Wp.step (fun t k => XS.aload X360.here hx rfl (hb hby at_403) rfl rfl k) ?_
                      show Wp p e below _ (T360.setTop (mkF m 405 LL341 [(.ref b1)]))
                      refine Wp.step (fun t k => XS.aload X360.here hx rfl (hb hby at_405) rfl rfl k) ?_
                      show Wp p e below _ (T360.setTop (mkF m 407 LL341 [(.ref b3), (.ref b1)]))
                      refine Wp.step (fun t k => XS.aload X360.here hx rfl (hb hby at_407) rfl rfl k) ?_
                      show Wp p e below _ (T360.setTop (mkF m 409 LL341 [(.ref b6), (.ref b3), (.ref b1)]))
                      refine Wp.step (fun t k => XS.iconst X360.here hx rfl (hb hby at_409) k) ?_
                      show Wp p e below _ (T360.setTop (mkF m 410 LL341 [(.int (2 : Int32)), (.ref b6), (.ref b3), (.ref b1)]))
                      refine Wp.step (fun t k => XS.iconst X360.here hx rfl (hb hby at_410) k) ?_
                      show Wp p e below _ (T360.setTop (mkF m 411 LL341 [(.int (1 : Int32)), (.int (2 : Int32)), (.ref b6), (.ref b3), (.ref b1)]))
                      obtain ⟨_, _, ⟨T362, L362, k362, n362⟩, -, X362, ⟨Lc362, hQ362, l362, y362, z362⟩, st362⟩ := Jvm.LawKit.callS X360 hx (y := (⟨"com/example/erotema/erotema/model/ToldEdgesCountToPinLaw", "same", "([I[I[III)Z"⟩ : MethodName)) hown (mvT hZ (hw _ (List.mem_of_getElem? (i := 93) rfl))) (mvT hZ (hw _ (List.mem_of_getElem? (i := 94) rfl))) (mvT hZ (hw _ (List.mem_of_getElem? (i := 95) rfl))) (mvT hZ (hw _ (List.mem_of_getElem? (i := 96) rfl))) (by decide) (backOf (W := 0) (rm17 l Z a0 hw [] b1 b3 b6 (2 : Int32) (1 : Int32) gs gp gt 2 1 hh_340 n0 (Nat.le_trans Z0 KK_340.1) rfl rfl q0_340 q2_340 q1_340 (by decide) (by decide)) hZ (hw _ (List.mem_of_getElem? (i := 96) rfl)) (hw _ (List.mem_of_getElem? (i := 95) rfl)) (by decide) (by decide)) (g := (mkF m 411 LL341 [(.int (1 : Int32)), (.int (2 : Int32)), (.ref b6), (.ref b3), (.ref b1)])) rfl (by rw [hml]; rfl) (argsL := [(.ref b1), (.ref b3), (.ref b6), (.int (2 : Int32)), (.int (1 : Int32))]) (rest := []) (lenOf pd_285bI5bI5bIII29Z rfl) rfl (by show 2 * 0 + _ ≤ _; exact Nat.le_of_eq rfl) (hb hby at_411) (fun _ _ => ⟨rfl, e360, (by decide : 17 + 0 ≤ _), (by decide : 3142 + 0 ≤ _)⟩)
                      dsimp only [Pt.U, Pt.locs, Pt.cells, Pt.slots] at X362 l362 y362 z362 st362 hQ362
                      subst l362 y362 z362
                      obtain ⟨rfl, N362q, e362⟩ := hQ362
                      have N362 := Fr.app N360 N362q
                      refine Wp.step st362 ?_
                      show Wp p e below _ (T362.setTop (mkF m 414 LL341 [(.int (own_b (own_same gs gp gt 2 1)))]))
                      by_cases hc363 : (own_b (own_same gs gp gt 2 1)) = (0 : Int32)
                      · refine Wp.step (fun t k => XS.ifNo X362.here hx rfl (hb hby at_414) rfl ((if0 _ _).trans (teq hc363).2) k) ?_
                        show Wp p e below _ (T362.setTop (mkF m 417 LL341 []))
                        refine Wp.step (fun t k => XS.iinc X362.here hx rfl (hb hby at_417) rfl (l' := #[.val (.int p0), .val (.int p1), .val (.int p2), .val (.int p3), .val (.int p4), .val (.int p5), .val (.int (Int32.ofNat nw)), .val (.int (4 : Int32)), .val (.ref b1), .val (.ref b3), .val (.ref b6), .val (.int (Int32.ofNat qw)), .val (.ref b64), .val (.int (cv2 + (1 : Int32)))]) rfl k) ?_
                        show Wp p e below _ (T362.setTop (mkF m 420 #[.val (.int p0), .val (.int p1), .val (.int p2), .val (.int p3), .val (.int p4), .val (.int p5), .val (.int (Int32.ofNat nw)), .val (.int (4 : Int32)), .val (.ref b1), .val (.ref b3), .val (.ref b6), .val (.int (Int32.ofNat qw)), .val (.ref b64), .val (.int (cv2 + (1 : Int32)))] []))
                        exact kont342 _ _ _ T362 X362 e362 N362 KK_340 q0_340 q1_340 q2_340 q3_340 q4_340 q5_340 q6_340 q7_340 q8_340 q9_340 q10_340 (Eq.trans (congrArg (· + 1) hcv2) (own_ey_pos (S := gs) (R := gp) (T := gt) (q := (Int32.ofNat qw)) (c := 2) ⟨hc359, (own_aS (own_aS own_a0 (own_b0.mp hc361)) (own_b0.mp hc363))⟩).symm)
                      · refine Wp.step (fun t k => XS.ifYes X362.here hx rfl (pc0 := 414) (pc' := 420) rfl (hb hby at_414) rfl ((if0 _ _).trans (feq hc363).2) (by decide) (by decide) k) ?_
                        show Wp p e below _ (T362.setTop (mkF m 420 LL341 []))
                        exact kont342 _ _ _ T362 X362 e362 N362 KK_340 q0_340 q1_340 q2_340 q3_340 q4_340 q5_340 q6_340 q7_340 q8_340 q9_340 q10_340 (Eq.trans hcv2 (own_ey_neg (S := gs) (R := gp) (T := gt) (q := (Int32.ofNat qw)) (c := 2) (fun q => q.2 1 (by decide) (Classical.byContradiction fun z => hc363 (own_b0.mpr z)))).symm)
                    · refine Wp.step (fun t k => XS.ifYes X360.here hx rfl (pc0 := 400) (pc' := 420) rfl (hb hby at_400) rfl ((if0 _ _).trans (feq hc361).2) (by decide) (by decide) k) ?_
                      show Wp p e below _ (T360.setTop (mkF m 420 LL341 []))
                      exact kont342 _ _ _ T360 X360 e360 N360 KK_340 q0_340 q1_340 q2_340 q3_340 q4_340 q5_340 q6_340 q7_340 q8_340 q9_340 q10_340 (Eq.trans hcv2 (own_ey_neg (S := gs) (R := gp) (T := gt) (q := (Int32.ofNat qw)) (c := 2) (fun q => q.2 0 (by decide) (Classical.byContradiction fun z => hc361 (own_b0.mpr z)))).symm)
                  · refine Wp.step (fun t k => XS.icmpYes X_340.here hx rfl (pc0 := 386) (pc' := 420) rfl (hb hby at_386) rfl (feq hc359).2 (by decide) (by decide) k) ?_
                    show Wp p e below _ (T_340.setTop (mkF m 420 LL341 []))
                    exact kont342 _ _ _ T_340 X_340 eT_340 NN_340 KK_340 q0_340 q1_340 q2_340 q3_340 q4_340 q5_340 q6_340 q7_340 q8_340 q9_340 q10_340 (Eq.trans hcv2 (own_ey_neg (S := gs) (R := gp) (T := gt) (q := (Int32.ofNat qw)) (c := 2) (fun q => hc359 q.1)).symm)
                refine Wp.step (fun t k => XS.iload X_338.here hx rfl (hb hby at_342) rfl k) ?_
                show Wp p e below _ (T_338.setTop (mkF m 344 LL339 [(.int (4 : Int32))]))
                refine Wp.step (fun t k => XS.iconst X_338.here hx rfl (hb hby at_344) k) ?_
                show Wp p e below _ (T_338.setTop (mkF m 345 LL339 [(.int (1 : Int32)), (.int (4 : Int32))]))
                refine Wp.step (fun t k => XS.icmpNo X_338.here hx rfl (hb hby at_345) rfl (tlt (show (1 : Int32) < (4 : Int32) by decide)).2.2.2 k) ?_
                show Wp p e below _ (T_338.setTop (mkF m 348 LL339 []))
                refine Wp.step (fun t k => XS.aload X_338.here hx rfl (hb hby at_348) rfl rfl k) ?_
                show Wp p e below _ (T_338.setTop (mkF m 350 LL339 [(.ref b6)]))
                refine Wp.step (fun t k => XS.iconst X_338.here hx rfl (hb hby at_350) k) ?_
                show Wp p e below _ (T_338.setTop (mkF m 351 LL339 [(.int (1 : Int32)), (.ref b6)]))
                obtain ⟨cl365, Ar365, Sz365, Nn365, El365⟩ := id q1_338
                have hin365 : ¬ ((1 : Int32) < 0 ∨ cl365.slots.size ≤ ((1 : Int32)).toNatClampNeg) := inb_of Sz365 ⟨by decide, by decide⟩
                have hat365 : cl365.slots[((1 : Int32)).toNatClampNeg]? = some (.int (gt ((1 : Int32)).toNatClampNeg)) := (El365 _ (by have q := Nat.lt_of_not_le fun q => hin365 (Or.inr q); rw [Sz365] at q; exact q)).1
                rw [show (gt ((1 : Int32)).toNatClampNeg) = (gt 1) from rfl] at hat365
                refine Wp.step (X_338.iaload hx (j := (1 : Int32)) (v := (.int (gt 1))) (by rw [eT_338]; exact Ar365.1) (State.isArrayOf_alike hZ.alike Ar365.2.1) Ar365.2.2 hin365 hat365 (g := (mkF m 351 LL339 [(.int (1 : Int32)), (.ref b6)])) rfl rfl (hb hby at_351)) ?_
                show Wp p e below _ (T_338.setTop (mkF m 352 LL339 [(.int (gt 1))]))
                refine Wp.step (fun t k => XS.iload X_338.here hx rfl (hb hby at_352) rfl k) ?_
                show Wp p e below _ (T_338.setTop (mkF m 354 LL339 [(.int (Int32.ofNat qw)), (.int (gt 1))]))
                by_cases hc366 : (gt 1) = (Int32.ofNat qw)
                · refine Wp.step (fun t k => XS.icmpNo X_338.here hx rfl (hb hby at_354) rfl (teq hc366).2 k) ?_
                  show Wp p e below _ (T_338.setTop (mkF m 357 LL339 []))
                  refine Wp.step (fun t k => XS.aload X_338.here hx rfl (hb hby at_357) rfl rfl k) ?_
                  show Wp p e below _ (T_338.setTop (mkF m 359 LL339 [(.ref b1)]))
                  refine Wp.step (fun t k => XS.aload X_338.here hx rfl (hb hby at_359) rfl rfl k) ?_
                  show Wp p e below _ (T_338.setTop (mkF m 361 LL339 [(.ref b3), (.ref b1)]))
                  refine Wp.step (fun t k => XS.aload X_338.here hx rfl (hb hby at_361) rfl rfl k) ?_
                  show Wp p e below _ (T_338.setTop (mkF m 363 LL339 [(.ref b6), (.ref b3), (.ref b1)]))
                  refine Wp.step (fun t k => XS.iconst X_338.here hx rfl (hb hby at_363) k) ?_
                  show Wp p e below _ (T_338.setTop (mkF m 364 LL339 [(.int (1 : Int32)), (.ref b6), (.ref b3), (.ref b1)]))
                  refine Wp.step (fun t k => XS.iconst X_338.here hx rfl (hb hby at_364) k) ?_
                  show Wp p e below _ (T_338.setTop (mkF m 365 LL339 [(.int (0 : Int32)), (.int (1 : Int32)), (.ref b6), (.ref b3), (.ref b1)]))
                  obtain ⟨_, _, ⟨T367, L367, k367, n367⟩, -, X367, ⟨Lc367, hQ367, l367, y367, z367⟩, st367⟩ := Jvm.LawKit.callS X_338 hx (y := (⟨"com/example/erotema/erotema/model/ToldEdgesCountToPinLaw", "same", "([I[I[III)Z"⟩ : MethodName)) hown (mvT hZ (hw _ (List.mem_of_getElem? (i := 93) rfl))) (mvT hZ (hw _ (List.mem_of_getElem? (i := 94) rfl))) (mvT hZ (hw _ (List.mem_of_getElem? (i := 95) rfl))) (mvT hZ (hw _ (List.mem_of_getElem? (i := 96) rfl))) (by decide) (backOf (W := 0) (rm17 l Z a0 hw [] b1 b3 b6 (1 : Int32) (0 : Int32) gs gp gt 1 0 hh_338 n0 (Nat.le_trans Z0 KK_338.1) rfl rfl q0_338 q2_338 q1_338 (by decide) (by decide)) hZ (hw _ (List.mem_of_getElem? (i := 96) rfl)) (hw _ (List.mem_of_getElem? (i := 95) rfl)) (by decide) (by decide)) (g := (mkF m 365 LL339 [(.int (0 : Int32)), (.int (1 : Int32)), (.ref b6), (.ref b3), (.ref b1)])) rfl (by rw [hml]; rfl) (argsL := [(.ref b1), (.ref b3), (.ref b6), (.int (1 : Int32)), (.int (0 : Int32))]) (rest := []) (lenOf pd_285bI5bI5bIII29Z rfl) rfl (by show 2 * 0 + _ ≤ _; exact Nat.le_of_eq rfl) (hb hby at_365) (fun _ _ => ⟨rfl, eT_338, (by decide : 17 + 0 ≤ _), (by decide : 3142 + 0 ≤ _)⟩)
                  dsimp only [Pt.U, Pt.locs, Pt.cells, Pt.slots] at X367 l367 y367 z367 st367 hQ367
                  subst l367 y367 z367
                  obtain ⟨rfl, N367q, e367⟩ := hQ367
                  have N367 := Fr.app NN_338 N367q
                  refine Wp.step st367 ?_
                  show Wp p e below _ (T367.setTop (mkF m 368 LL339 [(.int (own_b (own_same gs gp gt 1 0)))]))
                  by_cases hc368 : (own_b (own_same gs gp gt 1 0)) = (0 : Int32)
                  · refine Wp.step (fun t k => XS.ifNo X367.here hx rfl (hb hby at_368) rfl ((if0 _ _).trans (teq hc368).2) k) ?_
                    show Wp p e below _ (T367.setTop (mkF m 371 LL339 []))
                    refine Wp.step (fun t k => XS.iinc X367.here hx rfl (hb hby at_371) rfl (l' := #[.val (.int p0), .val (.int p1), .val (.int p2), .val (.int p3), .val (.int p4), .val (.int p5), .val (.int (Int32.ofNat nw)), .val (.int (4 : Int32)), .val (.ref b1), .val (.ref b3), .val (.ref b6), .val (.int (Int32.ofNat qw)), .val (.ref b64), .val (.int (cv1 + (1 : Int32)))]) rfl k) ?_
                    show Wp p e below _ (T367.setTop (mkF m 374 #[.val (.int p0), .val (.int p1), .val (.int p2), .val (.int p3), .val (.int p4), .val (.int p5), .val (.int (Int32.ofNat nw)), .val (.int (4 : Int32)), .val (.ref b1), .val (.ref b3), .val (.ref b6), .val (.int (Int32.ofNat qw)), .val (.ref b64), .val (.int (cv1 + (1 : Int32)))] []))
                    exact kont340 _ _ _ T367 X367 e367 N367 KK_338 q0_338 q1_338 q2_338 q3_338 q4_338 q5_338 q6_338 q7_338 q8_338 q9_338 q10_338 (Eq.trans (congrArg (· + 1) hcv1) (own_ey_pos (S := gs) (R := gp) (T := gt) (q := (Int32.ofNat qw)) (c := 1) ⟨hc366, (own_aS own_a0 (own_b0.mp hc368))⟩).symm)
                  · refine Wp.step (fun t k => XS.ifYes X367.here hx rfl (pc0 := 368) (pc' := 374) rfl (hb hby at_368) rfl ((if0 _ _).trans (feq hc368).2) (by decide) (by decide) k) ?_
                    show Wp p e below _ (T367.setTop (mkF m 374 LL339 []))
                    exact kont340 _ _ _ T367 X367 e367 N367 KK_338 q0_338 q1_338 q2_338 q3_338 q4_338 q5_338 q6_338 q7_338 q8_338 q9_338 q10_338 (Eq.trans hcv1 (own_ey_neg (S := gs) (R := gp) (T := gt) (q := (Int32.ofNat qw)) (c := 1) (fun q => q.2 0 (by decide) (Classical.byContradiction fun z => hc368 (own_b0.mpr z)))).symm)
                · refine Wp.step (fun t k => XS.icmpYes X_338.here hx rfl (pc0 := 354) (pc' := 374) rfl (hb hby at_354) rfl (feq hc366).2 (by decide) (by decide) k) ?_
                  show Wp p e below _ (T_338.setTop (mkF m 374 LL339 []))
                  exact kont340 _ _ _ T_338 X_338 eT_338 NN_338 KK_338 q0_338 q1_338 q2_338 q3_338 q4_338 q5_338 q6_338 q7_338 q8_338 q9_338 q10_338 (Eq.trans hcv1 (own_ey_neg (S := gs) (R := gp) (T := gt) (q := (Int32.ofNat qw)) (c := 1) (fun q => hc366 q.1)).symm)
              refine Wp.step (fun t k => XS.iload X329.here hx rfl (hb hby at_325) rfl k) ?_
              show Wp p e below _ (T329.setTop (mkF m 327 LL337 [(.int (4 : Int32))]))
              refine Wp.step (fun t k => XS.ifNo X329.here hx rfl (hb hby at_327) rfl ((if0 _ _).trans (tlt (show (0 : Int32) < (4 : Int32) by decide)).2.2.2) k) ?_
              show Wp p e below _ (T329.setTop (mkF m 330 LL337 []))
              refine Wp.step (fun t k => XS.aload X329.here hx rfl (hb hby at_330) rfl rfl k) ?_
              show Wp p e below _ (T329.setTop (mkF m 332 LL337 [(.ref b6)]))
              refine Wp.step (fun t k => XS.iconst X329.here hx rfl (hb hby at_332) k) ?_
              show Wp p e below _ (T329.setTop (mkF m 333 LL337 [(.int (0 : Int32)), (.ref b6)]))
              obtain ⟨cl370, Ar370, Sz370, Nn370, El370⟩ := id B331
              have hin370 : ¬ ((0 : Int32) < 0 ∨ cl370.slots.size ≤ ((0 : Int32)).toNatClampNeg) := inb_of Sz370 ⟨by decide, by decide⟩
              have hat370 : cl370.slots[((0 : Int32)).toNatClampNeg]? = some (.int (gt ((0 : Int32)).toNatClampNeg)) := (El370 _ (by have q := Nat.lt_of_not_le fun q => hin370 (Or.inr q); rw [Sz370] at q; exact q)).1
              rw [show (gt ((0 : Int32)).toNatClampNeg) = (gt 0) from rfl] at hat370
              refine Wp.step (X329.iaload hx (j := (0 : Int32)) (v := (.int (gt 0))) (by rw [e329]; exact Ar370.1) (State.isArrayOf_alike hZ.alike Ar370.2.1) Ar370.2.2 hin370 hat370 (g := (mkF m 333 LL337 [(.int (0 : Int32)), (.ref b6)])) rfl rfl (hb hby at_333)) ?_
              show Wp p e below _ (T329.setTop (mkF m 334 LL337 [(.int (gt 0))]))
              refine Wp.step (fun t k => XS.iload X329.here hx rfl (hb hby at_334) rfl k) ?_
              show Wp p e below _ (T329.setTop (mkF m 336 LL337 [(.int (Int32.ofNat qw)), (.int (gt 0))]))
              by_cases hc371 : (gt 0) = (Int32.ofNat qw)
              · refine Wp.step (fun t k => XS.icmpNo X329.here hx rfl (hb hby at_336) rfl (teq hc371).2 k) ?_
                show Wp p e below _ (T329.setTop (mkF m 339 LL337 []))
                refine Wp.step (fun t k => XS.iinc X329.here hx rfl (hb hby at_339) rfl (l' := #[.val (.int p0), .val (.int p1), .val (.int p2), .val (.int p3), .val (.int p4), .val (.int p5), .val (.int (Int32.ofNat nw)), .val (.int (4 : Int32)), .val (.ref b1), .val (.ref b3), .val (.ref b6), .val (.int (Int32.ofNat qw)), .val (.ref b64), .val (.int ((0 : Int32) + (1 : Int32)))]) rfl k) ?_
                show Wp p e below _ (T329.setTop (mkF m 342 #[.val (.int p0), .val (.int p1), .val (.int p2), .val (.int p3), .val (.int p4), .val (.int p5), .val (.int (Int32.ofNat nw)), .val (.int (4 : Int32)), .val (.ref b1), .val (.ref b3), .val (.ref b6), .val (.int (Int32.ofNat qw)), .val (.ref b64), .val (.int ((0 : Int32) + (1 : Int32)))] []))
                exact kont338 _ _ _ T329 X329 e329 N329 K329 B330 B331 B332 cE329 B334 B335 B336 cs329 ct329 Bs329 Bt329 (Eq.trans (congrArg (· + 1) (show (0 : Int32) = own_ey gs gp gt (Int32.ofNat qw) 0 from rfl)) (own_ey_pos (S := gs) (R := gp) (T := gt) (q := (Int32.ofNat qw)) (c := 0) ⟨hc371, own_a0⟩).symm)
              · refine Wp.step (fun t k => XS.icmpYes X329.here hx rfl (pc0 := 336) (pc' := 342) rfl (hb hby at_336) rfl (feq hc371).2 (by decide) (by decide) k) ?_
                show Wp p e below _ (T329.setTop (mkF m 342 LL337 []))
                exact kont338 _ _ _ T329 X329 e329 N329 K329 B330 B331 B332 cE329 B334 B335 B336 cs329 ct329 Bs329 Bt329 (Eq.trans rfl (own_ey_neg (S := gs) (R := gp) (T := gt) (q := (Int32.ofNat qw)) (c := 0) (fun q => hc371 q.1)).symm)
          refine Wp.step (fun t k => XS.iload X58.here hx rfl (hb hby at_191) rfl k) ?_
          show Wp p e below _ (T58.setTop (mkF m 193 LL62 [(.int p5)]))
          refine Wp.step (fun t k => XS.iconst X58.here hx rfl (hb hby at_193) k) ?_
          show Wp p e below _ (T58.setTop (mkF m 194 LL62 [(.int (1 : Int32)), (.int p5)]))
          refine Wp.step (fun t k => XS.iand X58.here hx rfl (hb hby at_194) rfl k) ?_
          show Wp p e below _ (T58.setTop (mkF m 195 LL62 [(.int (p5 &&& (1 : Int32)))]))
          by_cases hc372 : (p5 &&& (1 : Int32)) = (0 : Int32)
          · refine Wp.step (fun t k => XS.ifYes X58.here hx rfl (pc0 := 195) (pc' := 208) rfl (hb hby at_195) rfl ((if0 _ _).trans (teq hc372).1) (by decide) (by decide) k) ?_
            show Wp p e below _ (T58.setTop (mkF m 208 LL62 []))
            refine Wp.step (fun t k => XS.iload X58.here hx rfl (hb hby at_208) rfl k) ?_
            show Wp p e below _ (T58.setTop (mkF m 210 LL62 [(.int p5)]))
            refine Wp.step (X58.ldcInt hx hown (mvT hZ (hw _ (List.mem_of_getElem? (i := 80) rfl))) (g := (mkF m 210 LL62 [(.int p5)])) rfl (hb hby at_210)) ?_
            show Wp p e below _ (T58.setTop (mkF m 212 LL62 [(.int (2147483647 : Int32)), (.int p5)]))
            refine Wp.step (fun t k => XS.iand X58.here hx rfl (hb hby at_212) rfl k) ?_
            show Wp p e below _ (T58.setTop (mkF m 213 LL62 [(.int (p5 &&& (2147483647 : Int32)))]))
            exact kont63 (p5 &&& (2147483647 : Int32)) (c_and _ _ (by decide)).1
          · refine Wp.step (fun t k => XS.ifNo X58.here hx rfl (hb hby at_195) rfl ((if0 _ _).trans (feq hc372).1) k) ?_
            show Wp p e below _ (T58.setTop (mkF m 198 LL62 []))
            refine Wp.step (fun t k => XS.iload X58.here hx rfl (hb hby at_198) rfl k) ?_
            show Wp p e below _ (T58.setTop (mkF m 200 LL62 [(.int p5)]))
            refine Wp.step (fun t k => XS.iconst X58.here hx rfl (hb hby at_200) k) ?_
            show Wp p e below _ (T58.setTop (mkF m 201 LL62 [(.int (1 : Int32)), (.int p5)]))
            refine Wp.step (fun t k => XS.iushr X58.here hx rfl (hb hby at_201) rfl k) ?_
            show Wp p e below _ (T58.setTop (mkF m 202 LL62 [(.int ((p5.toUInt32 >>> ((1 : Int32) &&& 31).toUInt32).toInt32))]))
            refine Wp.step (fun t k => XS.bipush X58.here hx rfl (hb hby at_202) k) ?_
            show Wp p e below _ (T58.setTop (mkF m 204 LL62 [(.int (7 : Int32)), (.int ((p5.toUInt32 >>> ((1 : Int32) &&& 31).toUInt32).toInt32))]))
            refine Wp.step (fun t k => XS.iand X58.here hx rfl (hb hby at_204) rfl k) ?_
            show Wp p e below _ (T58.setTop (mkF m 205 LL62 [(.int (((p5.toUInt32 >>> ((1 : Int32) &&& 31).toUInt32).toInt32) &&& (7 : Int32)))]))
            refine Wp.step (fun t k => XS.goto X58.here hx rfl (pc0 := 205) (pc' := 213) rfl (hb hby at_205) (by decide) (by decide) k) ?_
            show Wp p e below _ (T58.setTop (mkF m 213 LL62 [(.int (((p5.toUInt32 >>> ((1 : Int32) &&& 31).toUInt32).toInt32) &&& (7 : Int32)))]))
            exact kont63 (((p5.toUInt32 >>> ((1 : Int32) &&& 31).toUInt32).toInt32) &&& (7 : Int32)) (c_and _ _ (by decide)).1
        refine Wp.step (fun t k => XS.iloadN X53.here hx rfl (hb hby at_178) rfl k) ?_
        show Wp p e below _ (T53.setTop (mkF m 179 #[.val (.int p0), .val (.int p1), .val (.int p2), .val (.int p3), .val (.int p4), .val (.int p5), .val (.int (Int32.ofNat nw)), .val (.int (Int32.ofNat mk)), .val (.ref b1), .val (.ref b3), .val (.ref b6), .unset, .unset, .unset] [(.int p1), (.int (3 : Int32)), (.ref b3)]))
        refine Wp.step (fun t k => XS.bipush X53.here hx rfl (hb hby at_179) k) ?_
        show Wp p e below _ (T53.setTop (mkF m 181 #[.val (.int p0), .val (.int p1), .val (.int p2), .val (.int p3), .val (.int p4), .val (.int p5), .val (.int (Int32.ofNat nw)), .val (.int (Int32.ofNat mk)), .val (.ref b1), .val (.ref b3), .val (.ref b6), .unset, .unset, .unset] [(.int (8 : Int32)), (.int p1), (.int (3 : Int32)), (.ref b3)]))
        refine Wp.step (fun t k => XS.iand X53.here hx rfl (hb hby at_181) rfl k) ?_
        show Wp p e below _ (T53.setTop (mkF m 182 #[.val (.int p0), .val (.int p1), .val (.int p2), .val (.int p3), .val (.int p4), .val (.int p5), .val (.int (Int32.ofNat nw)), .val (.int (Int32.ofNat mk)), .val (.ref b1), .val (.ref b3), .val (.ref b6), .unset, .unset, .unset] [(.int (p1 &&& (8 : Int32))), (.int (3 : Int32)), (.ref b3)]))
        by_cases hc373 : (p1 &&& (8 : Int32)) = (0 : Int32)
        · refine Wp.step (fun t k => XS.ifYes X53.here hx rfl (pc0 := 182) (pc' := 189) rfl (hb hby at_182) rfl ((if0 _ _).trans (teq hc373).1) (by decide) (by decide) k) ?_
          show Wp p e below _ (T53.setTop (mkF m 189 #[.val (.int p0), .val (.int p1), .val (.int p2), .val (.int p3), .val (.int p4), .val (.int p5), .val (.int (Int32.ofNat nw)), .val (.int (Int32.ofNat mk)), .val (.ref b1), .val (.ref b3), .val (.ref b6), .unset, .unset, .unset] [(.int (3 : Int32)), (.ref b3)]))
          refine Wp.step (fun t k => XS.iloadN X53.here hx rfl (hb hby at_189) rfl k) ?_
          show Wp p e below _ (T53.setTop (mkF m 190 #[.val (.int p0), .val (.int p1), .val (.int p2), .val (.int p3), .val (.int p4), .val (.int p5), .val (.int (Int32.ofNat nw)), .val (.int (Int32.ofNat mk)), .val (.ref b1), .val (.ref b3), .val (.ref b6), .unset, .unset, .unset] [(.int p2), (.int (3 : Int32)), (.ref b3)]))
          exact kont57 p2
        · refine Wp.step (fun t k => XS.ifNo X53.here hx rfl (hb hby at_182) rfl ((if0 _ _).trans (feq hc373).1) k) ?_
          show Wp p e below _ (T53.setTop (mkF m 185 #[.val (.int p0), .val (.int p1), .val (.int p2), .val (.int p3), .val (.int p4), .val (.int p5), .val (.int (Int32.ofNat nw)), .val (.int (Int32.ofNat mk)), .val (.ref b1), .val (.ref b3), .val (.ref b6), .unset, .unset, .unset] [(.int (3 : Int32)), (.ref b3)]))
          refine Wp.step (fun t k => XS.iloadN X53.here hx rfl (hb hby at_185) rfl k) ?_
          show Wp p e below _ (T53.setTop (mkF m 186 #[.val (.int p0), .val (.int p1), .val (.int p2), .val (.int p3), .val (.int p4), .val (.int p5), .val (.int (Int32.ofNat nw)), .val (.int (Int32.ofNat mk)), .val (.ref b1), .val (.ref b3), .val (.ref b6), .unset, .unset, .unset] [(.int p3), (.int (3 : Int32)), (.ref b3)]))
          refine Wp.step (fun t k => XS.goto X53.here hx rfl (pc0 := 186) (pc' := 190) rfl (hb hby at_186) (by decide) (by decide) k) ?_
          show Wp p e below _ (T53.setTop (mkF m 190 #[.val (.int p0), .val (.int p1), .val (.int p2), .val (.int p3), .val (.int p4), .val (.int p5), .val (.int (Int32.ofNat nw)), .val (.int (Int32.ofNat mk)), .val (.ref b1), .val (.ref b3), .val (.ref b6), .unset, .unset, .unset] [(.int p3), (.int (3 : Int32)), (.ref b3)]))
          exact kont57 p3
      refine Wp.step (fun t k => XS.iloadN X48.here hx rfl (hb hby at_163) rfl k) ?_
      show Wp p e below _ (T48.setTop (mkF m 164 #[.val (.int p0), .val (.int p1), .val (.int p2), .val (.int p3), .val (.int p4), .val (.int p5), .val (.int (Int32.ofNat nw)), .val (.int (Int32.ofNat mk)), .val (.ref b1), .val (.ref b3), .val (.ref b6), .unset, .unset, .unset] [(.int p1), (.int (2 : Int32)), (.ref b3)]))
      refine Wp.step (fun t k => XS.iconst X48.here hx rfl (hb hby at_164) k) ?_
      show Wp p e below _ (T48.setTop (mkF m 165 #[.val (.int p0), .val (.int p1), .val (.int p2), .val (.int p3), .val (.int p4), .val (.int p5), .val (.int (Int32.ofNat nw)), .val (.int (Int32.ofNat mk)), .val (.ref b1), .val (.ref b3), .val (.ref b6), .unset, .unset, .unset] [(.int (4 : Int32)), (.int p1), (.int (2 : Int32)), (.ref b3)]))
      refine Wp.step (fun t k => XS.iand X48.here hx rfl (hb hby at_165) rfl k) ?_
      show Wp p e below _ (T48.setTop (mkF m 166 #[.val (.int p0), .val (.int p1), .val (.int p2), .val (.int p3), .val (.int p4), .val (.int p5), .val (.int (Int32.ofNat nw)), .val (.int (Int32.ofNat mk)), .val (.ref b1), .val (.ref b3), .val (.ref b6), .unset, .unset, .unset] [(.int (p1 &&& (4 : Int32))), (.int (2 : Int32)), (.ref b3)]))
      by_cases hc374 : (p1 &&& (4 : Int32)) = (0 : Int32)
      · refine Wp.step (fun t k => XS.ifYes X48.here hx rfl (pc0 := 166) (pc' := 173) rfl (hb hby at_166) rfl ((if0 _ _).trans (teq hc374).1) (by decide) (by decide) k) ?_
        show Wp p e below _ (T48.setTop (mkF m 173 #[.val (.int p0), .val (.int p1), .val (.int p2), .val (.int p3), .val (.int p4), .val (.int p5), .val (.int (Int32.ofNat nw)), .val (.int (Int32.ofNat mk)), .val (.ref b1), .val (.ref b3), .val (.ref b6), .unset, .unset, .unset] [(.int (2 : Int32)), (.ref b3)]))
        refine Wp.step (fun t k => XS.iloadN X48.here hx rfl (hb hby at_173) rfl k) ?_
        show Wp p e below _ (T48.setTop (mkF m 174 #[.val (.int p0), .val (.int p1), .val (.int p2), .val (.int p3), .val (.int p4), .val (.int p5), .val (.int (Int32.ofNat nw)), .val (.int (Int32.ofNat mk)), .val (.ref b1), .val (.ref b3), .val (.ref b6), .unset, .unset, .unset] [(.int p2), (.int (2 : Int32)), (.ref b3)]))
        exact kont52 p2
      · refine Wp.step (fun t k => XS.ifNo X48.here hx rfl (hb hby at_166) rfl ((if0 _ _).trans (feq hc374).1) k) ?_
        show Wp p e below _ (T48.setTop (mkF m 169 #[.val (.int p0), .val (.int p1), .val (.int p2), .val (.int p3), .val (.int p4), .val (.int p5), .val (.int (Int32.ofNat nw)), .val (.int (Int32.ofNat mk)), .val (.ref b1), .val (.ref b3), .val (.ref b6), .unset, .unset, .unset] [(.int (2 : Int32)), (.ref b3)]))
        refine Wp.step (fun t k => XS.iloadN X48.here hx rfl (hb hby at_169) rfl k) ?_
        show Wp p e below _ (T48.setTop (mkF m 170 #[.val (.int p0), .val (.int p1), .val (.int p2), .val (.int p3), .val (.int p4), .val (.int p5), .val (.int (Int32.ofNat nw)), .val (.int (Int32.ofNat mk)), .val (.ref b1), .val (.ref b3), .val (.ref b6), .unset, .unset, .unset] [(.int p3), (.int (2 : Int32)), (.ref b3)]))
        refine Wp.step (fun t k => XS.goto X48.here hx rfl (pc0 := 170) (pc' := 174) rfl (hb hby at_170) (by decide) (by decide) k) ?_
        show Wp p e below _ (T48.setTop (mkF m 174 #[.val (.int p0), .val (.int p1), .val (.int p2), .val (.int p3), .val (.int p4), .val (.int p5), .val (.int (Int32.ofNat nw)), .val (.int (Int32.ofNat mk)), .val (.ref b1), .val (.ref b3), .val (.ref b6), .unset, .unset, .unset] [(.int p3), (.int (2 : Int32)), (.ref b3)]))
        exact kont52 p3
    refine Wp.step (fun t k => XS.iloadN X43.here hx rfl (hb hby at_148) rfl k) ?_
    show Wp p e below _ (T43.setTop (mkF m 149 #[.val (.int p0), .val (.int p1), .val (.int p2), .val (.int p3), .val (.int p4), .val (.int p5), .val (.int (Int32.ofNat nw)), .val (.int (Int32.ofNat mk)), .val (.ref b1), .val (.ref b3), .val (.ref b6), .unset, .unset, .unset] [(.int p1), (.int (1 : Int32)), (.ref b3)]))
    refine Wp.step (fun t k => XS.iconst X43.here hx rfl (hb hby at_149) k) ?_
    show Wp p e below _ (T43.setTop (mkF m 150 #[.val (.int p0), .val (.int p1), .val (.int p2), .val (.int p3), .val (.int p4), .val (.int p5), .val (.int (Int32.ofNat nw)), .val (.int (Int32.ofNat mk)), .val (.ref b1), .val (.ref b3), .val (.ref b6), .unset, .unset, .unset] [(.int (2 : Int32)), (.int p1), (.int (1 : Int32)), (.ref b3)]))
    refine Wp.step (fun t k => XS.iand X43.here hx rfl (hb hby at_150) rfl k) ?_
    show Wp p e below _ (T43.setTop (mkF m 151 #[.val (.int p0), .val (.int p1), .val (.int p2), .val (.int p3), .val (.int p4), .val (.int p5), .val (.int (Int32.ofNat nw)), .val (.int (Int32.ofNat mk)), .val (.ref b1), .val (.ref b3), .val (.ref b6), .unset, .unset, .unset] [(.int (p1 &&& (2 : Int32))), (.int (1 : Int32)), (.ref b3)]))
    by_cases hc375 : (p1 &&& (2 : Int32)) = (0 : Int32)
    · refine Wp.step (fun t k => XS.ifYes X43.here hx rfl (pc0 := 151) (pc' := 158) rfl (hb hby at_151) rfl ((if0 _ _).trans (teq hc375).1) (by decide) (by decide) k) ?_
      show Wp p e below _ (T43.setTop (mkF m 158 #[.val (.int p0), .val (.int p1), .val (.int p2), .val (.int p3), .val (.int p4), .val (.int p5), .val (.int (Int32.ofNat nw)), .val (.int (Int32.ofNat mk)), .val (.ref b1), .val (.ref b3), .val (.ref b6), .unset, .unset, .unset] [(.int (1 : Int32)), (.ref b3)]))
      refine Wp.step (fun t k => XS.iloadN X43.here hx rfl (hb hby at_158) rfl k) ?_
      show Wp p e below _ (T43.setTop (mkF m 159 #[.val (.int p0), .val (.int p1), .val (.int p2), .val (.int p3), .val (.int p4), .val (.int p5), .val (.int (Int32.ofNat nw)), .val (.int (Int32.ofNat mk)), .val (.ref b1), .val (.ref b3), .val (.ref b6), .unset, .unset, .unset] [(.int p2), (.int (1 : Int32)), (.ref b3)]))
      exact kont47 p2
    · refine Wp.step (fun t k => XS.ifNo X43.here hx rfl (hb hby at_151) rfl ((if0 _ _).trans (feq hc375).1) k) ?_
      show Wp p e below _ (T43.setTop (mkF m 154 #[.val (.int p0), .val (.int p1), .val (.int p2), .val (.int p3), .val (.int p4), .val (.int p5), .val (.int (Int32.ofNat nw)), .val (.int (Int32.ofNat mk)), .val (.ref b1), .val (.ref b3), .val (.ref b6), .unset, .unset, .unset] [(.int (1 : Int32)), (.ref b3)]))
      refine Wp.step (fun t k => XS.iloadN X43.here hx rfl (hb hby at_154) rfl k) ?_
      show Wp p e below _ (T43.setTop (mkF m 155 #[.val (.int p0), .val (.int p1), .val (.int p2), .val (.int p3), .val (.int p4), .val (.int p5), .val (.int (Int32.ofNat nw)), .val (.int (Int32.ofNat mk)), .val (.ref b1), .val (.ref b3), .val (.ref b6), .unset, .unset, .unset] [(.int p3), (.int (1 : Int32)), (.ref b3)]))
      refine Wp.step (fun t k => XS.goto X43.here hx rfl (pc0 := 155) (pc' := 159) rfl (hb hby at_155) (by decide) (by decide) k) ?_
      show Wp p e below _ (T43.setTop (mkF m 159 #[.val (.int p0), .val (.int p1), .val (.int p2), .val (.int p3), .val (.int p4), .val (.int p5), .val (.int (Int32.ofNat nw)), .val (.int (Int32.ofNat mk)), .val (.ref b1), .val (.ref b3), .val (.ref b6), .unset, .unset, .unset] [(.int p3), (.int (1 : Int32)), (.ref b3)]))
      exact kont47 p3
  refine Wp.step (fun t k => XS.iloadN X38.here hx rfl (hb hby at_133) rfl k) ?_
  show Wp p e below _ (T38.setTop (mkF m 134 #[.val (.int p0), .val (.int p1), .val (.int p2), .val (.int p3), .val (.int p4), .val (.int p5), .val (.int (Int32.ofNat nw)), .val (.int (Int32.ofNat mk)), .val (.ref b1), .val (.ref b3), .val (.ref b6), .unset, .unset, .unset] [(.int p1), (.int (0 : Int32)), (.ref b3)]))
  refine Wp.step (fun t k => XS.iconst X38.here hx rfl (hb hby at_134) k) ?_
  show Wp p e below _ (T38.setTop (mkF m 135 #[.val (.int p0), .val (.int p1), .val (.int p2), .val (.int p3), .val (.int p4), .val (.int p5), .val (.int (Int32.ofNat nw)), .val (.int (Int32.ofNat mk)), .val (.ref b1), .val (.ref b3), .val (.ref b6), .unset, .unset, .unset] [(.int (1 : Int32)), (.int p1), (.int (0 : Int32)), (.ref b3)]))
  refine Wp.step (fun t k => XS.iand X38.here hx rfl (hb hby at_135) rfl k) ?_
  show Wp p e below _ (T38.setTop (mkF m 136 #[.val (.int p0), .val (.int p1), .val (.int p2), .val (.int p3), .val (.int p4), .val (.int p5), .val (.int (Int32.ofNat nw)), .val (.int (Int32.ofNat mk)), .val (.ref b1), .val (.ref b3), .val (.ref b6), .unset, .unset, .unset] [(.int (p1 &&& (1 : Int32))), (.int (0 : Int32)), (.ref b3)]))
  by_cases hc376 : (p1 &&& (1 : Int32)) = (0 : Int32)
  · refine Wp.step (fun t k => XS.ifYes X38.here hx rfl (pc0 := 136) (pc' := 143) rfl (hb hby at_136) rfl ((if0 _ _).trans (teq hc376).1) (by decide) (by decide) k) ?_
    show Wp p e below _ (T38.setTop (mkF m 143 #[.val (.int p0), .val (.int p1), .val (.int p2), .val (.int p3), .val (.int p4), .val (.int p5), .val (.int (Int32.ofNat nw)), .val (.int (Int32.ofNat mk)), .val (.ref b1), .val (.ref b3), .val (.ref b6), .unset, .unset, .unset] [(.int (0 : Int32)), (.ref b3)]))
    refine Wp.step (fun t k => XS.iloadN X38.here hx rfl (hb hby at_143) rfl k) ?_
    show Wp p e below _ (T38.setTop (mkF m 144 #[.val (.int p0), .val (.int p1), .val (.int p2), .val (.int p3), .val (.int p4), .val (.int p5), .val (.int (Int32.ofNat nw)), .val (.int (Int32.ofNat mk)), .val (.ref b1), .val (.ref b3), .val (.ref b6), .unset, .unset, .unset] [(.int p2), (.int (0 : Int32)), (.ref b3)]))
    exact kont42 p2
  · refine Wp.step (fun t k => XS.ifNo X38.here hx rfl (hb hby at_136) rfl ((if0 _ _).trans (feq hc376).1) k) ?_
    show Wp p e below _ (T38.setTop (mkF m 139 #[.val (.int p0), .val (.int p1), .val (.int p2), .val (.int p3), .val (.int p4), .val (.int p5), .val (.int (Int32.ofNat nw)), .val (.int (Int32.ofNat mk)), .val (.ref b1), .val (.ref b3), .val (.ref b6), .unset, .unset, .unset] [(.int (0 : Int32)), (.ref b3)]))
    refine Wp.step (fun t k => XS.iloadN X38.here hx rfl (hb hby at_139) rfl k) ?_
    show Wp p e below _ (T38.setTop (mkF m 140 #[.val (.int p0), .val (.int p1), .val (.int p2), .val (.int p3), .val (.int p4), .val (.int p5), .val (.int (Int32.ofNat nw)), .val (.int (Int32.ofNat mk)), .val (.ref b1), .val (.ref b3), .val (.ref b6), .unset, .unset, .unset] [(.int p3), (.int (0 : Int32)), (.ref b3)]))
    refine Wp.step (fun t k => XS.goto X38.here hx rfl (pc0 := 140) (pc' := 144) rfl (hb hby at_140) (by decide) (by decide) k) ?_
    show Wp p e below _ (T38.setTop (mkF m 144 #[.val (.int p0), .val (.int p1), .val (.int p2), .val (.int p3), .val (.int p4), .val (.int p5), .val (.int (Int32.ofNat nw)), .val (.int (Int32.ofNat mk)), .val (.ref b1), .val (.ref b3), .val (.ref b6), .unset, .unset, .unset] [(.int p3), (.int (0 : Int32)), (.ref b3)]))
    exact kont42 p3
set_option maxRecDepth 65536 in
set_option maxHeartbeats 40000000 in
theorem comes_1 {Post : Tables → Env → Array Value → State → Outcome → State → Prop} (hpost : ∀ tb e args s v u, (limb_1_1.after args s (.returned v) u = true ∧ limb_1_2.after args s (.returned v) u = true ∧ True) → FrameEnd s (.returned v) u (Jvm.fieldLocs frame_1_writes args s ++ Jvm.arrayLocs frame_1_arrays args s ++ Jvm.staticLocs frame_1_statics s) 48 6336 → Post tb e args s (.returned v) u) :
    ArmFor flags0 classFile x code maxLocals ret World_1 tables_1 room_1 Calls_1 rest_1 Pre_1 Post := by
  intro l hfl _ _ p e ha hc hk s m args below hf hA hF happ hP
  obtain ⟨hcalls, hrest, hpre⟩ := hP
  obtain ⟨-, -, -, hnamed, -, -, -, hat⟩ := (Spec.applies_iff hf).mp happ
  obtain ⟨hg, hn⟩ := and_e (Cond.before_iff.mp (show (Jvm.Cond.and given_1 narrow_1).before args s = true from hpre))
  obtain ⟨hcnt, hr0⟩ := and_e hg
  obtain ⟨hi0, hr1⟩ := and_e hr0
  obtain ⟨hi1, hr2⟩ := and_e hr1
  obtain ⟨hi2, hr3⟩ := and_e hr2
  obtain ⟨hi3, hr4⟩ := and_e hr3
  obtain ⟨hi4, hi5⟩ := and_e hr4
  obtain ⟨w0, w1, w2, w3, w4, w5, rfl⟩ : ∃ w0 w1 w2 w3 w4 w5 : Value, args = #[w0, w1, w2, w3, w4, w5] := by
    have hs : args.size = 6 := by simpa [Cond.value, given_1] using hcnt
    obtain ⟨L⟩ := args
    match L, hs with
    | [w0, w1, w2, w3, w4, w5], _ => exact ⟨w0, w1, w2, w3, w4, w5, rfl⟩
  have hw := fun d (hd : d ∈ tables_1) => atoms_spec (ws := Jvm.Cond.code x code maxLocals ret :: tables_1) hat d (List.mem_cons_of_mem _ hd)
  have hfit : Fit s := fun {y c} hc i hi => by
    obtain ⟨ha, rfl⟩ := Array.getElem?_eq_some_iff.mp hc
    have q := List.all_eq_true.mp ((Array.all_eq_true_iff_forall_mem.mp hF) _ (Array.getElem_mem ha)) i (List.mem_range.mpr hi)
    simpa [Array.getElem?_eq_getElem hi] using q
  obtain ⟨i0, ei0⟩ := is_v hi0
  obtain rfl : w0 = (.int i0) := Option.some.inj ei0
  obtain ⟨i1, ei1⟩ := is_v hi1
  obtain rfl : w1 = (.int i1) := Option.some.inj ei1
  obtain ⟨i2, ei2⟩ := is_v hi2
  obtain rfl : w2 = (.int i2) := Option.some.inj ei2
  obtain ⟨i3, ei3⟩ := is_v hi3
  obtain rfl : w3 = (.int i3) := Option.some.inj ei3
  obtain ⟨i4, ei4⟩ := is_v hi4
  obtain rfl : w4 = (.int i4) := Option.some.inj ei4
  obtain ⟨i5, ei5⟩ := is_v hi5
  obtain rfl : w5 = (.int i5) := Option.some.inj ei5
  obtain ⟨n, o, h1, h2, h3, _, L, rfl, ⟨rfl, N⟩, hq⟩ := rm0 l s _ hw tables_1 i0 i1 i2 i3 i4 i5 s.heap s.heap.size (Nat.le_refl _)  p e ha hc hk s m _ below hf ((Spec.applies_iff_loose hf).mp happ).1 ⟨rfl, State.Warmed39.refl s, rfl⟩ trivial
  refine ⟨n, _, h1, h2, h3, hpost _ _ _ _ _ _ ⟨Cond.after_iff.mpr rfl, Cond.after_iff.mpr (eq_i res_at (Term.int_eval (1)) rfl), trivial⟩ ⟨hq.1, hq.2.1, (hq.2.2.sift fun y hy => Or.inr (N y hy)).mono (by decide) (by decide)⟩⟩
theorem main_1_1 : Claimed_1_1 := comes_1 fun _ _ _ _ _ _ h hF => ⟨h.1, hF⟩
theorem main_1_2 : Claimed_1_2 := comes_1 fun _ _ _ _ _ _ h hF => ⟨h.2.1, hF⟩
end Jvm.Pilot.@@N@@
namespace Jvm.Pilot.@@N@@
open Jvm Jvm.ClassFile Sem Op Lib Jvm.Free Jvm.Stand Jvm.Pilot.@@N@@.Jvm.D
/-! MADE BY PROGRAM (witnessworld.py) out of the Statement's table words and the real class files: 15 classes; the members and pool entries that the words name. The judged class is class 1, her method 2. -/
namespace start1
open Jvm.ClassFile
def u (s : String) : CpInfo := .utf8 (stringToUtf16 s)
/-- a pool by its gaps: so many unusable entries, then the entry; so many at the end -/
def gap : Nat → List CpInfo → List CpInfo
  | 0, r => r
  | n + 1, r => .unusable :: gap n r
def poolList (es : List (Nat × CpInfo)) (last : Nat) : List CpInfo := es.foldr (fun e r => gap e.1 (e.2 :: r)) (gap last [])
def pool (es : List (Nat × CpInfo)) (last : Nat) : Array CpInfo := ⟨poolList es last⟩
def fileOf (pool : Array CpInfo) (this : Nat) (attrs : Array Attribute := #[]) (ms : Array MethodInfo := #[]) (fl : Nat := 33) (sup : Nat := 0) (ifs : Array Nat := #[]) (fds : Array FieldInfo := #[]) : ClassFile where
  minorVersion := 0
  majorVersion := 65
  constantPool := pool
  accessFlags := fl
  thisClass := this
  superClass := sup
  interfaces := ifs
  fields := fds
  methods := ms
  attributes := attrs
def plain (name : String) (sup : Option ClassId) : Class where
  name := name
  kind := .ordinary
  loader := none
  accessFlags := 33
  super := sup
  interfaces := #[]
  cf := none
  fields := #[]
  methods := #[]
  instanceTypes := #[]
  staticTypes := #[]
  resolved := #[]
  callSites := []
  init := .initialized
  statics := none
  mirror := none

def pool0 : Array CpInfo := pool [(5, u "<init>"), (0, u "()V"), (1, .class_ 10), (1, u "java/lang/Object"), (85, u "clone"), (0, u "()Ljava/lang/Object;")] 26

def k0c0 : Code := { maxStack := 0, maxLocals := 1, code := object_method_1_code, exceptionTable := #[], attributes := #[] }
def k0m0 : Method := { name := "<init>", desc := "()V", sig := { parameters := [], returnType := none }, accessFlags := 1, code := some k0c0 }
def k0m1 : Method := { name := "clone", desc := "()Ljava/lang/Object;", sig := { parameters := [], returnType := some (.object "java/lang/Object") }, accessFlags := 260, code := none }
/-- java/lang/Object -/
def k0 : Class := { plain "java/lang/Object" none with
  accessFlags := 33
  interfaces := #[]
  cf := some (fileOf pool0 8 #[] #[{ accessFlags := 1, nameIndex := 5, descriptorIndex := 6, attributes := #[] }, { accessFlags := 260, nameIndex := 96, descriptorIndex := 97, attributes := #[] }] 33 0 #[] #[])
  fields := #[]
  methods := #[k0m0, k0m1]
  instanceTypes := #[]
  staticTypes := #[]
  resolved := Array.replicate 124 none
  statics := none }

def pool1 : Array CpInfo := pool [(2, .class_ 4), (0, .nameAndType 5 6), (0, u "java/lang/Object"), (0, u "<init>"), (0, u "()V"), (0, .integer 2147483647), (0, .class_ 9), (0, u "com/example/erotema/erotema/model/ToldEdges"), (0, .methodref 8 3), (0, .methodref 8 12), (0, .nameAndType 13 14), (0, u "add"), (0, u "(III)V"), (0, .methodref 8 16), (0, .nameAndType 17 18), (0, u "index"), (0, u "(I)V"), (0, .methodref 20 21), (0, .class_ 22), (0, .nameAndType 23 24), (0, u "com/example/erotema/erotema/model/ToldEdgesCountToPinLaw"), (0, u "same"), (0, u "([I[I[III)Z"), (0, .methodref 8 26), (0, .nameAndType 27 28), (0, u "countTo"), (0, u "(I)I"), (3, u "law"), (0, u "(IIIIII)Z")] 4

def k1m0 : Method := { name := "<init>", desc := "()V", sig := { parameters := [], returnType := none }, accessFlags := 1, code := none }
def k1c1 : Code := { maxStack := 3, maxLocals := 5, code := method_2_code, exceptionTable := #[], attributes := #[] }
def k1m1 : Method := { name := "same", desc := "([I[I[III)Z", sig := { parameters := [(.array .int), (.array .int), (.array .int), .int, .int], returnType := some .boolean }, accessFlags := 10, code := some k1c1 }
def k1c2 : Code := { maxStack := 5, maxLocals := 14, code := code, exceptionTable := #[], attributes := #[] }
def k1m2 : Method := { name := "law", desc := "(IIIIII)Z", sig := { parameters := [.int, .int, .int, .int, .int, .int], returnType := some .boolean }, accessFlags := 9, code := some k1c2 }
/-- com/example/erotema/erotema/model/ToldEdgesCountToPinLaw -/
def k1 : Class := { plain "com/example/erotema/erotema/model/ToldEdgesCountToPinLaw" (some 0) with
  accessFlags := 49
  interfaces := #[]
  cf := some (fileOf pool1 20 #[] #[{ accessFlags := 1, nameIndex := 5, descriptorIndex := 6, attributes := #[] }, { accessFlags := 10, nameIndex := 23, descriptorIndex := 24, attributes := #[] }, { accessFlags := 9, nameIndex := 32, descriptorIndex := 33, attributes := #[] }] 49 2 #[] #[])
  fields := #[]
  methods := #[k1m0, k1m1, k1m2]
  instanceTypes := #[]
  staticTypes := #[]
  resolved := Array.replicate 38 none
  statics := none }

def pool2 : Array CpInfo := pool [(1, .methodref 2 3), (0, .class_ 4), (0, .nameAndType 5 6), (0, u "java/lang/Object"), (0, u "<init>"), (0, u "()V"), (0, .fieldref 8 9), (0, .class_ 10), (0, .nameAndType 11 12), (0, u "com/example/erotema/erotema/model/ToldEdges"), (0, u "sources"), (0, u "[I"), (0, .fieldref 8 14), (0, .nameAndType 15 12), (0, u "properties"), (0, .fieldref 8 17), (0, .nameAndType 18 12), (0, u "targets"), (0, .fieldref 8 20), (0, .nameAndType 21 22), (0, u "added"), (0, u "I"), (0, .methodref 24 25), (0, .class_ 26), (0, .nameAndType 27 28), (0, u "java/util/Arrays"), (0, u "copyOf"), (0, u "([II)[I"), (0, .fieldref 8 30), (0, .nameAndType 31 12), (0, u "bySourceStart"), (0, .methodref 8 33), (0, .nameAndType 34 35), (0, u "sort"), (0, u "(I[I[I[I[I)[J"), (0, .methodref 24 37), (0, .nameAndType 27 38), (0, u "([JI)[J"), (0, .fieldref 8 40), (0, .nameAndType 41 42), (0, u "bySource"), (0, u "[J"), (0, .methodref 8 44), (0, .nameAndType 45 46), (0, u "property"), (0, u "(J)I"), (0, .methodref 8 48), (0, .nameAndType 49 46), (0, u "element"), (0, .fieldref 8 51), (0, .nameAndType 52 12), (0, u "byTargetStart"), (0, .fieldref 8 54), (0, .nameAndType 55 42), (0, u "byTarget"), (2, .long 4294967295), (1, .methodref 24 61), (0, .nameAndType 34 62), (0, u "([JII)V"), (0, u "NUMBER"), (0, u "J"), (3, u "add"), (0, u "(III)V"), (1, u "index"), (0, u "(I)V"), (3, u "(I)I"), (2, u "countTo")] 3

def k2c0 : Code := { maxStack := 2, maxLocals := 1, code := prog_15_method_1_code, exceptionTable := #[], attributes := #[] }
def k2m0 : Method := { name := "<init>", desc := "()V", sig := { parameters := [], returnType := none }, accessFlags := 0, code := some k2c0 }
def k2c1 : Code := { maxStack := 4, maxLocals := 4, code := prog_15_method_2_code, exceptionTable := #[], attributes := #[] }
def k2m1 : Method := { name := "add", desc := "(III)V", sig := { parameters := [.int, .int, .int], returnType := none }, accessFlags := 0, code := some k2c1 }
def k2c2 : Code := { maxStack := 6, maxLocals := 9, code := prog_15_method_3_code, exceptionTable := #[], attributes := #[] }
def k2m2 : Method := { name := "index", desc := "(I)V", sig := { parameters := [.int], returnType := none }, accessFlags := 0, code := some k2c2 }
def k2c3 : Code := { maxStack := 3, maxLocals := 2, code := prog_15_method_6_code, exceptionTable := #[], attributes := #[] }
def k2m3 : Method := { name := "countTo", desc := "(I)I", sig := { parameters := [.int], returnType := some .int }, accessFlags := 0, code := some k2c3 }
def k2c4 : Code := { maxStack := 3, maxLocals := 2, code := prog_15_method_8_code, exceptionTable := #[], attributes := #[] }
def k2m4 : Method := { name := "property", desc := "(J)I", sig := { parameters := [.long], returnType := some .int }, accessFlags := 8, code := some k2c4 }
def k2c5 : Code := { maxStack := 4, maxLocals := 2, code := prog_15_method_9_code, exceptionTable := #[], attributes := #[] }
def k2m5 : Method := { name := "element", desc := "(J)I", sig := { parameters := [.long], returnType := some .int }, accessFlags := 8, code := some k2c5 }
def k2c6 : Code := { maxStack := 6, maxLocals := 8, code := prog_15_method_10_code, exceptionTable := #[], attributes := #[] }
def k2m6 : Method := { name := "sort", desc := "(I[I[I[I[I)[J", sig := { parameters := [.int, (.array .int), (.array .int), (.array .int), (.array .int)], returnType := some (.array .long) }, accessFlags := 10, code := some k2c6 }
/-- com/example/erotema/erotema/model/ToldEdges -/
def k2 : Class := { plain "com/example/erotema/erotema/model/ToldEdges" (some 0) with
  accessFlags := 32
  interfaces := #[]
  cf := some (fileOf pool2 8 #[] #[{ accessFlags := 0, nameIndex := 5, descriptorIndex := 6, attributes := #[] }, { accessFlags := 0, nameIndex := 68, descriptorIndex := 69, attributes := #[] }, { accessFlags := 0, nameIndex := 71, descriptorIndex := 72, attributes := #[] }, { accessFlags := 0, nameIndex := 79, descriptorIndex := 76, attributes := #[] }, { accessFlags := 8, nameIndex := 45, descriptorIndex := 46, attributes := #[] }, { accessFlags := 8, nameIndex := 49, descriptorIndex := 46, attributes := #[] }, { accessFlags := 10, nameIndex := 34, descriptorIndex := 35, attributes := #[] }] 32 2 #[] #[{ accessFlags := 26, nameIndex := 63, descriptorIndex := 64, attributes := #[] }, { accessFlags := 2, nameIndex := 11, descriptorIndex := 12, attributes := #[] }, { accessFlags := 2, nameIndex := 15, descriptorIndex := 12, attributes := #[] }, { accessFlags := 2, nameIndex := 18, descriptorIndex := 12, attributes := #[] }, { accessFlags := 2, nameIndex := 21, descriptorIndex := 22, attributes := #[] }, { accessFlags := 2, nameIndex := 31, descriptorIndex := 12, attributes := #[] }, { accessFlags := 2, nameIndex := 41, descriptorIndex := 42, attributes := #[] }, { accessFlags := 2, nameIndex := 52, descriptorIndex := 12, attributes := #[] }, { accessFlags := 2, nameIndex := 55, descriptorIndex := 42, attributes := #[] }])
  fields := #[{ name := "NUMBER", type := .long, accessFlags := 26, slot := 0, constantValue := 0 }, { name := "sources", type := (.array .int), accessFlags := 2, slot := 0, constantValue := 0 }, { name := "properties", type := (.array .int), accessFlags := 2, slot := 1, constantValue := 0 }, { name := "targets", type := (.array .int), accessFlags := 2, slot := 2, constantValue := 0 }, { name := "added", type := .int, accessFlags := 2, slot := 3, constantValue := 0 }, { name := "bySourceStart", type := (.array .int), accessFlags := 2, slot := 4, constantValue := 0 }, { name := "bySource", type := (.array .long), accessFlags := 2, slot := 5, constantValue := 0 }, { name := "byTargetStart", type := (.array .int), accessFlags := 2, slot := 6, constantValue := 0 }, { name := "byTarget", type := (.array .long), accessFlags := 2, slot := 7, constantValue := 0 }]
  methods := #[k2m0, k2m1, k2m2, k2m3, k2m4, k2m5, k2m6]
  instanceTypes := #[(.array .int), (.array .int), (.array .int), .int, (.array .int), (.array .long), (.array .int), (.array .long)]
  staticTypes := #[.long]
  resolved := Array.replicate 83 none
  statics := none }

def pool3 : Array CpInfo := pool [(2, .class_ 4), (1, u "java/lang/Object"), (0, u "<init>"), (0, u "()V"), (1, .class_ 10), (1, u "java/util/DualPivotQuicksort"), (0, u "sort"), (1, .methodref 14 15), (0, .class_ 16), (0, .nameAndType 17 18), (0, u "java/util/Arrays"), (0, u "rangeCheck"), (0, u "(III)V"), (0, .methodref 8 20), (0, .nameAndType 11 21), (0, u "([JIII)V"), (52, .class_ 76), (1, u "java/util/Arrays$NaturalOrder"), (32, u "()Ljava/lang/Object;"), (3, .class_ 115), (1, u "java/util/Arrays$LegacyMergeSort"), (1, u "Z"), (10, .nameAndType 129 109), (0, u "clone"), (20, .methodref 151 152), (0, .class_ 153), (0, .nameAndType 154 155), (0, u "java/lang/System"), (0, u "arraycopy"), (0, u "(Ljava/lang/Object;ILjava/lang/Object;II)V"), (146, u "copyOf"), (1, .methodref 305 306), (0, .class_ 307), (0, .nameAndType 308 309), (0, u "java/lang/Math"), (0, u "min"), (0, u "(II)I"), (9, .methodref 320 128), (0, .class_ 321), (0, u "[J"), (53, .class_ 376), (0, u "java/util/Arrays$ArrayList"), (68, u "$assertionsDisabled"), (269, u "MIN_ARRAY_SORT_GRAN"), (0, u "I"), (2, u "INSERTIONSORT_THRESHOLD"), (12, u "([JII)V"), (138, u "([II)[I"), (0, u "([JI)[J"), (102, .class_ 976), (0, u "java/util/Arrays$ArrayItr")] 52

def k3m0 : Method := { name := "<init>", desc := "()V", sig := { parameters := [], returnType := none }, accessFlags := 2, code := none }
def k3c1 : Code := { maxStack := 4, maxLocals := 3, code := jdk_65_method_5_code, exceptionTable := #[], attributes := #[] }
def k3m1 : Method := { name := "sort", desc := "([JII)V", sig := { parameters := [(.array .long), .int, .int], returnType := none }, accessFlags := 9, code := some k3c1 }
def k3c2 : Code := { maxStack := 4, maxLocals := 3, code := jdk_65_method_30_code, exceptionTable := #[], attributes := #[] }
def k3m2 : Method := { name := "rangeCheck", desc := "(III)V", sig := { parameters := [.int, .int, .int], returnType := none }, accessFlags := 8, code := some k3c2 }
def k3c3 : Code := { maxStack := 6, maxLocals := 3, code := jdk_65_method_123_code, exceptionTable := #[], attributes := #[] }
def k3m3 : Method := { name := "copyOf", desc := "([II)[I", sig := { parameters := [(.array .int), .int], returnType := some (.array .int) }, accessFlags := 9, code := some k3c3 }
def k3c4 : Code := { maxStack := 6, maxLocals := 3, code := jdk_65_method_124_code, exceptionTable := #[], attributes := #[] }
def k3m4 : Method := { name := "copyOf", desc := "([JI)[J", sig := { parameters := [(.array .long), .int], returnType := some (.array .long) }, accessFlags := 9, code := some k3c4 }
/-- java/util/Arrays -/
def k3 : Class := { plain "java/util/Arrays" (some 0) with
  accessFlags := 49
  interfaces := #[]
  cf := some (fileOf pool3 14 #[.nestMembers #[975, 375, 113, 74]] #[{ accessFlags := 2, nameIndex := 5, descriptorIndex := 6, attributes := #[] }, { accessFlags := 9, nameIndex := 11, descriptorIndex := 732, attributes := #[] }, { accessFlags := 8, nameIndex := 17, descriptorIndex := 18, attributes := #[] }, { accessFlags := 9, nameIndex := 302, descriptorIndex := 871, attributes := #[] }, { accessFlags := 9, nameIndex := 302, descriptorIndex := 872, attributes := #[] }] 49 2 #[] #[{ accessFlags := 26, nameIndex := 715, descriptorIndex := 716, attributes := #[] }, { accessFlags := 26, nameIndex := 719, descriptorIndex := 716, attributes := #[] }, { accessFlags := 4120, nameIndex := 445, descriptorIndex := 117, attributes := #[] }])
  fields := #[{ name := "MIN_ARRAY_SORT_GRAN", type := .int, accessFlags := 26, slot := 0, constantValue := 0 }, { name := "INSERTIONSORT_THRESHOLD", type := .int, accessFlags := 26, slot := 1, constantValue := 0 }, { name := "$assertionsDisabled", type := .boolean, accessFlags := 4120, slot := 2, constantValue := 0 }]
  methods := #[k3m0, k3m1, k3m2, k3m3, k3m4]
  instanceTypes := #[]
  staticTypes := #[.int, .int, .boolean]
  resolved := Array.replicate 1029 none
  statics := none }

def pool4 : Array CpInfo := pool [(1, .class_ 2), (0, u "java/lang/Math"), (1, .class_ 6), (1, u "java/lang/Object"), (0, u "<init>"), (0, u "()V"), (89, .class_ 100), (1, u "java/lang/Math$RandomNumberGeneratorHolder"), (71, u "negativeZeroFloatBits"), (0, u "J"), (2, u "negativeZeroDoubleBits"), (24, u "min"), (43, u "$assertionsDisabled"), (0, u "Z"), (88, u "(II)I"), (2, u "twoToTheDoubleScaleDown"), (0, u "D"), (4, u "twoToTheDoubleScaleUp"), (9, u "E"), (3, u "PI"), (2, u "TAU"), (2, u "DEGREES_TO_RADIANS"), (0, u "RADIANS_TO_DEGREES")] 94

def k4m0 : Method := { name := "<init>", desc := "()V", sig := { parameters := [], returnType := none }, accessFlags := 2, code := none }
def k4c1 : Code := { maxStack := 2, maxLocals := 2, code := jdk_29_method_69_code, exceptionTable := #[], attributes := #[] }
def k4m1 : Method := { name := "min", desc := "(II)I", sig := { parameters := [.int, .int], returnType := some .int }, accessFlags := 9, code := some k4c1 }
/-- java/lang/Math -/
def k4 : Class := { plain "java/lang/Math" (some 0) with
  accessFlags := 49
  interfaces := #[]
  cf := some (fileOf pool4 1 #[.nestMembers #[98]] #[{ accessFlags := 2, nameIndex := 7, descriptorIndex := 8, attributes := #[] }, { accessFlags := 9, nameIndex := 201, descriptorIndex := 335, attributes := #[] }] 49 4 #[] #[{ accessFlags := 25, nameIndex := 354, descriptorIndex := 339, attributes := #[] }, { accessFlags := 25, nameIndex := 358, descriptorIndex := 339, attributes := #[] }, { accessFlags := 25, nameIndex := 361, descriptorIndex := 339, attributes := #[] }, { accessFlags := 26, nameIndex := 364, descriptorIndex := 339, attributes := #[] }, { accessFlags := 26, nameIndex := 365, descriptorIndex := 339, attributes := #[] }, { accessFlags := 26, nameIndex := 172, descriptorIndex := 173, attributes := #[] }, { accessFlags := 26, nameIndex := 176, descriptorIndex := 173, attributes := #[] }, { accessFlags := 8, nameIndex := 344, descriptorIndex := 339, attributes := #[] }, { accessFlags := 8, nameIndex := 338, descriptorIndex := 339, attributes := #[] }, { accessFlags := 4120, nameIndex := 245, descriptorIndex := 246, attributes := #[] }])
  fields := #[{ name := "E", type := .double, accessFlags := 25, slot := 0, constantValue := 0 }, { name := "PI", type := .double, accessFlags := 25, slot := 1, constantValue := 0 }, { name := "TAU", type := .double, accessFlags := 25, slot := 2, constantValue := 0 }, { name := "DEGREES_TO_RADIANS", type := .double, accessFlags := 26, slot := 3, constantValue := 0 }, { name := "RADIANS_TO_DEGREES", type := .double, accessFlags := 26, slot := 4, constantValue := 0 }, { name := "negativeZeroFloatBits", type := .long, accessFlags := 26, slot := 5, constantValue := 0 }, { name := "negativeZeroDoubleBits", type := .long, accessFlags := 26, slot := 6, constantValue := 0 }, { name := "twoToTheDoubleScaleUp", type := .double, accessFlags := 8, slot := 7, constantValue := 0 }, { name := "twoToTheDoubleScaleDown", type := .double, accessFlags := 8, slot := 8, constantValue := 0 }, { name := "$assertionsDisabled", type := .boolean, accessFlags := 4120, slot := 9, constantValue := 0 }]
  methods := #[k4m0, k4m1]
  instanceTypes := #[]
  staticTypes := #[.double, .double, .double, .double, .double, .long, .long, .double, .double, .boolean]
  resolved := Array.replicate 460 none
  statics := none }

def pool5 : Array CpInfo := pool [(2, .class_ 4), (1, u "java/lang/Object"), (0, u "<init>"), (0, u "()V"), (1, .class_ 10), (1, u "java/lang/System"), (0, u "allowSecurityManager"), (0, u "I"), (16, u "cons"), (0, u "Ljava/io/Console;"), (77, .class_ 110), (1, u "java/lang/System$CallersHolder"), (43, u "initialErrStream"), (0, u "Ljava/io/PrintStream;"), (19, u "security"), (0, u "Ljava/lang/SecurityManager;"), (31, .class_ 209), (0, u "java/lang/System$1"), (7, u "props"), (0, u "Ljava/util/Properties;"), (2, u "lineSeparator"), (0, u "Ljava/lang/String;"), (96, .class_ 321), (1, u "java/lang/System$LoggerFinder"), (5, .class_ 328), (0, u "java/lang/System$Logger"), (67, u "err"), (2, u "out"), (91, u "notSupportedJnuEncoding"), (15, u "in"), (17, u "initialIn"), (0, u "Ljava/io/InputStream;"), (35, u "bootLayer"), (0, u "Ljava/lang/ModuleLayer;"), (99, .class_ 664), (0, u "java/lang/System$2"), (9, u "NEVER"), (2, u "MAYBE"), (49, u "arraycopy"), (0, u "(Ljava/lang/Object;ILjava/lang/Object;II)V"), (72, .class_ 802), (0, u "java/lang/System$Logger$Level")] 31

def k5m0 : Method := { name := "<init>", desc := "()V", sig := { parameters := [], returnType := none }, accessFlags := 2, code := none }
def k5m1 : Method := { name := "arraycopy", desc := "(Ljava/lang/Object;ILjava/lang/Object;II)V", sig := { parameters := [(.object "java/lang/Object"), .int, (.object "java/lang/Object"), .int, .int], returnType := none }, accessFlags := 265, code := none }
/-- java/lang/System -/
def k5 : Class := { plain "java/lang/System" (some 0) with
  accessFlags := 49
  interfaces := #[]
  cf := some (fileOf pool5 8 #[.nestMembers #[319, 327, 801, 108, 663, 208]] #[{ accessFlags := 2, nameIndex := 5, descriptorIndex := 6, attributes := #[] }, { accessFlags := 265, nameIndex := 727, descriptorIndex := 728, attributes := #[] }] 49 2 #[] #[{ accessFlags := 25, nameIndex := 507, descriptorIndex := 526, attributes := #[] }, { accessFlags := 25, nameIndex := 399, descriptorIndex := 155, attributes := #[] }, { accessFlags := 25, nameIndex := 396, descriptorIndex := 155, attributes := #[] }, { accessFlags := 10, nameIndex := 525, descriptorIndex := 526, attributes := #[] }, { accessFlags := 26, nameIndex := 674, descriptorIndex := 12, attributes := #[] }, { accessFlags := 26, nameIndex := 677, descriptorIndex := 12, attributes := #[] }, { accessFlags := 10, nameIndex := 11, descriptorIndex := 12, attributes := #[] }, { accessFlags := 74, nameIndex := 175, descriptorIndex := 176, attributes := #[] }, { accessFlags := 10, nameIndex := 491, descriptorIndex := 222, attributes := #[] }, { accessFlags := 74, nameIndex := 29, descriptorIndex := 30, attributes := #[] }, { accessFlags := 74, nameIndex := 154, descriptorIndex := 155, attributes := #[] }, { accessFlags := 10, nameIndex := 217, descriptorIndex := 218, attributes := #[] }, { accessFlags := 10, nameIndex := 221, descriptorIndex := 222, attributes := #[] }, { accessFlags := 8, nameIndex := 562, descriptorIndex := 563, attributes := #[] }])
  fields := #[{ name := "in", type := (.object "java/io/InputStream"), accessFlags := 25, slot := 0, constantValue := 0 }, { name := "out", type := (.object "java/io/PrintStream"), accessFlags := 25, slot := 1, constantValue := 0 }, { name := "err", type := (.object "java/io/PrintStream"), accessFlags := 25, slot := 2, constantValue := 0 }, { name := "initialIn", type := (.object "java/io/InputStream"), accessFlags := 10, slot := 3, constantValue := 0 }, { name := "NEVER", type := .int, accessFlags := 26, slot := 4, constantValue := 0 }, { name := "MAYBE", type := .int, accessFlags := 26, slot := 5, constantValue := 0 }, { name := "allowSecurityManager", type := .int, accessFlags := 10, slot := 6, constantValue := 0 }, { name := "security", type := (.object "java/lang/SecurityManager"), accessFlags := 74, slot := 7, constantValue := 0 }, { name := "notSupportedJnuEncoding", type := (.object "java/lang/String"), accessFlags := 10, slot := 8, constantValue := 0 }, { name := "cons", type := (.object "java/io/Console"), accessFlags := 74, slot := 9, constantValue := 0 }, { name := "initialErrStream", type := (.object "java/io/PrintStream"), accessFlags := 74, slot := 10, constantValue := 0 }, { name := "props", type := (.object "java/util/Properties"), accessFlags := 10, slot := 11, constantValue := 0 }, { name := "lineSeparator", type := (.object "java/lang/String"), accessFlags := 10, slot := 12, constantValue := 0 }, { name := "bootLayer", type := (.object "java/lang/ModuleLayer"), accessFlags := 8, slot := 13, constantValue := 0 }]
  methods := #[k5m0, k5m1]
  instanceTypes := #[]
  staticTypes := #[(.object "java/io/InputStream"), (.object "java/io/PrintStream"), (.object "java/io/PrintStream"), (.object "java/io/InputStream"), .int, .int, .int, (.object "java/lang/SecurityManager"), (.object "java/lang/String"), (.object "java/io/Console"), (.object "java/io/PrintStream"), (.object "java/util/Properties"), (.object "java/lang/String"), (.object "java/lang/ModuleLayer")]
  resolved := Array.replicate 834 none
  statics := none }

def pool6 : Array CpInfo := pool [(1, .class_ 2), (0, u "java/util/DualPivotQuicksort"), (5, .class_ 10), (1, u "java/lang/Object"), (0, u "<init>"), (0, u "()V"), (4, .class_ 18), (0, u "java/util/DualPivotQuicksort$Sorter"), (9, u "sort"), (7, u "insertionSort"), (31, u "I"), (4, .class_ 74), (0, u "java/util/DualPivotQuicksort$RunMerger"), (10, .class_ 86), (0, u "java/util/DualPivotQuicksort$Merger"), (12, .methodref 1 100), (0, .nameAndType 28 101), (0, u "(Ljava/util/DualPivotQuicksort$Sorter;[JIII)V"), (2, u "([JIII)V"), (0, .methodref 1 106), (0, .nameAndType 36 107), (0, u "([JII)V"), (106, u "MAX_MIXED_INSERTION_SORT_SIZE"), (2, u "MAX_INSERTION_SORT_SIZE"), (1, u "MIN_PARALLEL_SORT_SIZE"), (1, u "MIN_TRY_MERGE_SIZE"), (0, u "MIN_FIRST_RUN_SIZE"), (1, u "MIN_FIRST_RUNS_FACTOR"), (1, u "MAX_RUN_CAPACITY"), (1, u "MIN_RUN_COUNT"), (1, u "MIN_PARALLEL_MERGE_PARTS_SIZE"), (0, u "MIN_BYTE_COUNTING_SORT_SIZE"), (1, u "MIN_SHORT_OR_CHAR_COUNTING_SORT_SIZE"), (1, u "DELTA"), (1, u "MAX_RECURSION_DEPTH"), (1, u "NUM_BYTE_VALUES"), (1, u "MAX_BYTE_INDEX"), (0, u "NUM_CHAR_VALUES"), (0, u "NUM_SHORT_VALUES"), (0, u "MAX_SHORT_INDEX")] 86

def k6m0 : Method := { name := "<init>", desc := "()V", sig := { parameters := [], returnType := none }, accessFlags := 2, code := none }
def k6c1 : Code := { maxStack := 9, maxLocals := 7, code := jdk_2529_method_12_code, exceptionTable := #[], attributes := #[] }
def k6m1 : Method := { name := "sort", desc := "([JIII)V", sig := { parameters := [(.array .long), .int, .int, .int], returnType := none }, accessFlags := 8, code := some k6c1 }
def k6c2 : Code := { maxStack := 6, maxLocals := 25, code := jdk_2529_method_13_code, exceptionTable := #[], attributes := #[] }
def k6m2 : Method := { name := "sort", desc := "(Ljava/util/DualPivotQuicksort$Sorter;[JIII)V", sig := { parameters := [(.object "java/util/DualPivotQuicksort$Sorter"), (.array .long), .int, .int, .int], returnType := none }, accessFlags := 8, code := some k6c2 }
def k6c3 : Code := { maxStack := 5, maxLocals := 7, code := jdk_2529_method_15_code, exceptionTable := #[], attributes := #[] }
def k6m3 : Method := { name := "insertionSort", desc := "([JII)V", sig := { parameters := [(.array .long), .int, .int], returnType := none }, accessFlags := 10, code := some k6c3 }
/-- java/util/DualPivotQuicksort -/
def k6 : Class := { plain "java/util/DualPivotQuicksort" (some 0) with
  accessFlags := 48
  interfaces := #[]
  cf := some (fileOf pool6 1 #[.nestMembers #[73, 85, 17]] #[{ accessFlags := 2, nameIndex := 11, descriptorIndex := 12, attributes := #[] }, { accessFlags := 8, nameIndex := 28, descriptorIndex := 104, attributes := #[] }, { accessFlags := 8, nameIndex := 28, descriptorIndex := 101, attributes := #[] }, { accessFlags := 10, nameIndex := 36, descriptorIndex := 107, attributes := #[] }] 48 8 #[] #[{ accessFlags := 26, nameIndex := 214, descriptorIndex := 68, attributes := #[] }, { accessFlags := 26, nameIndex := 217, descriptorIndex := 68, attributes := #[] }, { accessFlags := 26, nameIndex := 219, descriptorIndex := 68, attributes := #[] }, { accessFlags := 26, nameIndex := 221, descriptorIndex := 68, attributes := #[] }, { accessFlags := 26, nameIndex := 222, descriptorIndex := 68, attributes := #[] }, { accessFlags := 26, nameIndex := 224, descriptorIndex := 68, attributes := #[] }, { accessFlags := 26, nameIndex := 226, descriptorIndex := 68, attributes := #[] }, { accessFlags := 26, nameIndex := 228, descriptorIndex := 68, attributes := #[] }, { accessFlags := 26, nameIndex := 230, descriptorIndex := 68, attributes := #[] }, { accessFlags := 26, nameIndex := 231, descriptorIndex := 68, attributes := #[] }, { accessFlags := 26, nameIndex := 233, descriptorIndex := 68, attributes := #[] }, { accessFlags := 26, nameIndex := 235, descriptorIndex := 68, attributes := #[] }, { accessFlags := 26, nameIndex := 237, descriptorIndex := 68, attributes := #[] }, { accessFlags := 26, nameIndex := 239, descriptorIndex := 68, attributes := #[] }, { accessFlags := 26, nameIndex := 241, descriptorIndex := 68, attributes := #[] }, { accessFlags := 26, nameIndex := 242, descriptorIndex := 68, attributes := #[] }, { accessFlags := 26, nameIndex := 243, descriptorIndex := 68, attributes := #[] }, { accessFlags := 26, nameIndex := 244, descriptorIndex := 68, attributes := #[] }])
  fields := #[{ name := "MAX_MIXED_INSERTION_SORT_SIZE", type := .int, accessFlags := 26, slot := 0, constantValue := 0 }, { name := "MAX_INSERTION_SORT_SIZE", type := .int, accessFlags := 26, slot := 1, constantValue := 0 }, { name := "MIN_PARALLEL_SORT_SIZE", type := .int, accessFlags := 26, slot := 2, constantValue := 0 }, { name := "MIN_TRY_MERGE_SIZE", type := .int, accessFlags := 26, slot := 3, constantValue := 0 }, { name := "MIN_FIRST_RUN_SIZE", type := .int, accessFlags := 26, slot := 4, constantValue := 0 }, { name := "MIN_FIRST_RUNS_FACTOR", type := .int, accessFlags := 26, slot := 5, constantValue := 0 }, { name := "MAX_RUN_CAPACITY", type := .int, accessFlags := 26, slot := 6, constantValue := 0 }, { name := "MIN_RUN_COUNT", type := .int, accessFlags := 26, slot := 7, constantValue := 0 }, { name := "MIN_PARALLEL_MERGE_PARTS_SIZE", type := .int, accessFlags := 26, slot := 8, constantValue := 0 }, { name := "MIN_BYTE_COUNTING_SORT_SIZE", type := .int, accessFlags := 26, slot := 9, constantValue := 0 }, { name := "MIN_SHORT_OR_CHAR_COUNTING_SORT_SIZE", type := .int, accessFlags := 26, slot := 10, constantValue := 0 }, { name := "DELTA", type := .int, accessFlags := 26, slot := 11, constantValue := 0 }, { name := "MAX_RECURSION_DEPTH", type := .int, accessFlags := 26, slot := 12, constantValue := 0 }, { name := "NUM_BYTE_VALUES", type := .int, accessFlags := 26, slot := 13, constantValue := 0 }, { name := "MAX_BYTE_INDEX", type := .int, accessFlags := 26, slot := 14, constantValue := 0 }, { name := "NUM_CHAR_VALUES", type := .int, accessFlags := 26, slot := 15, constantValue := 0 }, { name := "NUM_SHORT_VALUES", type := .int, accessFlags := 26, slot := 16, constantValue := 0 }, { name := "MAX_SHORT_INDEX", type := .int, accessFlags := 26, slot := 17, constantValue := 0 }]
  methods := #[k6m0, k6m1, k6m2, k6m3]
  instanceTypes := #[]
  staticTypes := #[.int, .int, .int, .int, .int, .int, .int, .int, .int, .int, .int, .int, .int, .int, .int, .int, .int, .int]
  resolved := Array.replicate 331 none
  statics := none }

def pool7 : Array CpInfo := pool [(1, .class_ 2), (0, u "java/lang/Cloneable"), (0, .class_ 4), (0, u "java/lang/Object")] 2

/-- java/lang/Cloneable -/
def k7 : Class := { plain "java/lang/Cloneable" (some 0) with
  accessFlags := 1537
  interfaces := #[]
  cf := some (fileOf pool7 1 #[] #[] 1537 3 #[] #[])
  fields := #[]
  methods := #[]
  instanceTypes := #[]
  staticTypes := #[]
  resolved := Array.replicate 7 none
  statics := none }

def pool8 : Array CpInfo := pool [(1, u "java/io/Serializable"), (0, .class_ 1), (0, u "java/lang/Object"), (0, .class_ 3)] 3

/-- java/io/Serializable -/
def k8 : Class := { plain "java/io/Serializable" (some 0) with
  accessFlags := 1537
  interfaces := #[]
  cf := some (fileOf pool8 2 #[] #[] 1537 4 #[] #[])
  fields := #[]
  methods := #[]
  instanceTypes := #[]
  staticTypes := #[]
  resolved := Array.replicate 8 none
  statics := none }

/-- the primitive byte -/
def k9 : Class := { plain "byte" none with kind := .primitive 'B', accessFlags := 0x411 }
/-- [B -/
def k10 : Class := { plain "[B" (some 0) with kind := .array 9 .byte, interfaces := #[7, 8], accessFlags := 1041 }

/-- the primitive int -/
def k11 : Class := { plain "int" none with kind := .primitive 'I', accessFlags := 0x411 }
/-- [I -/
def k12 : Class := { plain "[I" (some 0) with kind := .array 11 .int, interfaces := #[7, 8], accessFlags := 1041 }

/-- the primitive long -/
def k13 : Class := { plain "long" none with kind := .primitive 'J', accessFlags := 0x411 }
/-- [J -/
def k14 : Class := { plain "[J" (some 0) with kind := .array 13 .long, interfaces := #[7, 8], accessFlags := 1041 }

def heap : Heap := #[]
def classes : Array Class := #[k0, k1, k2, k3, k4, k5, k6, k7, k8, k9, k10, k11, k12, k13, k14]
def interned : List (Array UInt16 × Addr) := []
def slotsUsed : Nat := 0
def theMethod : MethodId := ⟨1, 2⟩
def args0 : Array Value := #[.int 5, .int 300, .int 7, .int 8, .int 9, .int 10]
def aboutOver (below : List Frame) : State where
  vm := { classes := classes, interned := interned.toArray }
  heap := heap
  slotsUsed := slotsUsed
  threads := #[{ frames := .invoking theMethod args0 :: below }]
def below0 : List Frame := [.native { method := ⟨0, 0⟩, args := #[] }]
def about1 : State := aboutOver below0
def p0 : Program := .bare "" "" ""
def e0 : Env := launch0.env 0 0 0
theorem w_frames : about1.frames = Frame.invoking theMethod args0 :: below0 := rfl
set_option maxRecDepth 65536 in
theorem w_args : argsFit about1.vm theMethod args0 = true := by decide +kernel
set_option maxRecDepth 65536 in
theorem w_heap : heapFits about1 = true := by decide +kernel
set_option maxRecDepth 65536 in
theorem w_runnable : about1.curStatus? = some .runnable := by decide +kernel
set_option maxRecDepth 65536 in
theorem w_alone : about1.alone = true := by decide +kernel
set_option maxRecDepth 65536 in
theorem w_named : about1.methodNamed? x = some theMethod := by decide +kernel
set_option maxRecDepth 65536 in
theorem w_hears : about1.hears theMethod below0 = true := by decide +kernel
set_option maxRecDepth 65536 in
theorem w_ripe : about1.ripe theMethod args0 below0 = true := by decide +kernel
theorem w_running : about1.status = .running := rfl
set_option maxRecDepth 65536 in
theorem w_room : about1.hasRoom e0.platform room_1 = true :=
  launch0.hasRoom_least _ room_1 (by decide +kernel) (by decide +kernel) (by decide +kernel) (by decide +kernel) (by decide +kernel) (by decide +kernel)
theorem allAtoms_all (ts : List Jvm.Cond) (a : Array Jvm.Value) (st : Jvm.State) : (allAtoms ts).before a st = ts.all (fun c => c.before a st) := by
  induction ts with
  | nil => rfl
  | cons c t ih =>
    show (Jvm.Cond.and c (allAtoms t)).before a st = _
    rw [Jvm.Cond.before_and, ih, List.all_cons]
def words1 : List Jvm.Cond := Jvm.Cond.code x code maxLocals ret :: tables_1
/-- a 'code' word, met by the world's own term for the bytes: nothing is compared byte by byte -/
theorem code_word {y : MethodName} {bytes : ByteArray} {mx : Nat} {rt : Option FieldType} {a : Array Value} {s : State} {m : MethodId} {meth : Method} {c : Code} (h1 : s.methodNamed? y = some m) (h2 : s.vm.method? m = some meth) (h3 : meth.code = some c) (h4 : c.code = bytes)
    (h5 : (c.maxLocals == mx && c.exceptionTable.isEmpty && decide (c.maxStack ≤ mostOperands) && decide (meth.sig.returnType = rt) && !meth.locks && decide (parseMethodDescriptor y.desc = some meth.sig)) = true) : (Jvm.Cond.code y bytes mx rt).before a s = true := by
  simp only [Bool.and_eq_true, beq_iff_eq, Bool.not_eq_true', decide_eq_true_eq] at h5
  obtain ⟨⟨⟨⟨⟨g1, g2⟩, g3⟩, g4⟩, g5⟩, g6⟩ := h5
  simp [Cond.before, Cond.holds, Cond.value, h1, h2, h3, h4, g1, g2, g3, g4, g5, g6]
def isCode : Jvm.Cond → Bool
  | .code _ _ _ _ => true
  | _ => false
theorem all_split {L : List Jvm.Cond} {P : Jvm.Cond → Bool} (h1 : L.all (fun c => isCode c || P c) = true) (h2 : ∀ c ∈ L.filter isCode, P c = true) : L.all P = true := by
  refine List.all_eq_true.mpr fun c hc => ?_
  have h := List.all_eq_true.mp h1 c hc
  rcases Bool.eq_false_or_eq_true (isCode c) with hi | hi
  · exact h2 c (List.mem_filter.mpr ⟨hc, hi⟩)
  · simpa [hi] using h
set_option maxRecDepth 65536 in
theorem w_c0 : (Jvm.Cond.code x code maxLocals ret).before args0 about1 = true := code_word (m := ⟨1, 2⟩) (meth := k1m2) (c := k1c2) (by decide +kernel) rfl rfl rfl (by decide +kernel)
set_option maxRecDepth 65536 in
theorem w_c1 : (Jvm.Cond.code ({ cls := "com/example/erotema/erotema/model/ToldEdges", name := "<init>", desc := "()V" } : Jvm.MethodName) prog_15_method_1_code (1 : Nat) (Option.none : Option Jvm.ClassFile.FieldType)).before args0 about1 = true := code_word (m := ⟨2, 0⟩) (meth := k2m0) (c := k2c0) (by decide +kernel) rfl rfl rfl (by decide +kernel)
set_option maxRecDepth 65536 in
theorem w_c2 : (Jvm.Cond.code ({ cls := "java/lang/Object", name := "<init>", desc := "()V" } : Jvm.MethodName) object_method_1_code (1 : Nat) (Option.none : Option Jvm.ClassFile.FieldType)).before args0 about1 = true := code_word (m := ⟨0, 0⟩) (meth := k0m0) (c := k0c0) (by decide +kernel) rfl rfl rfl (by decide +kernel)
set_option maxRecDepth 65536 in
theorem w_c3 : (Jvm.Cond.code ({ cls := "com/example/erotema/erotema/model/ToldEdges", name := "index", desc := "(I)V" } : Jvm.MethodName) prog_15_method_3_code (9 : Nat) (Option.none : Option Jvm.ClassFile.FieldType)).before args0 about1 = true := code_word (m := ⟨2, 2⟩) (meth := k2m2) (c := k2c2) (by decide +kernel) rfl rfl rfl (by decide +kernel)
set_option maxRecDepth 65536 in
theorem w_c4 : (Jvm.Cond.code ({ cls := "com/example/erotema/erotema/model/ToldEdges", name := "sort", desc := "(I[I[I[I[I)[J" } : Jvm.MethodName) prog_15_method_10_code (8 : Nat) (Option.some (Jvm.ClassFile.FieldType.array Jvm.ClassFile.FieldType.long))).before args0 about1 = true := code_word (m := ⟨2, 6⟩) (meth := k2m6) (c := k2c6) (by decide +kernel) rfl rfl rfl (by decide +kernel)
set_option maxRecDepth 65536 in
theorem w_c5 : (Jvm.Cond.code ({ cls := "java/util/Arrays", name := "copyOf", desc := "([II)[I" } : Jvm.MethodName) jdk_65_method_123_code (3 : Nat) (Option.some (Jvm.ClassFile.FieldType.array Jvm.ClassFile.FieldType.int))).before args0 about1 = true := code_word (m := ⟨3, 3⟩) (meth := k3m3) (c := k3c3) (by decide +kernel) rfl rfl rfl (by decide +kernel)
set_option maxRecDepth 65536 in
theorem w_c6 : (Jvm.Cond.code ({ cls := "java/lang/Math", name := "min", desc := "(II)I" } : Jvm.MethodName) jdk_29_method_69_code (2 : Nat) (Option.some Jvm.ClassFile.FieldType.int)).before args0 about1 = true := code_word (m := ⟨4, 1⟩) (meth := k4m1) (c := k4c1) (by decide +kernel) rfl rfl rfl (by decide +kernel)
set_option maxRecDepth 65536 in
theorem w_c7 : (Jvm.Cond.code ({ cls := "java/util/Arrays", name := "sort", desc := "([JII)V" } : Jvm.MethodName) jdk_65_method_5_code (3 : Nat) (Option.none : Option Jvm.ClassFile.FieldType)).before args0 about1 = true := code_word (m := ⟨3, 1⟩) (meth := k3m1) (c := k3c1) (by decide +kernel) rfl rfl rfl (by decide +kernel)
set_option maxRecDepth 65536 in
theorem w_c8 : (Jvm.Cond.code ({ cls := "java/util/Arrays", name := "rangeCheck", desc := "(III)V" } : Jvm.MethodName) jdk_65_method_30_code (3 : Nat) (Option.none : Option Jvm.ClassFile.FieldType)).before args0 about1 = true := code_word (m := ⟨3, 2⟩) (meth := k3m2) (c := k3c2) (by decide +kernel) rfl rfl rfl (by decide +kernel)
set_option maxRecDepth 65536 in
theorem w_c9 : (Jvm.Cond.code ({ cls := "java/util/DualPivotQuicksort", name := "sort", desc := "([JIII)V" } : Jvm.MethodName) jdk_2529_method_12_code (7 : Nat) (Option.none : Option Jvm.ClassFile.FieldType)).before args0 about1 = true := code_word (m := ⟨6, 1⟩) (meth := k6m1) (c := k6c1) (by decide +kernel) rfl rfl rfl (by decide +kernel)
set_option maxRecDepth 65536 in
theorem w_c10 : (Jvm.Cond.code ({ cls := "java/util/DualPivotQuicksort", name := "sort", desc := "(Ljava/util/DualPivotQuicksort$Sorter;[JIII)V" } : Jvm.MethodName) jdk_2529_method_13_code (25 : Nat) (Option.none : Option Jvm.ClassFile.FieldType)).before args0 about1 = true := code_word (m := ⟨6, 2⟩) (meth := k6m2) (c := k6c2) (by decide +kernel) rfl rfl rfl (by decide +kernel)
set_option maxRecDepth 65536 in
theorem w_c11 : (Jvm.Cond.code ({ cls := "java/util/DualPivotQuicksort", name := "insertionSort", desc := "([JII)V" } : Jvm.MethodName) jdk_2529_method_15_code (7 : Nat) (Option.none : Option Jvm.ClassFile.FieldType)).before args0 about1 = true := code_word (m := ⟨6, 3⟩) (meth := k6m3) (c := k6c3) (by decide +kernel) rfl rfl rfl (by decide +kernel)
set_option maxRecDepth 65536 in
theorem w_c12 : (Jvm.Cond.code ({ cls := "java/util/Arrays", name := "copyOf", desc := "([JI)[J" } : Jvm.MethodName) jdk_65_method_124_code (3 : Nat) (Option.some (Jvm.ClassFile.FieldType.array Jvm.ClassFile.FieldType.long))).before args0 about1 = true := code_word (m := ⟨3, 4⟩) (meth := k3m4) (c := k3c4) (by decide +kernel) rfl rfl rfl (by decide +kernel)
set_option maxRecDepth 65536 in
theorem w_c13 : (Jvm.Cond.code ({ cls := "com/example/erotema/erotema/model/ToldEdges", name := "countTo", desc := "(I)I" } : Jvm.MethodName) prog_15_method_6_code (2 : Nat) (Option.some Jvm.ClassFile.FieldType.int)).before args0 about1 = true := code_word (m := ⟨2, 3⟩) (meth := k2m3) (c := k2c3) (by decide +kernel) rfl rfl rfl (by decide +kernel)
set_option maxRecDepth 65536 in
theorem w_c14 : (Jvm.Cond.code ({ cls := "com/example/erotema/erotema/model/ToldEdges", name := "add", desc := "(III)V" } : Jvm.MethodName) prog_15_method_2_code (4 : Nat) (Option.none : Option Jvm.ClassFile.FieldType)).before args0 about1 = true := code_word (m := ⟨2, 1⟩) (meth := k2m1) (c := k2c1) (by decide +kernel) rfl rfl rfl (by decide +kernel)
set_option maxRecDepth 65536 in
theorem w_c15 : (Jvm.Cond.code ({ cls := "com/example/erotema/erotema/model/ToldEdges", name := "property", desc := "(J)I" } : Jvm.MethodName) prog_15_method_8_code (2 : Nat) (Option.some Jvm.ClassFile.FieldType.int)).before args0 about1 = true := code_word (m := ⟨2, 4⟩) (meth := k2m4) (c := k2c4) (by decide +kernel) rfl rfl rfl (by decide +kernel)
set_option maxRecDepth 65536 in
theorem w_c16 : (Jvm.Cond.code ({ cls := "com/example/erotema/erotema/model/ToldEdges", name := "element", desc := "(J)I" } : Jvm.MethodName) prog_15_method_9_code (2 : Nat) (Option.some Jvm.ClassFile.FieldType.int)).before args0 about1 = true := code_word (m := ⟨2, 5⟩) (meth := k2m5) (c := k2c5) (by decide +kernel) rfl rfl rfl (by decide +kernel)
set_option maxRecDepth 65536 in
theorem w_c17 : (Jvm.Cond.code ({ cls := "com/example/erotema/erotema/model/ToldEdgesCountToPinLaw", name := "same", desc := "([I[I[III)Z" } : Jvm.MethodName) method_2_code (5 : Nat) (Option.some Jvm.ClassFile.FieldType.boolean)).before args0 about1 = true := code_word (m := ⟨1, 1⟩) (meth := k1m1) (c := k1c1) (by decide +kernel) rfl rfl rfl (by decide +kernel)
def codes1 : List Jvm.Cond := [Jvm.Cond.code x code maxLocals ret, Jvm.Cond.code ({ cls := "com/example/erotema/erotema/model/ToldEdges", name := "<init>", desc := "()V" } : Jvm.MethodName) prog_15_method_1_code (1 : Nat) (Option.none : Option Jvm.ClassFile.FieldType), Jvm.Cond.code ({ cls := "java/lang/Object", name := "<init>", desc := "()V" } : Jvm.MethodName) object_method_1_code (1 : Nat) (Option.none : Option Jvm.ClassFile.FieldType), Jvm.Cond.code ({ cls := "com/example/erotema/erotema/model/ToldEdges", name := "index", desc := "(I)V" } : Jvm.MethodName) prog_15_method_3_code (9 : Nat) (Option.none : Option Jvm.ClassFile.FieldType), Jvm.Cond.code ({ cls := "com/example/erotema/erotema/model/ToldEdges", name := "sort", desc := "(I[I[I[I[I)[J" } : Jvm.MethodName) prog_15_method_10_code (8 : Nat) (Option.some (Jvm.ClassFile.FieldType.array Jvm.ClassFile.FieldType.long)), Jvm.Cond.code ({ cls := "java/util/Arrays", name := "copyOf", desc := "([II)[I" } : Jvm.MethodName) jdk_65_method_123_code (3 : Nat) (Option.some (Jvm.ClassFile.FieldType.array Jvm.ClassFile.FieldType.int)), Jvm.Cond.code ({ cls := "java/lang/Math", name := "min", desc := "(II)I" } : Jvm.MethodName) jdk_29_method_69_code (2 : Nat) (Option.some Jvm.ClassFile.FieldType.int), Jvm.Cond.code ({ cls := "java/util/Arrays", name := "sort", desc := "([JII)V" } : Jvm.MethodName) jdk_65_method_5_code (3 : Nat) (Option.none : Option Jvm.ClassFile.FieldType), Jvm.Cond.code ({ cls := "java/util/Arrays", name := "rangeCheck", desc := "(III)V" } : Jvm.MethodName) jdk_65_method_30_code (3 : Nat) (Option.none : Option Jvm.ClassFile.FieldType), Jvm.Cond.code ({ cls := "java/util/DualPivotQuicksort", name := "sort", desc := "([JIII)V" } : Jvm.MethodName) jdk_2529_method_12_code (7 : Nat) (Option.none : Option Jvm.ClassFile.FieldType), Jvm.Cond.code ({ cls := "java/util/DualPivotQuicksort", name := "sort", desc := "(Ljava/util/DualPivotQuicksort$Sorter;[JIII)V" } : Jvm.MethodName) jdk_2529_method_13_code (25 : Nat) (Option.none : Option Jvm.ClassFile.FieldType), Jvm.Cond.code ({ cls := "java/util/DualPivotQuicksort", name := "insertionSort", desc := "([JII)V" } : Jvm.MethodName) jdk_2529_method_15_code (7 : Nat) (Option.none : Option Jvm.ClassFile.FieldType), Jvm.Cond.code ({ cls := "java/util/Arrays", name := "copyOf", desc := "([JI)[J" } : Jvm.MethodName) jdk_65_method_124_code (3 : Nat) (Option.some (Jvm.ClassFile.FieldType.array Jvm.ClassFile.FieldType.long)), Jvm.Cond.code ({ cls := "com/example/erotema/erotema/model/ToldEdges", name := "countTo", desc := "(I)I" } : Jvm.MethodName) prog_15_method_6_code (2 : Nat) (Option.some Jvm.ClassFile.FieldType.int), Jvm.Cond.code ({ cls := "com/example/erotema/erotema/model/ToldEdges", name := "add", desc := "(III)V" } : Jvm.MethodName) prog_15_method_2_code (4 : Nat) (Option.none : Option Jvm.ClassFile.FieldType), Jvm.Cond.code ({ cls := "com/example/erotema/erotema/model/ToldEdges", name := "property", desc := "(J)I" } : Jvm.MethodName) prog_15_method_8_code (2 : Nat) (Option.some Jvm.ClassFile.FieldType.int), Jvm.Cond.code ({ cls := "com/example/erotema/erotema/model/ToldEdges", name := "element", desc := "(J)I" } : Jvm.MethodName) prog_15_method_9_code (2 : Nat) (Option.some Jvm.ClassFile.FieldType.int), Jvm.Cond.code ({ cls := "com/example/erotema/erotema/model/ToldEdgesCountToPinLaw", name := "same", desc := "([I[I[III)Z" } : Jvm.MethodName) method_2_code (5 : Nat) (Option.some Jvm.ClassFile.FieldType.boolean)]
set_option maxRecDepth 65536 in
theorem codes_eq : words1.filter isCode = codes1 := rfl
theorem w_codes : ∀ c ∈ words1.filter isCode, c.before args0 about1 = true := by
  rw [codes_eq]
  intro c hc
  simp only [codes1, List.mem_cons, List.not_mem_nil, or_false] at hc
  rcases hc with rfl | rfl | rfl | rfl | rfl | rfl | rfl | rfl | rfl | rfl | rfl | rfl | rfl | rfl | rfl | rfl | rfl | rfl
  · exact w_c0
  · exact w_c1
  · exact w_c2
  · exact w_c3
  · exact w_c4
  · exact w_c5
  · exact w_c6
  · exact w_c7
  · exact w_c8
  · exact w_c9
  · exact w_c10
  · exact w_c11
  · exact w_c12
  · exact w_c13
  · exact w_c14
  · exact w_c15
  · exact w_c16
  · exact w_c17
set_option maxRecDepth 65536 in
theorem w_t1 : (words1.take 24).all (fun c => isCode c || c.before args0 about1) = true := by decide +kernel
set_option maxRecDepth 65536 in
theorem w_t2 : ((words1.drop 24).take 24).all (fun c => isCode c || c.before args0 about1) = true := by decide +kernel
set_option maxRecDepth 65536 in
theorem w_t3 : (((words1.drop 24).drop 24).take 24).all (fun c => isCode c || c.before args0 about1) = true := by decide +kernel
set_option maxRecDepth 65536 in
theorem w_t4 : ((((words1.drop 24).drop 24).drop 24).take 24).all (fun c => isCode c || c.before args0 about1) = true := by decide +kernel
set_option maxRecDepth 65536 in
theorem w_t5 : ((((words1.drop 24).drop 24).drop 24).drop 24).all (fun c => isCode c || c.before args0 about1) = true := by decide +kernel
theorem w_tables : (allAtoms (Jvm.Cond.code x code maxLocals ret :: tables_1)).before args0 about1 = true := by
  rw [allAtoms_all]
  show words1.all (fun c => c.before args0 about1) = true
  refine all_split ?_ w_codes
  rw [← List.take_append_drop 24 words1, List.all_append, w_t1, ← List.take_append_drop 24 (words1.drop 24), List.all_append, w_t2, ← List.take_append_drop 24 ((words1.drop 24).drop 24), List.all_append, w_t3, ← List.take_append_drop 24 (((words1.drop 24).drop 24).drop 24), List.all_append, w_t4, w_t5]
  rfl
set_option maxRecDepth 65536 in
theorem w_case : (Jvm.Cond.and given_1 narrow_1).before args0 about1 = true := by decide +kernel
theorem w_applies : (headSpec (Jvm.Cond.code x code maxLocals ret :: tables_1) room_1).applies x e0.platform about1 = true :=
  (Spec.applies_iff w_frames).mpr ⟨w_running, w_runnable, w_alone, w_named, w_hears, w_ripe, w_room, w_tables⟩
theorem atStart : AtStart classFile x code maxLocals ret World_1 tables_1 room_1 Calls_1 rest_1 Pre_1 launch0 p0 e0 about1 theMethod args0 below0 :=
  ⟨lists_1, trivial, launch0.admits_env _ _ _, launch0.least_env, fairChoices_fair.cas, fairChoices_fair.clock, w_frames, w_args, w_heap, w_applies, trivial, trivial, w_case⟩
end start1
theorem witness_1 : WitnessClaimed_1 := ⟨start1.p0, start1.e0, start1.about1, start1.theMethod, start1.args0, start1.below0, start1.atStart⟩
end Jvm.Pilot.@@N@@
