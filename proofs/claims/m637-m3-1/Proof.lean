import JvmDerived
import JvmDerived.Pilot.@@N@@Statement
import JvmDerived.Pilot.@@N@@Code
set_option linter.unusedVariables false
set_option linter.unusedSimpArgs false
namespace Jvm.Pilot.@@N@@
open Jvm Jvm.ClassFile Sem Op Lib Jvm.Free Jvm.Stand Jvm.LawKit Jvm.RoadKit Bundle Jvm.Pilot.@@N@@.Jvm.D
/-! a run from here comes to the end of the invocation, and Q holds there -/
section OwnWp
variable {p : Program} {l : Launch} {e : Env} {R : Room} {s : State} {m : MethodId} {args : Array Value} {below : List Frame} {meth : Method} {c : Code} {T : State} {locs : List Loc} {cells slots : Nat}
def Wp (p : Program) (e : Env) (below : List Frame) (Q : Outcome → State → Prop) (A : State) : Prop := ∃ s₂ o, Steps p.tables e below A s₂ ∧ s₂.status = .running ∧ Ended s₂ below o ∧ Q o s₂
def Out (s : State) (Q : Option Value → Heap → List Loc → Prop) (k n : Nat) (o : Outcome) (t : State) : Prop := ∃ v L, o = .returned v ∧ Q v t.heap L ∧ FrameEnd s o t L k n
theorem Wp.step {Q : Outcome → State → Prop} {A B : State} (h : ∀ t, Steps p.tables e below B t → Steps p.tables e below A t) (k : Wp p e below Q B) : Wp p e below Q A := by
  obtain ⟨s₂, o, h1, h2⟩ := k; exact ⟨s₂, o, h _ h1, h2⟩
theorem Wp.go {Q : Outcome → State → Prop} {A B : State} (h : Steps p.tables e below A B) (k : Wp p e below Q B) : Wp p e below Q A := Wp.step (fun _ q => h.trans q) k
theorem Wp.out (X : Stand p l e R s m args below meth c T locs cells slots) {A : State} {v : Option Value} {Q : Option Value → Heap → List Loc → Prop} {k n : Nat} (hv : meth.sig.returnType = none → v = none) (hlk : meth.locks = false)
    (hs : ∀ fs, (∀ (f : JFrame) (acts : List Action), f.method = m → f.locked = none → f.entered = [] → (doReturn e (T.setTop f) acts v).1 = T.setFrames fs) → Steps p.tables e below A (T.setFrames fs)) (hQ : Q v T.heap locs) (hk : cells ≤ k) (hn : slots ≤ n) : Wp p e below (Out s Q k n) A := by
  obtain ⟨fs, hr, hrun, hended, hW, hsame⟩ := X.leave (v := v) hv hlk
  exact ⟨_, _, hs fs hr, hrun, hended, _, _, rfl, hQ, ⟨_, rfl⟩, hW, hsame.mono hk hn⟩
theorem Wp.retV (X : Stand p l e R s m args below meth c T locs cells slots) (hx : p.tables.exec = Jvm.exec) {pc : Nat} {Ls : Array Slot} {Q : Option Value → Heap → List Loc → Prop} {k n : Nat} (hret : meth.sig.returnType = none) (hd : decode c.code pc = .ok (.return_, 1)) (hlk : meth.locks = false)
    (hQ : Q none T.heap locs) (hk : cells ≤ k) (hn : slots ≤ n) : Wp p e below (Out s Q k n) (T.setTop (mkF m pc Ls [])) := Wp.out X (fun _ => rfl) hlk (fun fs hr => X.returnOut hx hret hd hr) hQ hk hn
theorem Wp.retN (X : Stand p l e R s m args below meth c T locs cells slots) (hx : p.tables.exec = Jvm.exec) {pc : Nat} {Ls : Array Slot} {z : Int32} {rest : List Value} {t : FieldType} {Q : Option Value → Heap → List Loc → Prop} {k n : Nat} (hret : meth.sig.returnType = some t) (ht : t = .boolean ∨ t = .byte ∨ t = .char ∨ t = .short) (hd : decode c.code pc = .ok (.ireturn, 1)) (hlk : meth.locks = false)
    (hQ : Q (some (.int (nar t z))) T.heap locs) (hk : cells ≤ k) (hn : slots ≤ n) : Wp p e below (Out s Q k n) (T.setTop (mkF m pc Ls (.int z :: rest))) := Wp.out X (fun h => by rw [hret] at h; cases h) hlk (fun fs hr => Jvm.RoadKit.retN X hx hret ht hd hr) hQ hk hn
theorem Wp.retI (X : Stand p l e R s m args below meth c T locs cells slots) (hx : p.tables.exec = Jvm.exec) {pc : Nat} {Ls : Array Slot} {z : Int32} {rest : List Value} {Q : Option Value → Heap → List Loc → Prop} {k n : Nat} (hret : meth.sig.returnType = some .int) (hd : decode c.code pc = .ok (.ireturn, 1)) (hlk : meth.locks = false)
    (hQ : Q (some (.int z)) T.heap locs) (hk : cells ≤ k) (hn : slots ≤ n) : Wp p e below (Out s Q k n) (T.setTop (mkF m pc Ls (.int z :: rest))) := Wp.out X (fun h => by rw [hret] at h; cases h) hlk (fun fs hr => Jvm.RoadKit.retOut X hx hret rfl (Or.inl ⟨rfl, Or.inl rfl, z, rfl⟩) hd hr) hQ hk hn
theorem Wp.retJ (X : Stand p l e R s m args below meth c T locs cells slots) (hx : p.tables.exec = Jvm.exec) {pc : Nat} {Ls : Array Slot} {z : Int64} {rest : List Value} {Q : Option Value → Heap → List Loc → Prop} {k n : Nat} (hret : meth.sig.returnType = some .long) (hd : decode c.code pc = .ok (.lreturn, 1)) (hlk : meth.locks = false)
    (hQ : Q (some (.long z)) T.heap locs) (hk : cells ≤ k) (hn : slots ≤ n) : Wp p e below (Out s Q k n) (T.setTop (mkF m pc Ls (.long z :: rest))) := Wp.out X (fun h => by rw [hret] at h; cases h) hlk (fun fs hr => Jvm.RoadKit.retOut X hx hret rfl (Or.inr (Or.inl ⟨rfl, rfl, z, rfl⟩)) hd hr) hQ hk hn
theorem Wp.retA (X : Stand p l e R s m args below meth c T locs cells slots) (hx : p.tables.exec = Jvm.exec) {pc : Nat} {Ls : Array Slot} {w : Value} {rest : List Value} {t : FieldType} {Q : Option Value → Heap → List Loc → Prop} {k n : Nat} (hret : meth.sig.returnType = some t) (hw : w.isRef = true) (hd : decode c.code pc = .ok (.areturn, 1)) (hlk : meth.locks = false)
    (hQ : Q (some w) T.heap locs) (hk : cells ≤ k) (hn : slots ≤ n) (ht : t.isReference = true := by rfl) : Wp p e below (Out s Q k n) (T.setTop (mkF m pc Ls (w :: rest))) := Wp.out X (fun h => by rw [hret] at h; cases h) hlk (fun fs hr => Jvm.RoadKit.retOut X hx hret (by cases t <;> first | (cases ht; done) | (cases w <;> first | (cases hw; done) | rfl)) (Or.inr (Or.inr (Or.inr (Or.inr ⟨rfl, ht, hw⟩)))) hd hr) hQ hk hn
end OwnWp
theorem own_selP {Z s : State} {a0 args : Array Value} {y : MethodName} {n : Nat} (hZ : Z.Warmed39 s.vm) (wi : (Jvm.Cond.instantiable y.cls n).before a0 Z = true) (wp : (Jvm.Cond.privateMethod y).before a0 Z = true) (wm : (Jvm.Cond.instanceMethod y).before a0 Z = true) (hy : y.cls ≠ "java/lang/invoke/MethodHandle" ∧ y.cls ≠ "java/lang/invoke/VarHandle") : (Jvm.Cond.selects y.cls y y).before args s = true := by
  obtain ⟨c, k, h1, h2, -, h4, -⟩ := Cond.instantiable_spec (show (Jvm.Cond.instantiable y.cls n).before args s = true from mvT hZ wi)
  exact selects_self_of_private h1 h2 (by cases hq : k.isInterface <;> simp [hq] at h4 ⊢) (Cond.privateMethod_at (mvP hZ wp (args := #[]))) (mvT hZ wm) hy
/-! arrays of whole numbers as functions of the place -/
def own_IA (ty : FieldType) (Z : State) (h : Heap) (a : Addr) (len : Int32) (g : Nat → Int32) : Prop := ∃ cl : Cell, Arr Z h a cl ty ∧ cl.slots.size = len.toNatClampNeg ∧ ¬ len < 0 ∧ ∀ i : Nat, i < len.toNatClampNeg → cl.slots[i]? = some (.int (g i)) ∧ fits ty (.int (g i)) = true
def own_JA (Z : State) (h : Heap) (a : Addr) (len : Int32) (g : Nat → Int64) : Prop := ∃ cl : Cell, Arr Z h a cl .long ∧ cl.slots.size = len.toNatClampNeg ∧ ¬ len < 0 ∧ ∀ i : Nat, i < len.toNatClampNeg → cl.slots[i]? = some (.long (g i))
def own_upd (g : Nat → Int32) (k : Nat) (y : Int32) : Nat → Int32 := fun i => if i = k then y else g i
def own_updJ (g : Nat → Int64) (k : Nat) (y : Int64) : Nat → Int64 := fun i => if i = k then y else g i
section OwnArr
variable {ty : FieldType} {Z : State} {h h' : Heap} {a b : Addr} {len : Int32} {g g' : Nat → Int32} {gj gj' : Nat → Int64} {ws : List Addr} {sl : Nat} {v : Value}
theorem own_IA.lt (F : own_IA ty Z h a len g) : a < h.size := by obtain ⟨c, A, -⟩ := F; exact A.lt
theorem own_IA.ext (F : own_IA ty Z h a len g) (E : Ext h h') : own_IA ty Z h' a len g := by obtain ⟨c, A, r⟩ := F; exact ⟨c, A.ext E, r⟩
theorem own_IA.other (F : own_IA ty Z h b len g) (W : Wr h h' a sl v) (q : b ≠ a) : own_IA ty Z h' b len g := by obtain ⟨c, A, r⟩ := F; exact ⟨c, A.other W q, r⟩
theorem own_IA.keep (F : own_IA ty Z h a len g) (K : Keep h h' ws) (q : a ∉ ws) : own_IA ty Z h' a len g := by obtain ⟨c, A, r⟩ := F; exact ⟨c, ⟨K.2.1 a c A.1 q, A.2⟩, r⟩
theorem own_JA.lt (F : own_JA Z h a len gj) : a < h.size := by obtain ⟨c, A, -⟩ := F; exact A.lt
theorem own_JA.ext (F : own_JA Z h a len gj) (E : Ext h h') : own_JA Z h' a len gj := by obtain ⟨c, A, r⟩ := F; exact ⟨c, A.ext E, r⟩
theorem own_JA.other (F : own_JA Z h b len gj) (W : Wr h h' a sl v) (q : b ≠ a) : own_JA Z h' b len gj := by obtain ⟨c, A, r⟩ := F; exact ⟨c, A.other W q, r⟩
theorem own_JA.keep (F : own_JA Z h a len gj) (K : Keep h h' ws) (q : a ∉ ws) : own_JA Z h' a len gj := by obtain ⟨c, A, r⟩ := F; exact ⟨c, ⟨K.2.1 a c A.1 q, A.2⟩, r⟩
theorem own_narb (x : Int32) : nar .byte x.toInt8.toInt32 = x.toInt8.toInt32 := by simp [nar]
theorem own_IA.set {cl : Cell} {j x : Int32} (A : Arr Z h a cl ty) (S : cl.slots.size = len.toNatClampNeg) (N : ¬ len < 0) (H : ∀ i : Nat, i < len.toNatClampNeg → cl.slots[i]? = some (.int (g i)) ∧ fits ty (.int (g i)) = true) (W : Wr h h' a j.toNatClampNeg (.int x)) (hf : fits ty (.int x) = true) : own_IA ty Z h' a len (own_upd g j.toNatClampNeg x) := by
  refine ⟨_, A.same W, by rw [sz_set]; exact S, N, fun i hi => ?_⟩
  unfold own_upd
  by_cases q : i = j.toNatClampNeg
  · subst q; rw [if_pos rfl]; exact ⟨by simp [Cell.setSlot, S, hi], hf⟩
  · rw [if_neg q]; exact ⟨by rw [Jvm.LawKit.slot_ne cl _ (Ne.symm q)]; exact (H i hi).1, (H i hi).2⟩
theorem own_JA.set {cl : Cell} {j : Int32} {x : Int64} (A : Arr Z h a cl .long) (S : cl.slots.size = len.toNatClampNeg) (N : ¬ len < 0) (H : ∀ i : Nat, i < len.toNatClampNeg → cl.slots[i]? = some (.long (gj i))) (W : Wr h h' a j.toNatClampNeg (.long x)) : own_JA Z h' a len (own_updJ gj j.toNatClampNeg x) := by
  refine ⟨_, A.same W, by rw [sz_set]; exact S, N, fun i hi => ?_⟩
  unfold own_updJ
  by_cases q : i = j.toNatClampNeg
  · subst q; rw [if_pos rfl]; simp [Cell.setSlot, S, hi]
  · rw [if_neg q, Jvm.LawKit.slot_ne cl _ (Ne.symm q)]; exact H i hi
theorem own_IA.new {k : ClassId} {n : Int32} (A : Arr Z h a (newA k ty n) ty) (N : ¬ n < 0) (hd : defaultValue ty = .int 0) : own_IA ty Z h a n (fun _ => (0 : Int32)) :=
  ⟨_, A, sz_new _ _ _, N, fun i hi => ⟨by simp [newA, hi, hd], by rw [← hd]; cases ty <;> first | rfl | cases hd⟩⟩
theorem own_JA.new {k : ClassId} {n : Int32} (A : Arr Z h a (newA k .long n) .long) (N : ¬ n < 0) : own_JA Z h a n (fun _ => (0 : Int64)) :=
  ⟨_, A, sz_new _ _ _, N, fun i hi => by simp [newA, hi, defaultValue]⟩
theorem own_IA.cong (F : own_IA ty Z h a len g) (e : ∀ i, i < len.toNatClampNeg → g' i = g i) : own_IA ty Z h a len g' := by
  obtain ⟨c, A, S, N, H⟩ := F; exact ⟨c, A, S, N, fun i hi => by rw [e i hi]; exact H i hi⟩
theorem own_JA.cong (F : own_JA Z h a len gj) (e : ∀ i, i < len.toNatClampNeg → gj' i = gj i) : own_JA Z h a len gj' := by
  obtain ⟨c, A, S, N, H⟩ := F; exact ⟨c, A, S, N, fun i hi => by rw [e i hi]; exact H i hi⟩
theorem own_range {α : Type} (f : Nat → α) (n k : Nat) (d : α) (hk : k < n) : ((List.range n).map f).getD k d = f k := by
  simp [List.getD_eq_getElem?_getD, List.getElem?_map, List.getElem?_range hk]
theorem own_IA.arv (F : own_IA ty Z h a len g) : ∃ k, Arv Z h a k ty len ((List.range len.toNatClampNeg).map fun i => Value.int (g i)) (.int 0) := by
  obtain ⟨c, A, S, N, H⟩ := F
  exact ⟨c.cls, c, A, rfl, S, N, fun i hi => by rw [S] at hi; rw [own_range _ _ _ _ hi]; exact (H i hi).1, fun i hi => by rw [S] at hi; rw [own_range _ _ _ _ hi]; exact (H i hi).2⟩
theorem own_IA.ofArv {k : ClassId} {vs : List Value} {dv : Value} (F : Arv Z h a k ty len vs dv) (H : ∀ i, i < len.toNatClampNeg → vs.getD i dv = .int (g i)) : own_IA ty Z h a len g := by
  obtain ⟨c, A, -, S, N, G1, G2⟩ := F
  exact ⟨c, A, S, N, fun i hi => ⟨by rw [← H i hi]; exact G1 i (by rw [S]; exact hi), by rw [← H i hi]; exact G2 i (by rw [S]; exact hi)⟩⟩
theorem own_JA.arv (F : own_JA Z h a len gj) : ∃ k, Arv Z h a k .long len ((List.range len.toNatClampNeg).map fun i => Value.long (gj i)) (.long 0) := by
  obtain ⟨c, A, S, N, H⟩ := F
  exact ⟨c.cls, c, A, rfl, S, N, fun i hi => by rw [S] at hi; rw [own_range _ _ _ _ hi]; exact H i hi, fun i hi => by rw [S] at hi; rw [own_range _ _ _ _ hi]; rfl⟩
theorem own_JA.ofArv {k : ClassId} {vs : List Value} {dv : Value} (F : Arv Z h a k .long len vs dv) (H : ∀ i, i < len.toNatClampNeg → vs.getD i dv = .long (gj i)) : own_JA Z h a len gj := by
  obtain ⟨c, A, -, S, N, G1, G2⟩ := F
  exact ⟨c, A, S, N, fun i hi => by rw [← H i hi]; exact G1 i (by rw [S]; exact hi)⟩
def own_copy {α : Type} (gs gd : Nat → α) (sp dp nn : Nat) : Nat → α := fun i => if dp ≤ i ∧ i < dp + nn then gs (sp + (i - dp)) else gd i
theorem own_copy_list {α : Type} (gs gd : Nat → α) (us : List α) (B sp dp nn : Nat) (d : α) (l2 : us.length = nn) (hu : ∀ k, k < nn → us[k]? = some (gs (sp + k))) (h2 : dp + nn ≤ B) (i : Nat) (hi : i < B) :
    ((((List.range B).map gd).take dp ++ us ++ ((List.range B).map gd).drop (dp + nn)).getD i d) = own_copy gs gd sp dp nn i := by
  have l1 : (((List.range B).map gd).take dp).length = dp := by simp; omega
  unfold own_copy
  simp only [List.getD_eq_getElem?_getD]
  by_cases q1 : i < dp
  · rw [if_neg (by omega), List.append_assoc, List.getElem?_append_left (by rw [l1]; exact q1), List.getElem?_take_of_lt q1, List.getElem?_map, List.getElem?_range hi]; rfl
  · by_cases q2 : i < dp + nn
    · rw [if_pos ⟨by omega, q2⟩, List.append_assoc, List.getElem?_append_right (by rw [l1]; omega), l1, List.getElem?_append_left (by rw [l2]; omega), hu _ (by omega)]; rfl
    · rw [if_neg (by omega), List.getElem?_append_right (by rw [List.length_append, l1, l2]; omega), List.length_append, l1, l2, List.getElem?_drop, show dp + nn + (i - (dp + nn)) = i by omega, List.getElem?_map, List.getElem?_range hi]; rfl
theorem own_copy_us {α : Type} (gs : Nat → α) (A sp nn : Nat) (d : α) (h1 : sp + nn ≤ A) (k : Nat) (hk : k < nn) : ((List.range nn).map (fun i => ((List.range A).map gs).getD (sp + i) d))[k]? = some (gs (sp + k)) := by
  rw [List.getElem?_map, List.getElem?_range hk]
  show some (((List.range A).map gs).getD (sp + k) d) = _
  rw [own_range _ _ _ _ (by omega)]
section OwnCp
variable {p : Program} {l : Launch} {e : Env} {R : Room} {s : State} {m : MethodId} {args : Array Value} {below : List Frame} {meth : Method} {c : Code} {T : State} {locs : List Loc} {cells slots : Nat}
theorem own_cpI (X : Stand p l e R s m args below meth c T locs cells slots) (hx : p.tables.exec = Jvm.exec) (hZ : Z.Warmed39 s.vm) {a0 : Array Value} {own : String} {index : Nat} (hown : s.vm.findClass own = some m.cls)
    (w1 : (Jvm.Cond.methodLink own index Jvm.Stand.acN).before a0 Z = true) (w2 : (Jvm.Cond.native Jvm.Stand.acN).before a0 Z = true) (w3 : (Jvm.Cond.static Jvm.Stand.acN).before a0 Z = true) (w4 : (Jvm.Cond.initialized "java/lang/System").before a0 Z = true) (eT : T.heap = h)
    {z z' sp dp nn : Int32} {gs gd : Nat → Int32} (A : own_IA ty Z h a z gs) (B : own_IA ty Z h b z' gd) (hty : refKind ty = false)
    (h1 : ¬ sp < 0) (h2 : ¬ dp < 0) (h3 : ¬ nn < 0) (h4 : sp.toNatClampNeg + nn.toNatClampNeg ≤ z.toNatClampNeg) (h5 : dp.toNatClampNeg + nn.toNatClampNeg ≤ z'.toNatClampNeg) {n0 : Nat} (N : Fr n0 locs) (ge : n0 ≤ b)
    {g : JFrame} (hg : g.method = m) (hsize : g.locals.size = c.maxLocals) {rest : List Value} (hs : g.stack = .int nn :: .int dp :: .ref b :: .int sp :: .ref a :: rest) (hd : decode c.code g.pc = .ok (.invokestatic index, 3))
    (hf : 1 ≤ R.frames) {W : Nat} (hW : 2 * g.monitorRoom + (rest.map fun v => v.category).sum ≤ W) (hlo : W + (nativeFrameWords "java/lang/System" "arraycopy" 5 + 11) ≤ R.locals) :
    ∃ T' h' L, Stand p l e R s m args below meth c T' L cells slots ∧ T'.heap = h' ∧ Fr n0 L ∧ Keep h h' [b] ∧ own_IA ty Z h' b z' (own_copy gs gd sp.toNatClampNeg dp.toNatClampNeg nn.toNatClampNeg) ∧
      ∀ target, Steps p.tables e below (T'.setTop { g with pc := g.pc + 3, stack := rest }) target → Steps p.tables e below (T.setTop g) target := by
  obtain ⟨k1, A1⟩ := A.arv
  obtain ⟨k2, B1⟩ := B.arv
  obtain ⟨T', h', L, q1, q2, q3, q4, q5, q6⟩ := cpA X hx hZ hown w1 w2 w3 w4 eT A1 B1 (Or.inl ⟨rfl, hty⟩) h1 h2 h3 h4 h5 rfl (by simpa using h5) N ge hg hsize hs hd hf hW hlo
  refine ⟨T', h', L, q1, q2, q3, q4, own_IA.ofArv q5 fun i hi => ?_, q6⟩
  have r := own_copy_list (fun i => Value.int (gs i)) (fun i => Value.int (gd i)) _ z'.toNatClampNeg sp.toNatClampNeg dp.toNatClampNeg nn.toNatClampNeg (.int 0) (by simp) (own_copy_us (fun i => Value.int (gs i)) z.toNatClampNeg sp.toNatClampNeg nn.toNatClampNeg (.int 0) h4) h5 i hi
  rw [r]; unfold own_copy; split <;> rfl
theorem own_cpJ (X : Stand p l e R s m args below meth c T locs cells slots) (hx : p.tables.exec = Jvm.exec) (hZ : Z.Warmed39 s.vm) {a0 : Array Value} {own : String} {index : Nat} (hown : s.vm.findClass own = some m.cls)
    (w1 : (Jvm.Cond.methodLink own index Jvm.Stand.acN).before a0 Z = true) (w2 : (Jvm.Cond.native Jvm.Stand.acN).before a0 Z = true) (w3 : (Jvm.Cond.static Jvm.Stand.acN).before a0 Z = true) (w4 : (Jvm.Cond.initialized "java/lang/System").before a0 Z = true) (eT : T.heap = h)
    {z z' sp dp nn : Int32} {gs gd : Nat → Int64} (A : own_JA Z h a z gs) (B : own_JA Z h b z' gd)
    (h1 : ¬ sp < 0) (h2 : ¬ dp < 0) (h3 : ¬ nn < 0) (h4 : sp.toNatClampNeg + nn.toNatClampNeg ≤ z.toNatClampNeg) (h5 : dp.toNatClampNeg + nn.toNatClampNeg ≤ z'.toNatClampNeg) {n0 : Nat} (N : Fr n0 locs) (ge : n0 ≤ b)
    {g : JFrame} (hg : g.method = m) (hsize : g.locals.size = c.maxLocals) {rest : List Value} (hs : g.stack = .int nn :: .int dp :: .ref b :: .int sp :: .ref a :: rest) (hd : decode c.code g.pc = .ok (.invokestatic index, 3))
    (hf : 1 ≤ R.frames) {W : Nat} (hW : 2 * g.monitorRoom + (rest.map fun v => v.category).sum ≤ W) (hlo : W + (nativeFrameWords "java/lang/System" "arraycopy" 5 + 11) ≤ R.locals) :
    ∃ T' h' L, Stand p l e R s m args below meth c T' L cells slots ∧ T'.heap = h' ∧ Fr n0 L ∧ Keep h h' [b] ∧ own_JA Z h' b z' (own_copy gs gd sp.toNatClampNeg dp.toNatClampNeg nn.toNatClampNeg) ∧
      ∀ target, Steps p.tables e below (T'.setTop { g with pc := g.pc + 3, stack := rest }) target → Steps p.tables e below (T.setTop g) target := by
  obtain ⟨k1, A1⟩ := A.arv
  obtain ⟨k2, B1⟩ := B.arv
  obtain ⟨T', h', L, q1, q2, q3, q4, q5, q6⟩ := cpA X hx hZ hown w1 w2 w3 w4 eT A1 B1 (Or.inl ⟨rfl, rfl⟩) h1 h2 h3 h4 h5 rfl (by simpa using h5) N ge hg hsize hs hd hf hW hlo
  refine ⟨T', h', L, q1, q2, q3, q4, own_JA.ofArv q5 fun i hi => ?_, q6⟩
  have r := own_copy_list (fun i => Value.long (gs i)) (fun i => Value.long (gd i)) _ z'.toNatClampNeg sp.toNatClampNeg dp.toNatClampNeg nn.toNatClampNeg (.long 0) (by simp) (own_copy_us (fun i => Value.long (gs i)) z.toNatClampNeg sp.toNatClampNeg nn.toNatClampNeg (.long 0) h4) h5 i hi
  rw [r]; unfold own_copy; split <;> rfl
end OwnCp
end OwnArr
def own_min (u v : Int32) : Int32 := if v < u then v else u
def own_max (u v : Int32) : Int32 := if u < v then v else u
abbrev own_b (u k : Int32) : Int32 := (u >>> (k &&& 31)).toInt8.toInt32
def own_w4 (g : Nat → Int32) (sz u : Int32) : Nat → Int32 := own_upd (own_upd (own_upd (own_upd g sz.toNatClampNeg ((u >>> ((24 : Int32) &&& 31)).toInt8.toInt32)) (sz + (1 : Int32)).toNatClampNeg ((u >>> ((16 : Int32) &&& 31)).toInt8.toInt32)) ((sz + (1 : Int32)) + (1 : Int32)).toNatClampNeg ((u >>> ((8 : Int32) &&& 31)).toInt8.toInt32)) (((sz + (1 : Int32)) + (1 : Int32)) + (1 : Int32)).toNatClampNeg (u.toInt8.toInt32)
def own_w1 (g : Nat → Int32) (sz u : Int32) : Nat → Int32 := own_upd g sz.toNatClampNeg (u.toInt8.toInt32)
theorem own_i8 {x y : Int32} (h : (x.toInt - y.toInt) % 256 = 0) : x.toInt8.toInt32 = y.toInt8.toInt32 := by
  rw [← Int32.toInt_inj]
  have a := c_i2b x; have b := c_i2b y
  omega
theorem own_sh (u : Int32) (k : Int32) (j : Nat) (hk : k.toBitVec.toNat % 32 = j) (h0 : 0 < j) (hj : j ≤ 24) : ((u >>> (k &&& 31)).toInt8.toInt32) = (((u.toUInt32 >>> (k &&& 31).toUInt32).toInt32).toInt8.toInt32) := by
  refine own_i8 ?_
  rw [c_ishr u k j hk, c_iushr u k j hk h0]
  have e : (4294967296 : Int) = (2 ^ j : Nat) * (256 * (2 ^ (24 - j) : Nat)) := by
    have : (2 : Nat) ^ 32 = 2 ^ j * (256 * 2 ^ (24 - j)) := by
      rw [show (256 : Nat) = 2 ^ 8 from rfl, ← Nat.pow_add, ← Nat.pow_add]; congr 1; omega
    have h2 : ((2 ^ 32 : Nat) : Int) = ((2 ^ j * (256 * 2 ^ (24 - j)) : Nat) : Int) := by rw [this]
    simpa using h2
  have hp : (0 : Int) < (2 ^ j : Nat) := by have := Nat.two_pow_pos j; omega
  generalize hP : ((2 ^ j : Nat) : Int) = P at *
  generalize hQ : (256 * (2 ^ (24 - j) : Nat) : Int) = Q at *
  have dQ : Q % 256 = 0 := by rw [← hQ]; exact Int.mul_emod_right 256 _
  rw [e, Int.emod_def u.toInt (P * Q)]
  have s : (u.toInt - P * Q * (u.toInt / (P * Q))) / P = u.toInt / P - Q * (u.toInt / (P * Q)) := by
    rw [show u.toInt - P * Q * (u.toInt / (P * Q)) = u.toInt + P * (-(Q * (u.toInt / (P * Q)))) by rw [Int.mul_neg, ← Int.mul_assoc]; rfl, Int.add_mul_ediv_left _ _ (by omega)]
    rfl
  rw [s, show u.toInt / P - (u.toInt / P - Q * (u.toInt / (P * Q))) = Q * (u.toInt / (P * Q)) by omega, Int.mul_emod, dQ]
  simp
theorem own_hi (b : Int64) : (b >>> ((32 : Int32) &&& 0x3f).toInt64).toInt32 = ((b.toUInt64 >>> ((32 : Int32) &&& 0x3f).toInt64.toUInt64).toInt64).toInt32 := by
  rw [← Int32.toInt_inj]
  have a := c_l2i (b >>> ((32 : Int32) &&& 0x3f).toInt64); have c := c_l2i ((b.toUInt64 >>> ((32 : Int32) &&& 0x3f).toInt64.toUInt64).toInt64)
  rw [c_lshr b 32 32 (by decide)] at a
  rw [c_lushr b 32 32 (by decide) (by decide)] at c
  have r1 := rng32 (b >>> ((32 : Int32) &&& 0x3f).toInt64).toInt32; have r2 := rng32 ((b.toUInt64 >>> ((32 : Int32) &&& 0x3f).toInt64.toUInt64).toInt64).toInt32
  generalize (b >>> ((32 : Int32) &&& 0x3f).toInt64).toInt32.toInt = p at *
  generalize ((b.toUInt64 >>> ((32 : Int32) &&& 0x3f).toInt64.toUInt64).toInt64).toInt32.toInt = q at *
  have e : ((2 ^ 32 : Nat) : Int) = 4294967296 := by decide
  rw [e] at a c
  omega
theorem d5_0 : decode jdk_29_method_69_code 0 = .ok (.iload_n 0, 1) := by decide +kernel
theorem d5_1 : decode jdk_29_method_69_code 1 = .ok (.iload_n 1, 1) := by decide +kernel
theorem d5_2 : decode jdk_29_method_69_code 2 = .ok (.if_icmp .gt 7, 3) := by decide +kernel
theorem d5_5 : decode jdk_29_method_69_code 5 = .ok (.iload_n 0, 1) := by decide +kernel
theorem d5_6 : decode jdk_29_method_69_code 6 = .ok (.goto 4, 3) := by decide +kernel
theorem d5_9 : decode jdk_29_method_69_code 9 = .ok (.iload_n 1, 1) := by decide +kernel
theorem d5_10 : decode jdk_29_method_69_code 10 = .ok (.ireturn, 1) := by decide +kernel
theorem ef_5_00 (m : MethodId) (x0 : Int32) (x1 : Int32) : entryFrame m #[(.int x0), (.int x1)] 2 = mkF m 0 #[.val (.int x0), .val (.int x1)] [] := by first | (simp [entryFrame, mkF, argsToLocals, Value.category]; done) | rfl
def Q5 (Z : State) (u0 : Int32) (u1 : Int32) (h0 : Heap) (n0 : Nat) (v : Option Value) (h : Heap) (L : List Loc) : Prop := v = some (.int (own_min u0 u1)) ∧ Fr n0 L ∧ h = h0
set_option maxRecDepth 65536 in
set_option maxHeartbeats 40000000 in
theorem rm5 (l : Launch) (Z : State) (a0 : Array Value) (hw : ∀ d ∈ tables_1, d.before a0 Z = true) (ws : List Jvm.Cond) (u0 : Int32) (u1 : Int32) (h0 : Heap) (n0 : Nat) (Z0 : n0 ≤ h0.size) :
    MetFree l (⟨"java/lang/Math", "min", "(II)I"⟩ : MethodName) (head1 (Jvm.Cond.code (⟨"java/lang/Math", "min", "(II)I"⟩ : MethodName) jdk_29_method_69_code 2 (some .int) :: ws) ({ frames := 0, cells := 0, slots := 0, locals := 0 } : Room)) (fun a U => a = #[(.int u0), (.int u1)] ∧ Z.Warmed39 U.vm ∧ U.heap = h0) (fun _ _ _ _ _ => True) (fun _ U o U' => ∃ v L, o = .returned v ∧ Q5 Z u0 u1 h0 n0 v U'.heap L ∧ FrameEnd U o U' L ({ frames := 0, cells := 0, slots := 0, locals := 0 } : Room).cells ({ frames := 0, cells := 0, slots := 0, locals := 0 } : Room).slots) := by
  refine MetFree.of_bodySF (Jvm.Free.JP.mathPlain rfl (by decide +kernel)) hisR ?_
  intro p e s m args below meth c s₁ Bd hml0 hP hK
  obtain ⟨rfl, hZ, hh⟩ := hP
  have hx := Bd.exec
  have hby := Bd.bytes
  have hlk : meth.locks = false := Bd.notSynchronized
  have hml : c.maxLocals = 2 := hml0
  have hown : s.vm.findClass "java/lang/Math" = some m.cls := findClass_of_methodNamed Bd.named
  have hnm := (name_of_methodNamed Bd.named Bd.method).1
  have X0 : Stand p l e ({ frames := 0, cells := 0, slots := 0, locals := 0 } : Room) s m #[(.int u0), (.int u1)] below meth c s₁ [] 0 0 := Stand.of_body Bd
  have e0 : s₁.heap = h0 := by rw [← hh, Bd.state]; rfl
  have N0 := Fr.nil n0
  have K0 : Keep h0 h0 [] := Keep.refl h0 _
  show Wp p e below (Out s (Q5 Z u0 u1 h0 n0) ({ frames := 0, cells := 0, slots := 0, locals := 0 } : Room).cells ({ frames := 0, cells := 0, slots := 0, locals := 0 } : Room).slots) (s₁.setTop (entryFrame m #[(.int u0), (.int u1)] 2))
  rw [ef_5_00]
  show Wp p e below _ (s₁.setTop (mkF m 0 #[.val (.int u0), .val (.int u1)] []))
  refine Wp.step (fun t k => XS.iloadN X0.here hx rfl (hb hby d5_0) rfl k) ?_
  show Wp p e below _ (s₁.setTop (mkF m 1 #[.val (.int u0), .val (.int u1)] [(.int u0)]))
  refine Wp.step (fun t k => XS.iloadN X0.here hx rfl (hb hby d5_1) rfl k) ?_
  show Wp p e below _ (s₁.setTop (mkF m 2 #[.val (.int u0), .val (.int u1)] [(.int u1), (.int u0)]))
  by_cases hc1 : u1 < u0
  · refine Wp.step (fun t k => XS.icmpYes X0.here hx rfl (pc0 := 2) (pc' := 9) rfl (hb hby d5_2) rfl (tlt hc1).2.2.1 (by decide) (by decide) k) ?_
    show Wp p e below _ (s₁.setTop (mkF m 9 #[.val (.int u0), .val (.int u1)] []))
    refine Wp.step (fun t k => XS.iloadN X0.here hx rfl (hb hby d5_9) rfl k) ?_
    show Wp p e below _ (s₁.setTop (mkF m 10 #[.val (.int u0), .val (.int u1)] [(.int u1)]))
    refine Wp.retI X0 hx Bd.returns (hb hby d5_10) hlk ?_ (by decide) (by decide)
    show Q5 Z u0 u1 h0 n0 (some (.int u1)) s₁.heap _
    rw [e0]
    exact ⟨by rw [own_min, if_pos hc1], N0, rfl⟩
  · refine Wp.step (fun t k => XS.icmpNo X0.here hx rfl (hb hby d5_2) rfl (flt hc1).2.2.1 k) ?_
    show Wp p e below _ (s₁.setTop (mkF m 5 #[.val (.int u0), .val (.int u1)] []))
    refine Wp.step (fun t k => XS.iloadN X0.here hx rfl (hb hby d5_5) rfl k) ?_
    show Wp p e below _ (s₁.setTop (mkF m 6 #[.val (.int u0), .val (.int u1)] [(.int u0)]))
    refine Wp.step (fun t k => XS.goto X0.here hx rfl (pc0 := 6) (pc' := 10) rfl (hb hby d5_6) (by decide) (by decide) k) ?_
    show Wp p e below _ (s₁.setTop (mkF m 10 #[.val (.int u0), .val (.int u1)] [(.int u0)]))
    refine Wp.retI X0 hx Bd.returns (hb hby d5_10) hlk ?_ (by decide) (by decide)
    show Q5 Z u0 u1 h0 n0 (some (.int u0)) s₁.heap _
    rw [e0]
    exact ⟨by rw [own_min, if_neg hc1], N0, rfl⟩
theorem d14_0 : decode jdk_29_method_65_code 0 = .ok (.iload_n 0, 1) := by decide +kernel
theorem d14_1 : decode jdk_29_method_65_code 1 = .ok (.iload_n 1, 1) := by decide +kernel
theorem d14_2 : decode jdk_29_method_65_code 2 = .ok (.if_icmp .lt 7, 3) := by decide +kernel
theorem d14_5 : decode jdk_29_method_65_code 5 = .ok (.iload_n 0, 1) := by decide +kernel
theorem d14_6 : decode jdk_29_method_65_code 6 = .ok (.goto 4, 3) := by decide +kernel
theorem d14_9 : decode jdk_29_method_65_code 9 = .ok (.iload_n 1, 1) := by decide +kernel
theorem d14_10 : decode jdk_29_method_65_code 10 = .ok (.ireturn, 1) := by decide +kernel
theorem ef_14_00 (m : MethodId) (x0 : Int32) (x1 : Int32) : entryFrame m #[(.int x0), (.int x1)] 2 = mkF m 0 #[.val (.int x0), .val (.int x1)] [] := by first | (simp [entryFrame, mkF, argsToLocals, Value.category]; done) | rfl
def Q14 (Z : State) (u0 : Int32) (u1 : Int32) (h0 : Heap) (n0 : Nat) (v : Option Value) (h : Heap) (L : List Loc) : Prop := v = some (.int (own_max u0 u1)) ∧ Fr n0 L ∧ h = h0
set_option maxRecDepth 65536 in
set_option maxHeartbeats 40000000 in
theorem rm14 (l : Launch) (Z : State) (a0 : Array Value) (hw : ∀ d ∈ tables_1, d.before a0 Z = true) (ws : List Jvm.Cond) (u0 : Int32) (u1 : Int32) (h0 : Heap) (n0 : Nat) (Z0 : n0 ≤ h0.size) :
    MetFree l (⟨"java/lang/Math", "max", "(II)I"⟩ : MethodName) (head1 (Jvm.Cond.code (⟨"java/lang/Math", "max", "(II)I"⟩ : MethodName) jdk_29_method_65_code 2 (some .int) :: ws) ({ frames := 0, cells := 0, slots := 0, locals := 0 } : Room)) (fun a U => a = #[(.int u0), (.int u1)] ∧ Z.Warmed39 U.vm ∧ U.heap = h0) (fun _ _ _ _ _ => True) (fun _ U o U' => ∃ v L, o = .returned v ∧ Q14 Z u0 u1 h0 n0 v U'.heap L ∧ FrameEnd U o U' L ({ frames := 0, cells := 0, slots := 0, locals := 0 } : Room).cells ({ frames := 0, cells := 0, slots := 0, locals := 0 } : Room).slots) := by
  refine MetFree.of_bodySF (Jvm.Free.JP.mathPlain rfl (by decide +kernel)) hisR ?_
  intro p e s m args below meth c s₁ Bd hml0 hP hK
  obtain ⟨rfl, hZ, hh⟩ := hP
  have hx := Bd.exec
  have hby := Bd.bytes
  have hlk : meth.locks = false := Bd.notSynchronized
  have hml : c.maxLocals = 2 := hml0
  have hown : s.vm.findClass "java/lang/Math" = some m.cls := findClass_of_methodNamed Bd.named
  have hnm := (name_of_methodNamed Bd.named Bd.method).1
  have X0 : Stand p l e ({ frames := 0, cells := 0, slots := 0, locals := 0 } : Room) s m #[(.int u0), (.int u1)] below meth c s₁ [] 0 0 := Stand.of_body Bd
  have e0 : s₁.heap = h0 := by rw [← hh, Bd.state]; rfl
  have N0 := Fr.nil n0
  have K0 : Keep h0 h0 [] := Keep.refl h0 _
  show Wp p e below (Out s (Q14 Z u0 u1 h0 n0) ({ frames := 0, cells := 0, slots := 0, locals := 0 } : Room).cells ({ frames := 0, cells := 0, slots := 0, locals := 0 } : Room).slots) (s₁.setTop (entryFrame m #[(.int u0), (.int u1)] 2))
  rw [ef_14_00]
  show Wp p e below _ (s₁.setTop (mkF m 0 #[.val (.int u0), .val (.int u1)] []))
  refine Wp.step (fun t k => XS.iloadN X0.here hx rfl (hb hby d14_0) rfl k) ?_
  show Wp p e below _ (s₁.setTop (mkF m 1 #[.val (.int u0), .val (.int u1)] [(.int u0)]))
  refine Wp.step (fun t k => XS.iloadN X0.here hx rfl (hb hby d14_1) rfl k) ?_
  show Wp p e below _ (s₁.setTop (mkF m 2 #[.val (.int u0), .val (.int u1)] [(.int u1), (.int u0)]))
  by_cases hc1 : u0 < u1
  · refine Wp.step (fun t k => XS.icmpYes X0.here hx rfl (pc0 := 2) (pc' := 9) rfl (hb hby d14_2) rfl (tlt hc1).1 (by decide) (by decide) k) ?_
    show Wp p e below _ (s₁.setTop (mkF m 9 #[.val (.int u0), .val (.int u1)] []))
    refine Wp.step (fun t k => XS.iloadN X0.here hx rfl (hb hby d14_9) rfl k) ?_
    show Wp p e below _ (s₁.setTop (mkF m 10 #[.val (.int u0), .val (.int u1)] [(.int u1)]))
    refine Wp.retI X0 hx Bd.returns (hb hby d14_10) hlk ?_ (by decide) (by decide)
    show Q14 Z u0 u1 h0 n0 (some (.int u1)) s₁.heap _
    rw [e0]
    exact ⟨by rw [own_max, if_pos hc1], N0, rfl⟩
  · refine Wp.step (fun t k => XS.icmpNo X0.here hx rfl (hb hby d14_2) rfl (flt hc1).1 k) ?_
    show Wp p e below _ (s₁.setTop (mkF m 5 #[.val (.int u0), .val (.int u1)] []))
    refine Wp.step (fun t k => XS.iloadN X0.here hx rfl (hb hby d14_5) rfl k) ?_
    show Wp p e below _ (s₁.setTop (mkF m 6 #[.val (.int u0), .val (.int u1)] [(.int u0)]))
    refine Wp.step (fun t k => XS.goto X0.here hx rfl (pc0 := 6) (pc' := 10) rfl (hb hby d14_6) (by decide) (by decide) k) ?_
    show Wp p e below _ (s₁.setTop (mkF m 10 #[.val (.int u0), .val (.int u1)] [(.int u0)]))
    refine Wp.retI X0 hx Bd.returns (hb hby d14_10) hlk ?_ (by decide) (by decide)
    show Q14 Z u0 u1 h0 n0 (some (.int u0)) s₁.heap _
    rw [e0]
    exact ⟨by rw [own_max, if_neg hc1], N0, rfl⟩
theorem pd_28II29I : parseMethodDescriptor "(II)I" = some ⟨[.int, .int], some .int⟩ := by decide +kernel
theorem d4_0 : decode jdk_65_method_121_code 0 = .ok (.iload_n 1, 1) := by decide +kernel
theorem d4_1 : decode jdk_65_method_121_code 1 = .ok (.aload_n 0, 1) := by decide +kernel
theorem d4_2 : decode jdk_65_method_121_code 2 = .ok (.arraylength, 1) := by decide +kernel
theorem d4_3 : decode jdk_65_method_121_code 3 = .ok (.if_icmp .ne 11, 3) := by decide +kernel
theorem d4_14 : decode jdk_65_method_121_code 14 = .ok (.iload_n 1, 1) := by decide +kernel
theorem d4_15 : decode jdk_65_method_121_code 15 = .ok (.newarray .byte, 2) := by decide +kernel
theorem d4_17 : decode jdk_65_method_121_code 17 = .ok (.astore_n 2, 1) := by decide +kernel
theorem d4_18 : decode jdk_65_method_121_code 18 = .ok (.aload_n 0, 1) := by decide +kernel
theorem d4_19 : decode jdk_65_method_121_code 19 = .ok (.iconst 0, 1) := by decide +kernel
theorem d4_20 : decode jdk_65_method_121_code 20 = .ok (.aload_n 2, 1) := by decide +kernel
theorem d4_21 : decode jdk_65_method_121_code 21 = .ok (.iconst 0, 1) := by decide +kernel
theorem d4_22 : decode jdk_65_method_121_code 22 = .ok (.aload_n 0, 1) := by decide +kernel
theorem d4_23 : decode jdk_65_method_121_code 23 = .ok (.arraylength, 1) := by decide +kernel
theorem d4_24 : decode jdk_65_method_121_code 24 = .ok (.iload_n 1, 1) := by decide +kernel
theorem d4_25 : decode jdk_65_method_121_code 25 = .ok (.invokestatic 304, 3) := by decide +kernel
theorem d4_28 : decode jdk_65_method_121_code 28 = .ok (.invokestatic 150, 3) := by decide +kernel
theorem d4_31 : decode jdk_65_method_121_code 31 = .ok (.aload_n 2, 1) := by decide +kernel
theorem d4_32 : decode jdk_65_method_121_code 32 = .ok (.areturn, 1) := by decide +kernel
theorem pn_java_util_Arrays : plainName "java/util/Arrays" = true := by first | (simp [plainName, overriddenIn]; done) | decide +kernel
theorem ef_4_00 (m : MethodId) (x0 : Addr) (x1 : Int32) : entryFrame m #[(.ref x0), (.int x1)] 3 = mkF m 0 #[.val (.ref x0), .val (.int x1), .unset] [] := by first | (simp [entryFrame, mkF, argsToLocals, Value.category]; done) | rfl
def Q4 (Z : State) (d1 : Addr) (u1 : Int32) (z0 : Int32) (g0 : Nat → Int32) (h0 : Heap) (n0 : Nat) (v : Option Value) (h : Heap) (L : List Loc) : Prop := ∃ b0 : Addr, v = some (.ref b0) ∧ Fr n0 L ∧ Keep h0 h [] ∧ h0.size ≤ b0 ∧ n0 ≤ b0 ∧ own_IA .byte Z h b0 u1 (own_copy g0 (fun _ => (0 : Int32)) (0 : Int32).toNatClampNeg (0 : Int32).toNatClampNeg (own_min z0 u1).toNatClampNeg)
set_option maxRecDepth 65536 in
set_option maxHeartbeats 40000000 in
theorem rm4 (l : Launch) (Z : State) (a0 : Array Value) (hw : ∀ d ∈ tables_1, d.before a0 Z = true) (ws : List Jvm.Cond) (d1 : Addr) (u1 : Int32) (z0 : Int32) (g0 : Nat → Int32) (h0 : Heap) (n0 : Nat) (Z0 : n0 ≤ h0.size) (B_a : own_IA .byte Z h0 d1 z0 g0) (hne : ¬ u1 = z0) (hnn : ¬ u1 < 0) (hcap : u1.toNatClampNeg ≤ 512) (hm0 : ¬ (own_min z0 u1) < 0) (hm1 : (0 : Int32).toNatClampNeg + (own_min z0 u1).toNatClampNeg ≤ z0.toNatClampNeg) (hm2 : (0 : Int32).toNatClampNeg + (own_min z0 u1).toNatClampNeg ≤ u1.toNatClampNeg) :
    MetFree l (⟨"java/util/Arrays", "copyOf", "([BI)[B"⟩ : MethodName) (head1 (Jvm.Cond.code (⟨"java/util/Arrays", "copyOf", "([BI)[B"⟩ : MethodName) jdk_65_method_121_code 3 (some (.array .byte)) :: ws) ({ frames := 1, cells := 1, slots := 512, locals := 18 } : Room)) (fun a U => a = #[(.ref d1), (.int u1)] ∧ Z.Warmed39 U.vm ∧ U.heap = h0) (fun _ _ _ _ _ => True) (fun _ U o U' => ∃ v L, o = .returned v ∧ Q4 Z d1 u1 z0 g0 h0 n0 v U'.heap L ∧ FrameEnd U o U' L ({ frames := 1, cells := 1, slots := 512, locals := 18 } : Room).cells ({ frames := 1, cells := 1, slots := 512, locals := 18 } : Room).slots) := by
  refine MetFree.of_bodySF (plainFor_of_name pn_java_util_Arrays) hisR ?_
  intro p e s m args below meth c s₁ Bd hml0 hP hK
  obtain ⟨rfl, hZ, hh⟩ := hP
  have hx := Bd.exec
  have hby := Bd.bytes
  have hlk : meth.locks = false := Bd.notSynchronized
  have hml : c.maxLocals = 3 := hml0
  have hown : s.vm.findClass "java/util/Arrays" = some m.cls := findClass_of_methodNamed Bd.named
  have hnm := (name_of_methodNamed Bd.named Bd.method).1
  have X0 : Stand p l e ({ frames := 1, cells := 1, slots := 512, locals := 18 } : Room) s m #[(.ref d1), (.int u1)] below meth c s₁ [] 0 0 := Stand.of_body Bd
  have e0 : s₁.heap = h0 := by rw [← hh, Bd.state]; rfl
  have N0 := Fr.nil n0
  have K0 : Keep h0 h0 [] := Keep.refl h0 _
  show Wp p e below (Out s (Q4 Z d1 u1 z0 g0 h0 n0) ({ frames := 1, cells := 1, slots := 512, locals := 18 } : Room).cells ({ frames := 1, cells := 1, slots := 512, locals := 18 } : Room).slots) (s₁.setTop (entryFrame m #[(.ref d1), (.int u1)] 3))
  rw [ef_4_00]
  show Wp p e below _ (s₁.setTop (mkF m 0 #[.val (.ref d1), .val (.int u1), .unset] []))
  refine Wp.step (fun t k => XS.iloadN X0.here hx rfl (hb hby d4_0) rfl k) ?_
  show Wp p e below _ (s₁.setTop (mkF m 1 #[.val (.ref d1), .val (.int u1), .unset] [(.int u1)]))
  refine Wp.step (fun t k => XS.aloadN X0.here hx rfl (hb hby d4_1) rfl rfl k) ?_
  show Wp p e below _ (s₁.setTop (mkF m 2 #[.val (.ref d1), .val (.int u1), .unset] [(.ref d1), (.int u1)]))
  obtain ⟨cl1, Ar1, Sz1, Nn1, -⟩ := id B_a
  refine Wp.step (X0.arraylength hx (by rw [e0]; exact Ar1.1) (State.isArrayOf_alike hZ.alike Ar1.2.1) (g := (mkF m 2 #[.val (.ref d1), .val (.int u1), .unset] [(.ref d1), (.int u1)])) rfl rfl (hb hby d4_2)) ?_
  rw [len_of Sz1 Nn1]
  show Wp p e below _ (s₁.setTop (mkF m 3 #[.val (.ref d1), .val (.int u1), .unset] [(.int z0), (.int u1)]))
  refine Wp.step (fun t k => XS.icmpYes X0.here hx rfl (pc0 := 3) (pc' := 14) rfl (hb hby d4_3) rfl (feq (show ¬ (u1 = z0) from hne)).2 (by decide) (by decide) k) ?_
  show Wp p e below _ (s₁.setTop (mkF m 14 #[.val (.ref d1), .val (.int u1), .unset] []))
  refine Wp.step (fun t k => XS.iloadN X0.here hx rfl (hb hby d4_14) rfl k) ?_
  show Wp p e below _ (s₁.setTop (mkF m 15 #[.val (.ref d1), .val (.int u1), .unset] [(.int u1)]))
  obtain ⟨T3, h3, k3, X3, e3, E3, A3, st3⟩ := newP X0 hx hZ (hw _ (List.mem_of_getElem? (i := 0) rfl)) e0 (g := (mkF m 15 #[.val (.ref d1), .val (.int u1), .unset] [(.int u1)])) rfl (hb hby d4_15) rfl hnn (cap := 512) hcap (by decide) (by decide) (by decide)
  obtain ⟨b3, g3⟩ : ∃ z, z = h0.size := ⟨_, rfl⟩
  rw [← g3] at A3 st3
  have g_b3 : n0 ≤ b3 := Nat.le_trans (Nat.le_trans Z0 K0.1) (Nat.le_of_eq g3.symm)
  have sz_b3 : h0.size ≤ b3 := Nat.le_trans K0.1 (Nat.le_of_eq g3.symm)
  have ne_d1_b3 : d1 ≠ b3 := Nat.ne_of_lt (Nat.lt_of_lt_of_le B_a.lt (Nat.le_of_eq g3.symm))
  have B4 := B_a.ext E3
  have K5 := K0.ext E3
  have Z3 : (newA k3 .byte u1).slots.size = (u1).toNatClampNeg := sz_new _ _ _
  have nn3 : ¬ u1 < 0 := hnn
  refine Wp.step st3 ?_
  have B3 := own_IA.new A3 nn3 rfl
  show Wp p e below _ (T3.setTop (mkF m 17 #[.val (.ref d1), .val (.int u1), .unset] [(.ref b3)]))
  refine Wp.step (fun t k => XS.astoreN X3.here hx rfl (hb hby d4_17) rfl rfl (l' := #[.val (.ref d1), .val (.int u1), .val (.ref b3)]) rfl k) ?_
  show Wp p e below _ (T3.setTop (mkF m 18 #[.val (.ref d1), .val (.int u1), .val (.ref b3)] []))
  refine Wp.step (fun t k => XS.aloadN X3.here hx rfl (hb hby d4_18) rfl rfl k) ?_
  show Wp p e below _ (T3.setTop (mkF m 19 #[.val (.ref d1), .val (.int u1), .val (.ref b3)] [(.ref d1)]))
  refine Wp.step (fun t k => XS.iconst X3.here hx rfl (hb hby d4_19) k) ?_
  show Wp p e below _ (T3.setTop (mkF m 20 #[.val (.ref d1), .val (.int u1), .val (.ref b3)] [(.int (0 : Int32)), (.ref d1)]))
  refine Wp.step (fun t k => XS.aloadN X3.here hx rfl (hb hby d4_20) rfl rfl k) ?_
  show Wp p e below _ (T3.setTop (mkF m 21 #[.val (.ref d1), .val (.int u1), .val (.ref b3)] [(.ref b3), (.int (0 : Int32)), (.ref d1)]))
  refine Wp.step (fun t k => XS.iconst X3.here hx rfl (hb hby d4_21) k) ?_
  show Wp p e below _ (T3.setTop (mkF m 22 #[.val (.ref d1), .val (.int u1), .val (.ref b3)] [(.int (0 : Int32)), (.ref b3), (.int (0 : Int32)), (.ref d1)]))
  refine Wp.step (fun t k => XS.aloadN X3.here hx rfl (hb hby d4_22) rfl rfl k) ?_
  show Wp p e below _ (T3.setTop (mkF m 23 #[.val (.ref d1), .val (.int u1), .val (.ref b3)] [(.ref d1), (.int (0 : Int32)), (.ref b3), (.int (0 : Int32)), (.ref d1)]))
  obtain ⟨cl6, Ar6, Sz6, Nn6, -⟩ := id B4
  refine Wp.step (X3.arraylength hx (by rw [e3]; exact Ar6.1) (State.isArrayOf_alike hZ.alike Ar6.2.1) (g := (mkF m 23 #[.val (.ref d1), .val (.int u1), .val (.ref b3)] [(.ref d1), (.int (0 : Int32)), (.ref b3), (.int (0 : Int32)), (.ref d1)])) rfl rfl (hb hby d4_23)) ?_
  rw [len_of Sz6 Nn6]
  show Wp p e below _ (T3.setTop (mkF m 24 #[.val (.ref d1), .val (.int u1), .val (.ref b3)] [(.int z0), (.int (0 : Int32)), (.ref b3), (.int (0 : Int32)), (.ref d1)]))
  refine Wp.step (fun t k => XS.iloadN X3.here hx rfl (hb hby d4_24) rfl k) ?_
  show Wp p e below _ (T3.setTop (mkF m 25 #[.val (.ref d1), .val (.int u1), .val (.ref b3)] [(.int u1), (.int z0), (.int (0 : Int32)), (.ref b3), (.int (0 : Int32)), (.ref d1)]))
  obtain ⟨_, _, ⟨T7, L7, k7, n7⟩, -, X7, ⟨Lc7, hQ7, l7, y7, z7⟩, st7⟩ := Jvm.LawKit.callS X3 hx (y := (⟨"java/lang/Math", "min", "(II)I"⟩ : MethodName)) hown (mvT hZ (hw _ (List.mem_of_getElem? (i := 23) rfl))) (mvT hZ (hw _ (List.mem_of_getElem? (i := 24) rfl))) (mvT hZ (hw _ (List.mem_of_getElem? (i := 25) rfl))) (mvT hZ (hw _ (List.mem_of_getElem? (i := 26) rfl))) (by decide) (backOf (W := 4) (rm5 l Z a0 hw [] z0 u1  h3 n0 (Nat.le_trans Z0 K5.1) ) hZ (hw _ (List.mem_of_getElem? (i := 26) rfl)) (hw _ (List.mem_of_getElem? (i := 25) rfl)) (by decide) (by decide)) (g := (mkF m 25 #[.val (.ref d1), .val (.int u1), .val (.ref b3)] [(.int u1), (.int z0), (.int (0 : Int32)), (.ref b3), (.int (0 : Int32)), (.ref d1)])) rfl (by rw [hml]; rfl) (argsL := [(.int z0), (.int u1)]) (rest := [(.int (0 : Int32)), (.ref b3), (.int (0 : Int32)), (.ref d1)]) (lenOf pd_28II29I rfl) rfl (by show 2 * 0 + _ ≤ _; exact Nat.le_of_eq rfl) (hb hby d4_25) (fun _ _ => ⟨rfl, e3, (by decide : 1 + 0 ≤ _), (by decide : 512 + 0 ≤ _)⟩)
  dsimp only [Pt.U, Pt.locs, Pt.cells, Pt.slots] at X7 l7 y7 z7 st7 hQ7
  subst l7 y7 z7
  obtain ⟨rfl, N7q, e7⟩ := hQ7
  have N7 := Fr.app N0 N7q
  refine Wp.step st7 ?_
  show Wp p e below _ (T7.setTop (mkF m 28 #[.val (.ref d1), .val (.int u1), .val (.ref b3)] [(.int (own_min z0 u1)), (.int (0 : Int32)), (.ref b3), (.int (0 : Int32)), (.ref d1)]))
  obtain ⟨T8, h8, L8, X8, e8, N8, Kc8, B8, st8⟩ := own_cpI X7 hx hZ hown (hw _ (List.mem_of_getElem? (i := 27) rfl)) (hw _ (List.mem_of_getElem? (i := 30) rfl)) (hw _ (List.mem_of_getElem? (i := 28) rfl)) (hw _ (List.mem_of_getElem? (i := 29) rfl)) e7 B4 B3 rfl (by decide) (by decide) hm0 hm1 hm2 N7 g_b3 (g := (mkF m 28 #[.val (.ref d1), .val (.int u1), .val (.ref b3)] [(.int (own_min z0 u1)), (.int (0 : Int32)), (.ref b3), (.int (0 : Int32)), (.ref d1)])) rfl (by rw [hml]; rfl) rfl (hb hby d4_28) (by decide) (W := 0) (by show 2 * 0 + _ ≤ _; exact Nat.le_of_eq rfl) (by decide)
  have B9 := B4.keep Kc8 (ninS ne_d1_b3 nin0)
  have K8 := K5.trans Kc8 (allS (Or.inr sz_b3) all0)
  refine Wp.step st8 ?_
  show Wp p e below _ (T8.setTop (mkF m 31 #[.val (.ref d1), .val (.int u1), .val (.ref b3)] []))
  refine Wp.step (fun t k => XS.aloadN X8.here hx rfl (hb hby d4_31) rfl rfl k) ?_
  show Wp p e below _ (T8.setTop (mkF m 32 #[.val (.ref d1), .val (.int u1), .val (.ref b3)] [(.ref b3)]))
  refine Wp.retA X8 hx Bd.returns rfl (hb hby d4_32) hlk ?_ (by decide) (by decide)
  show Q4 Z d1 u1 z0 g0 h0 n0 (some (.ref b3)) T8.heap _
  rw [e8]
  exact ⟨b3, rfl, N8, K8, sz_b3, g_b3, B8⟩
theorem d7_0 : decode prog_89_method_27_code 0 = .ok (.aload_n 0, 1) := by decide +kernel
theorem d7_1 : decode prog_89_method_27_code 1 = .ok (.getfield 17, 3) := by decide +kernel
theorem d7_4 : decode prog_89_method_27_code 4 = .ok (.iload_n 1, 1) := by decide +kernel
theorem d7_5 : decode prog_89_method_27_code 5 = .ok (.iadd, 1) := by decide +kernel
theorem d7_6 : decode prog_89_method_27_code 6 = .ok (.aload_n 0, 1) := by decide +kernel
theorem d7_7 : decode prog_89_method_27_code 7 = .ok (.getfield 7, 3) := by decide +kernel
theorem d7_10 : decode prog_89_method_27_code 10 = .ok (.arraylength, 1) := by decide +kernel
theorem d7_11 : decode prog_89_method_27_code 11 = .ok (.if_icmp .le 30, 3) := by decide +kernel
theorem d7_41 : decode prog_89_method_27_code 41 = .ok (.return_, 1) := by decide +kernel
theorem pn_com_example_ulinzi_ulinzi_protocol_ProtocolWriter : plainName "com/example/ulinzi/ulinzi/protocol/ProtocolWriter" = true := by first | (simp [plainName, overriddenIn]; done) | decide +kernel
theorem ef_7_00 (m : MethodId) (x0 : Addr) (x1 : Int32) : entryFrame m #[(.ref x0), (.int x1)] 2 = mkF m 0 #[.val (.ref x0), .val (.int x1)] [] := by first | (simp [entryFrame, mkF, argsToLocals, Value.category]; done) | rfl
def Q7_0 (Z : State) (d0 : Addr) (u0 : Int32) (arr : Addr) (sz : Int32) (cap : Int32) (g0 : Nat → Int32) (h0 : Heap) (n0 : Nat) (v : Option Value) (h : Heap) (L : List Loc) : Prop := v = none ∧ Fr n0 L ∧ h = h0
set_option maxRecDepth 65536 in
set_option maxHeartbeats 40000000 in
theorem rm7_0 (l : Launch) (Z : State) (a0 : Array Value) (hw : ∀ d ∈ tables_1, d.before a0 Z = true) (ws : List Jvm.Cond) (d0 : Addr) (u0 : Int32) (arr : Addr) (sz : Int32) (cap : Int32) (g0 : Nat → Int32) (h0 : Heap) (n0 : Nat) (Z0 : n0 ≤ h0.size) (g_d0 : n0 ≤ d0) (g_arr : n0 ≤ arr) (E_d0 : Exa Z h0 d0 "com/example/ulinzi/ulinzi/protocol/ProtocolWriter") (F_b : Fld Z h0 d0 "com/example/ulinzi/ulinzi/protocol/ProtocolWriter" "bytes" "[B" (.ref arr)) (F_s : Fld Z h0 d0 "com/example/ulinzi/ulinzi/protocol/ProtocolWriter" "size" "I" (.int sz)) (B_arr : own_IA .byte Z h0 arr cap g0) (ne_arr : arr ≠ d0) (hle : ¬ cap < (sz + u0)) :
    MetFree l (⟨"com/example/ulinzi/ulinzi/protocol/ProtocolWriter", "ensure", "(I)V"⟩ : MethodName) (head1 (Jvm.Cond.code (⟨"com/example/ulinzi/ulinzi/protocol/ProtocolWriter", "ensure", "(I)V"⟩ : MethodName) prog_89_method_27_code 2 none :: ws) ({ frames := 0, cells := 0, slots := 0, locals := 0 } : Room)) (fun a U => a = #[(.ref d0), (.int u0)] ∧ Z.Warmed39 U.vm ∧ U.heap = h0) (fun _ _ _ _ _ => True) (fun _ U o U' => ∃ v L, o = .returned v ∧ Q7_0 Z d0 u0 arr sz cap g0 h0 n0 v U'.heap L ∧ FrameEnd U o U' L ({ frames := 0, cells := 0, slots := 0, locals := 0 } : Room).cells ({ frames := 0, cells := 0, slots := 0, locals := 0 } : Room).slots) := by
  refine MetFree.of_bodySF (plainFor_of_name pn_com_example_ulinzi_ulinzi_protocol_ProtocolWriter) hisR ?_
  intro p e s m args below meth c s₁ Bd hml0 hP hK
  obtain ⟨rfl, hZ, hh⟩ := hP
  have hx := Bd.exec
  have hby := Bd.bytes
  have hlk : meth.locks = false := Bd.notSynchronized
  have hml : c.maxLocals = 2 := hml0
  have hown : s.vm.findClass "com/example/ulinzi/ulinzi/protocol/ProtocolWriter" = some m.cls := findClass_of_methodNamed Bd.named
  have hnm := (name_of_methodNamed Bd.named Bd.method).1
  have X0 : Stand p l e ({ frames := 0, cells := 0, slots := 0, locals := 0 } : Room) s m #[(.ref d0), (.int u0)] below meth c s₁ [] 0 0 := Stand.of_body Bd
  have e0 : s₁.heap = h0 := by rw [← hh, Bd.state]; rfl
  have N0 := Fr.nil n0
  have K0 : Keep h0 h0 [d0, arr] := Keep.refl h0 _
  show Wp p e below (Out s (Q7_0 Z d0 u0 arr sz cap g0 h0 n0) ({ frames := 0, cells := 0, slots := 0, locals := 0 } : Room).cells ({ frames := 0, cells := 0, slots := 0, locals := 0 } : Room).slots) (s₁.setTop (entryFrame m #[(.ref d0), (.int u0)] 2))
  rw [ef_7_00]
  show Wp p e below _ (s₁.setTop (mkF m 0 #[.val (.ref d0), .val (.int u0)] []))
  refine Wp.step (fun t k => XS.aloadN X0.here hx rfl (hb hby d7_0) rfl rfl k) ?_
  show Wp p e below _ (s₁.setTop (mkF m 1 #[.val (.ref d0), .val (.int u0)] [(.ref d0)]))
  obtain ⟨T1, X1, e1, st1⟩ := getF X0 hx hZ hown (host := "") (Or.inl (hw _ (List.mem_of_getElem? (i := 17) rfl))) Via.refl e0 F_s (g := (mkF m 1 #[.val (.ref d0), .val (.int u0)] [(.ref d0)])) rfl rfl (hb hby d7_1)
  refine Wp.step st1 ?_
  show Wp p e below _ (T1.setTop (mkF m 4 #[.val (.ref d0), .val (.int u0)] [(.int sz)]))
  refine Wp.step (fun t k => XS.iloadN X1.here hx rfl (hb hby d7_4) rfl k) ?_
  show Wp p e below _ (T1.setTop (mkF m 5 #[.val (.ref d0), .val (.int u0)] [(.int u0), (.int sz)]))
  refine Wp.step (fun t k => XS.iadd X1.here hx rfl (hb hby d7_5) rfl k) ?_
  show Wp p e below _ (T1.setTop (mkF m 6 #[.val (.ref d0), .val (.int u0)] [(.int (sz + u0))]))
  refine Wp.step (fun t k => XS.aloadN X1.here hx rfl (hb hby d7_6) rfl rfl k) ?_
  show Wp p e below _ (T1.setTop (mkF m 7 #[.val (.ref d0), .val (.int u0)] [(.ref d0), (.int (sz + u0))]))
  obtain ⟨T2, X2, e2, st2⟩ := getF X1 hx hZ hown (host := "") (Or.inl (hw _ (List.mem_of_getElem? (i := 10) rfl))) Via.refl e1 F_b (g := (mkF m 7 #[.val (.ref d0), .val (.int u0)] [(.ref d0), (.int (sz + u0))])) rfl rfl (hb hby d7_7)
  refine Wp.step st2 ?_
  show Wp p e below _ (T2.setTop (mkF m 10 #[.val (.ref d0), .val (.int u0)] [(.ref arr), (.int (sz + u0))]))
  obtain ⟨cl3, Ar3, Sz3, Nn3, -⟩ := id B_arr
  refine Wp.step (X2.arraylength hx (by rw [e2]; exact Ar3.1) (State.isArrayOf_alike hZ.alike Ar3.2.1) (g := (mkF m 10 #[.val (.ref d0), .val (.int u0)] [(.ref arr), (.int (sz + u0))])) rfl rfl (hb hby d7_10)) ?_
  rw [len_of Sz3 Nn3]
  show Wp p e below _ (T2.setTop (mkF m 11 #[.val (.ref d0), .val (.int u0)] [(.int cap), (.int (sz + u0))]))
  refine Wp.step (fun t k => XS.icmpYes X2.here hx rfl (pc0 := 11) (pc' := 41) rfl (hb hby d7_11) rfl (flt (show ¬ (cap < (sz + u0)) from hle)).2.2.2 (by decide) (by decide) k) ?_
  show Wp p e below _ (T2.setTop (mkF m 41 #[.val (.ref d0), .val (.int u0)] []))
  refine Wp.retV X2 hx Bd.returns (hb hby d7_41) hlk ?_ (by decide) (by decide)
  show Q7_0 Z d0 u0 arr sz cap g0 h0 n0 none T2.heap _
  rw [e2]
  exact ⟨rfl, N0, rfl⟩
theorem pd_28I29V : parseMethodDescriptor "(I)V" = some ⟨[.int], none⟩ := by decide +kernel
theorem d6_0 : decode prog_89_method_4_code 0 = .ok (.aload_n 0, 1) := by decide +kernel
theorem d6_1 : decode prog_89_method_4_code 1 = .ok (.iconst 4, 1) := by decide +kernel
theorem d6_2 : decode prog_89_method_4_code 2 = .ok (.invokevirtual 13, 3) := by decide +kernel
theorem d6_5 : decode prog_89_method_4_code 5 = .ok (.aload_n 0, 1) := by decide +kernel
theorem d6_6 : decode prog_89_method_4_code 6 = .ok (.getfield 7, 3) := by decide +kernel
theorem d6_9 : decode prog_89_method_4_code 9 = .ok (.aload_n 0, 1) := by decide +kernel
theorem d6_10 : decode prog_89_method_4_code 10 = .ok (.dup, 1) := by decide +kernel
theorem d6_11 : decode prog_89_method_4_code 11 = .ok (.getfield 17, 3) := by decide +kernel
theorem d6_14 : decode prog_89_method_4_code 14 = .ok (.dup_x1, 1) := by decide +kernel
theorem d6_15 : decode prog_89_method_4_code 15 = .ok (.iconst 1, 1) := by decide +kernel
theorem d6_16 : decode prog_89_method_4_code 16 = .ok (.iadd, 1) := by decide +kernel
theorem d6_17 : decode prog_89_method_4_code 17 = .ok (.putfield 17, 3) := by decide +kernel
theorem d6_20 : decode prog_89_method_4_code 20 = .ok (.iload_n 1, 1) := by decide +kernel
theorem d6_21 : decode prog_89_method_4_code 21 = .ok (.bipush 24, 2) := by decide +kernel
theorem d6_23 : decode prog_89_method_4_code 23 = .ok (.ishr, 1) := by decide +kernel
theorem d6_24 : decode prog_89_method_4_code 24 = .ok (.i2b, 1) := by decide +kernel
theorem d6_25 : decode prog_89_method_4_code 25 = .ok (.bastore, 1) := by decide +kernel
theorem d6_26 : decode prog_89_method_4_code 26 = .ok (.aload_n 0, 1) := by decide +kernel
theorem d6_27 : decode prog_89_method_4_code 27 = .ok (.getfield 7, 3) := by decide +kernel
theorem d6_30 : decode prog_89_method_4_code 30 = .ok (.aload_n 0, 1) := by decide +kernel
theorem d6_31 : decode prog_89_method_4_code 31 = .ok (.dup, 1) := by decide +kernel
theorem d6_32 : decode prog_89_method_4_code 32 = .ok (.getfield 17, 3) := by decide +kernel
theorem d6_35 : decode prog_89_method_4_code 35 = .ok (.dup_x1, 1) := by decide +kernel
theorem d6_36 : decode prog_89_method_4_code 36 = .ok (.iconst 1, 1) := by decide +kernel
theorem d6_37 : decode prog_89_method_4_code 37 = .ok (.iadd, 1) := by decide +kernel
theorem d6_38 : decode prog_89_method_4_code 38 = .ok (.putfield 17, 3) := by decide +kernel
theorem d6_41 : decode prog_89_method_4_code 41 = .ok (.iload_n 1, 1) := by decide +kernel
theorem d6_42 : decode prog_89_method_4_code 42 = .ok (.bipush 16, 2) := by decide +kernel
theorem d6_44 : decode prog_89_method_4_code 44 = .ok (.ishr, 1) := by decide +kernel
theorem d6_45 : decode prog_89_method_4_code 45 = .ok (.i2b, 1) := by decide +kernel
theorem d6_46 : decode prog_89_method_4_code 46 = .ok (.bastore, 1) := by decide +kernel
theorem d6_47 : decode prog_89_method_4_code 47 = .ok (.aload_n 0, 1) := by decide +kernel
theorem d6_48 : decode prog_89_method_4_code 48 = .ok (.getfield 7, 3) := by decide +kernel
theorem d6_51 : decode prog_89_method_4_code 51 = .ok (.aload_n 0, 1) := by decide +kernel
theorem d6_52 : decode prog_89_method_4_code 52 = .ok (.dup, 1) := by decide +kernel
theorem d6_53 : decode prog_89_method_4_code 53 = .ok (.getfield 17, 3) := by decide +kernel
theorem d6_56 : decode prog_89_method_4_code 56 = .ok (.dup_x1, 1) := by decide +kernel
theorem d6_57 : decode prog_89_method_4_code 57 = .ok (.iconst 1, 1) := by decide +kernel
theorem d6_58 : decode prog_89_method_4_code 58 = .ok (.iadd, 1) := by decide +kernel
theorem d6_59 : decode prog_89_method_4_code 59 = .ok (.putfield 17, 3) := by decide +kernel
theorem d6_62 : decode prog_89_method_4_code 62 = .ok (.iload_n 1, 1) := by decide +kernel
theorem d6_63 : decode prog_89_method_4_code 63 = .ok (.bipush 8, 2) := by decide +kernel
theorem d6_65 : decode prog_89_method_4_code 65 = .ok (.ishr, 1) := by decide +kernel
theorem d6_66 : decode prog_89_method_4_code 66 = .ok (.i2b, 1) := by decide +kernel
theorem d6_67 : decode prog_89_method_4_code 67 = .ok (.bastore, 1) := by decide +kernel
theorem d6_68 : decode prog_89_method_4_code 68 = .ok (.aload_n 0, 1) := by decide +kernel
theorem d6_69 : decode prog_89_method_4_code 69 = .ok (.getfield 7, 3) := by decide +kernel
theorem d6_72 : decode prog_89_method_4_code 72 = .ok (.aload_n 0, 1) := by decide +kernel
theorem d6_73 : decode prog_89_method_4_code 73 = .ok (.dup, 1) := by decide +kernel
theorem d6_74 : decode prog_89_method_4_code 74 = .ok (.getfield 17, 3) := by decide +kernel
theorem d6_77 : decode prog_89_method_4_code 77 = .ok (.dup_x1, 1) := by decide +kernel
theorem d6_78 : decode prog_89_method_4_code 78 = .ok (.iconst 1, 1) := by decide +kernel
theorem d6_79 : decode prog_89_method_4_code 79 = .ok (.iadd, 1) := by decide +kernel
theorem d6_80 : decode prog_89_method_4_code 80 = .ok (.putfield 17, 3) := by decide +kernel
theorem d6_83 : decode prog_89_method_4_code 83 = .ok (.iload_n 1, 1) := by decide +kernel
theorem d6_84 : decode prog_89_method_4_code 84 = .ok (.i2b, 1) := by decide +kernel
theorem d6_85 : decode prog_89_method_4_code 85 = .ok (.bastore, 1) := by decide +kernel
theorem d6_86 : decode prog_89_method_4_code 86 = .ok (.aload_n 0, 1) := by decide +kernel
theorem d6_87 : decode prog_89_method_4_code 87 = .ok (.areturn, 1) := by decide +kernel
theorem ef_6_00 (m : MethodId) (x0 : Addr) (x1 : Int32) : entryFrame m #[(.ref x0), (.int x1)] 2 = mkF m 0 #[.val (.ref x0), .val (.int x1)] [] := by first | (simp [entryFrame, mkF, argsToLocals, Value.category]; done) | rfl
def Q6 (Z : State) (d0 : Addr) (u0 : Int32) (arr : Addr) (sz : Int32) (cap : Int32) (g0 : Nat → Int32) (sz2 : Int32) (h0 : Heap) (n0 : Nat) (v : Option Value) (h : Heap) (L : List Loc) : Prop := v = some (.ref d0) ∧ Fr n0 L ∧ Keep h0 h [d0, arr] ∧ Exa Z h d0 "com/example/ulinzi/ulinzi/protocol/ProtocolWriter" ∧ Fld Z h d0 "com/example/ulinzi/ulinzi/protocol/ProtocolWriter" "bytes" "[B" (.ref arr) ∧ Fld Z h d0 "com/example/ulinzi/ulinzi/protocol/ProtocolWriter" "size" "I" (.int sz2) ∧ own_IA .byte Z h arr cap (own_w4 g0 sz u0)
set_option maxRecDepth 65536 in
set_option maxHeartbeats 40000000 in
theorem rm6 (l : Launch) (Z : State) (a0 : Array Value) (hw : ∀ d ∈ tables_1, d.before a0 Z = true) (ws : List Jvm.Cond) (d0 : Addr) (u0 : Int32) (arr : Addr) (sz : Int32) (cap : Int32) (g0 : Nat → Int32) (sz2 : Int32) (h0 : Heap) (n0 : Nat) (Z0 : n0 ≤ h0.size) (g_d0 : n0 ≤ d0) (g_arr : n0 ≤ arr) (E_d0 : Exa Z h0 d0 "com/example/ulinzi/ulinzi/protocol/ProtocolWriter") (F_b : Fld Z h0 d0 "com/example/ulinzi/ulinzi/protocol/ProtocolWriter" "bytes" "[B" (.ref arr)) (F_s : Fld Z h0 d0 "com/example/ulinzi/ulinzi/protocol/ProtocolWriter" "size" "I" (.int sz)) (B_arr : own_IA .byte Z h0 arr cap g0) (ne_arr : arr ≠ d0) (hle : ¬ cap < (sz + (4 : Int32))) (i0 : ¬ sz < 0 ∧ sz < cap) (i1 : ¬ (sz + (1 : Int32)) < 0 ∧ (sz + (1 : Int32)) < cap) (i2 : ¬ ((sz + (1 : Int32)) + (1 : Int32)) < 0 ∧ ((sz + (1 : Int32)) + (1 : Int32)) < cap) (i3 : ¬ (((sz + (1 : Int32)) + (1 : Int32)) + (1 : Int32)) < 0 ∧ (((sz + (1 : Int32)) + (1 : Int32)) + (1 : Int32)) < cap) (hs2 : ((((sz + (1 : Int32)) + (1 : Int32)) + (1 : Int32)) + (1 : Int32)) = sz2) :
    MetFree l (⟨"com/example/ulinzi/ulinzi/protocol/ProtocolWriter", "writeInt32", "(I)Lcom/example/ulinzi/ulinzi/protocol/ProtocolWriter;"⟩ : MethodName) (head1 (Jvm.Cond.code (⟨"com/example/ulinzi/ulinzi/protocol/ProtocolWriter", "writeInt32", "(I)Lcom/example/ulinzi/ulinzi/protocol/ProtocolWriter;"⟩ : MethodName) prog_89_method_4_code 2 (some (.object "com/example/ulinzi/ulinzi/protocol/ProtocolWriter")) :: ws) ({ frames := 1, cells := 0, slots := 0, locals := 13 } : Room)) (fun a U => a = #[(.ref d0), (.int u0)] ∧ Z.Warmed39 U.vm ∧ U.heap = h0) (fun _ _ _ _ _ => True) (fun _ U o U' => ∃ v L, o = .returned v ∧ Q6 Z d0 u0 arr sz cap g0 sz2 h0 n0 v U'.heap L ∧ FrameEnd U o U' L ({ frames := 1, cells := 0, slots := 0, locals := 13 } : Room).cells ({ frames := 1, cells := 0, slots := 0, locals := 13 } : Room).slots) := by
  refine MetFree.of_bodySF (plainFor_of_name pn_com_example_ulinzi_ulinzi_protocol_ProtocolWriter) hisR ?_
  intro p e s m args below meth c s₁ Bd hml0 hP hK
  obtain ⟨rfl, hZ, hh⟩ := hP
  have hx := Bd.exec
  have hby := Bd.bytes
  have hlk : meth.locks = false := Bd.notSynchronized
  have hml : c.maxLocals = 2 := hml0
  have hown : s.vm.findClass "com/example/ulinzi/ulinzi/protocol/ProtocolWriter" = some m.cls := findClass_of_methodNamed Bd.named
  have hnm := (name_of_methodNamed Bd.named Bd.method).1
  have X0 : Stand p l e ({ frames := 1, cells := 0, slots := 0, locals := 13 } : Room) s m #[(.ref d0), (.int u0)] below meth c s₁ [] 0 0 := Stand.of_body Bd
  have e0 : s₁.heap = h0 := by rw [← hh, Bd.state]; rfl
  have N0 := Fr.nil n0
  have K0 : Keep h0 h0 [d0, arr] := Keep.refl h0 _
  show Wp p e below (Out s (Q6 Z d0 u0 arr sz cap g0 sz2 h0 n0) ({ frames := 1, cells := 0, slots := 0, locals := 13 } : Room).cells ({ frames := 1, cells := 0, slots := 0, locals := 13 } : Room).slots) (s₁.setTop (entryFrame m #[(.ref d0), (.int u0)] 2))
  rw [ef_6_00]
  show Wp p e below _ (s₁.setTop (mkF m 0 #[.val (.ref d0), .val (.int u0)] []))
  refine Wp.step (fun t k => XS.aloadN X0.here hx rfl (hb hby d6_0) rfl rfl k) ?_
  show Wp p e below _ (s₁.setTop (mkF m 1 #[.val (.ref d0), .val (.int u0)] [(.ref d0)]))
  refine Wp.step (fun t k => XS.iconst X0.here hx rfl (hb hby d6_1) k) ?_
  show Wp p e below _ (s₁.setTop (mkF m 2 #[.val (.ref d0), .val (.int u0)] [(.int (4 : Int32)), (.ref d0)]))
  obtain ⟨cq1, q1, q1'⟩ := E_d0.cell
  obtain ⟨_, _, ⟨T1, L1, k1, n1⟩, -, X1, ⟨Lc1, hQ1, l1, y1, z1⟩, st1⟩ := X0.privateBack hx (y := (⟨"com/example/ulinzi/ulinzi/protocol/ProtocolWriter", "ensure", "(I)V"⟩ : MethodName)) hown (mvT hZ (hw _ (List.mem_of_getElem? (i := 36) rfl))) (mvT hZ (hw _ (List.mem_of_getElem? (i := 37) rfl))) (own_selP hZ (hw _ (List.mem_of_getElem? (i := 2) rfl)) (hw _ (List.mem_of_getElem? (i := 38) rfl)) (hw _ (List.mem_of_getElem? (i := 37) rfl)) (by decide)) (Cond.privateMethod_at (mvP hZ (hw _ (List.mem_of_getElem? (i := 38) rfl)) (args := #[]))) (mvT hZ (hw _ (List.mem_of_getElem? (i := 39) rfl))) (by decide) (backOf (W := 0) (rm7_0 l Z a0 hw [] d0 (4 : Int32) arr sz cap g0 h0 n0 (Nat.le_trans Z0 K0.1) g_d0 g_arr E_d0 F_b F_s B_arr ne_arr hle) hZ (hw _ (List.mem_of_getElem? (i := 39) rfl)) (hw _ (List.mem_of_getElem? (i := 3) rfl)) (by decide) (by decide)) (g := (mkF m 2 #[.val (.ref d0), .val (.int u0)] [(.int (4 : Int32)), (.ref d0)])) rfl (by rw [hml]; rfl) (Steps.refl _) (a := d0) (by rw [e0]; exact q1) q1' (argsL := [(.int (4 : Int32))]) (rest := []) (lenOf pd_28I29V rfl) rfl (by show 2 * 0 + _ ≤ _; exact Nat.le_of_eq rfl) (hb hby d6_2) (fun _ _ => ⟨rfl, e0, (by decide : 0 + 0 ≤ _), (by decide : 0 + 0 ≤ _)⟩)
  dsimp only [Pt.U, Pt.locs, Pt.cells, Pt.slots] at X1 l1 y1 z1 st1 hQ1
  subst l1 y1 z1
  obtain ⟨rfl, N1q, e1⟩ := hQ1
  have N1 := Fr.app N0 N1q
  refine Wp.go st1 ?_
  show Wp p e below _ (T1.setTop (mkF m 5 #[.val (.ref d0), .val (.int u0)] []))
  refine Wp.step (fun t k => XS.aloadN X1.here hx rfl (hb hby d6_5) rfl rfl k) ?_
  show Wp p e below _ (T1.setTop (mkF m 6 #[.val (.ref d0), .val (.int u0)] [(.ref d0)]))
  obtain ⟨T2, X2, e2, st2⟩ := getF X1 hx hZ hown (host := "") (Or.inl (hw _ (List.mem_of_getElem? (i := 10) rfl))) Via.refl e1 F_b (g := (mkF m 6 #[.val (.ref d0), .val (.int u0)] [(.ref d0)])) rfl rfl (hb hby d6_6)
  refine Wp.step st2 ?_
  show Wp p e below _ (T2.setTop (mkF m 9 #[.val (.ref d0), .val (.int u0)] [(.ref arr)]))
  refine Wp.step (fun t k => XS.aloadN X2.here hx rfl (hb hby d6_9) rfl rfl k) ?_
  show Wp p e below _ (T2.setTop (mkF m 10 #[.val (.ref d0), .val (.int u0)] [(.ref d0), (.ref arr)]))
  refine Wp.step (fun t k => XS.dup X2.here hx rfl (hb hby d6_10) rfl rfl k) ?_
  show Wp p e below _ (T2.setTop (mkF m 11 #[.val (.ref d0), .val (.int u0)] [(.ref d0), (.ref d0), (.ref arr)]))
  obtain ⟨T3, X3, e3, st3⟩ := getF X2 hx hZ hown (host := "") (Or.inl (hw _ (List.mem_of_getElem? (i := 17) rfl))) Via.refl e2 F_s (g := (mkF m 11 #[.val (.ref d0), .val (.int u0)] [(.ref d0), (.ref d0), (.ref arr)])) rfl rfl (hb hby d6_11)
  refine Wp.step st3 ?_
  show Wp p e below _ (T3.setTop (mkF m 14 #[.val (.ref d0), .val (.int u0)] [(.int sz), (.ref d0), (.ref arr)]))
  refine Wp.step (fun t k => XS.dupX1 X3.here hx rfl (hb hby d6_14) rfl rfl rfl k) ?_
  show Wp p e below _ (T3.setTop (mkF m 15 #[.val (.ref d0), .val (.int u0)] [(.int sz), (.ref d0), (.int sz), (.ref arr)]))
  refine Wp.step (fun t k => XS.iconst X3.here hx rfl (hb hby d6_15) k) ?_
  show Wp p e below _ (T3.setTop (mkF m 16 #[.val (.ref d0), .val (.int u0)] [(.int (1 : Int32)), (.int sz), (.ref d0), (.int sz), (.ref arr)]))
  refine Wp.step (fun t k => XS.iadd X3.here hx rfl (hb hby d6_16) rfl k) ?_
  show Wp p e below _ (T3.setTop (mkF m 17 #[.val (.ref d0), .val (.int u0)] [(.int (sz + (1 : Int32))), (.ref d0), (.int sz), (.ref arr)]))
  obtain ⟨T4, h4, X4, e4, W4, st4⟩ := putF X3 hx hZ hown (host := "") (Or.inl (hw _ (List.mem_of_getElem? (i := 17) rfl))) Via.refl e3 F_s E_d0 (Or.inl (hw _ (List.mem_of_getElem? (i := 18) rfl))) (hw _ (List.mem_of_getElem? (i := 2) rfl)) (ty := .int) (by decide) rfl rfl (g := (mkF m 17 #[.val (.ref d0), .val (.int u0)] [(.int (sz + (1 : Int32))), (.ref d0), (.int sz), (.ref arr)])) rfl rfl (hb hby d6_17)
  have c5 := E_d0.wr W4
  have c6 := F_b.other W4 (Or.inr (slot_ne (Or.inl (hw _ (List.mem_of_getElem? (i := 11) rfl))) (Or.inl (hw _ (List.mem_of_getElem? (i := 18) rfl))) (by decide) (t := (.array .byte)) (t' := .int) (by decide) (by decide)))
  have B7 := B_arr.other W4 ne_arr
  have c8 := F_s.same W4
  have K9 := K0.wr W4 (Or.inl (List.mem_of_getElem? (i := 0) rfl))
  have N4 := Fr.snoc X4 N1 g_d0
  refine Wp.step st4 ?_
  show Wp p e below _ (T4.setTop (mkF m 20 #[.val (.ref d0), .val (.int u0)] [(.int sz), (.ref arr)]))
  refine Wp.step (fun t k => XS.iloadN X4.here hx rfl (hb hby d6_20) rfl k) ?_
  show Wp p e below _ (T4.setTop (mkF m 21 #[.val (.ref d0), .val (.int u0)] [(.int u0), (.int sz), (.ref arr)]))
  refine Wp.step (fun t k => XS.bipush X4.here hx rfl (hb hby d6_21) k) ?_
  show Wp p e below _ (T4.setTop (mkF m 23 #[.val (.ref d0), .val (.int u0)] [(.int (24 : Int32)), (.int u0), (.int sz), (.ref arr)]))
  refine Wp.step (fun t k => XS.ishr X4.here hx rfl (hb hby d6_23) rfl k) ?_
  show Wp p e below _ (T4.setTop (mkF m 24 #[.val (.ref d0), .val (.int u0)] [(.int (u0 >>> ((24 : Int32) &&& 31))), (.int sz), (.ref arr)]))
  refine Wp.step (fun t k => XS.i2b X4.here hx rfl (hb hby d6_24) rfl k) ?_
  show Wp p e below _ (T4.setTop (mkF m 25 #[.val (.ref d0), .val (.int u0)] [(.int ((u0 >>> ((24 : Int32) &&& 31)).toInt8.toInt32)), (.int sz), (.ref arr)]))
  obtain ⟨cl10, Ar10, Sz10, Nn10, El10⟩ := id B7
  have hin10 : ¬ (sz < 0 ∨ cl10.slots.size ≤ (sz).toNatClampNeg) := inb_of Sz10 i0
  obtain ⟨T10, h10, X10, e10, W10, st10⟩ := stB X4 hx hZ e4 Ar10 (j := sz) hin10 (g := (mkF m 25 #[.val (.ref d0), .val (.int u0)] [(.int ((u0 >>> ((24 : Int32) &&& 31)).toInt8.toInt32)), (.int sz), (.ref arr)])) rfl rfl (hb hby d6_25)
  have c11 := c5.wr W10
  have c12 := c6.other W10 (Or.inl (Ne.symm ne_arr))
  have c13 := c8.other W10 (Or.inl (Ne.symm ne_arr))
  have K14 := K9.wr W10 (Or.inl (List.mem_of_getElem? (i := 1) rfl))
  have N10 := Fr.snoc X10 N4 g_arr
  have B10 := own_IA.set Ar10 Sz10 Nn10 El10 W10 (fits_nar_byte _)
  rw [own_narb] at B10
  refine Wp.step st10 ?_
  show Wp p e below _ (T10.setTop (mkF m 26 #[.val (.ref d0), .val (.int u0)] []))
  refine Wp.step (fun t k => XS.aloadN X10.here hx rfl (hb hby d6_26) rfl rfl k) ?_
  show Wp p e below _ (T10.setTop (mkF m 27 #[.val (.ref d0), .val (.int u0)] [(.ref d0)]))
  obtain ⟨T15, X15, e15, st15⟩ := getF X10 hx hZ hown (host := "") (Or.inl (hw _ (List.mem_of_getElem? (i := 10) rfl))) Via.refl e10 c12 (g := (mkF m 27 #[.val (.ref d0), .val (.int u0)] [(.ref d0)])) rfl rfl (hb hby d6_27)
  refine Wp.step st15 ?_
  show Wp p e below _ (T15.setTop (mkF m 30 #[.val (.ref d0), .val (.int u0)] [(.ref arr)]))
  refine Wp.step (fun t k => XS.aloadN X15.here hx rfl (hb hby d6_30) rfl rfl k) ?_
  show Wp p e below _ (T15.setTop (mkF m 31 #[.val (.ref d0), .val (.int u0)] [(.ref d0), (.ref arr)]))
  refine Wp.step (fun t k => XS.dup X15.here hx rfl (hb hby d6_31) rfl rfl k) ?_
  show Wp p e below _ (T15.setTop (mkF m 32 #[.val (.ref d0), .val (.int u0)] [(.ref d0), (.ref d0), (.ref arr)]))
  obtain ⟨T16, X16, e16, st16⟩ := getF X15 hx hZ hown (host := "") (Or.inl (hw _ (List.mem_of_getElem? (i := 17) rfl))) Via.refl e15 c13 (g := (mkF m 32 #[.val (.ref d0), .val (.int u0)] [(.ref d0), (.ref d0), (.ref arr)])) rfl rfl (hb hby d6_32)
  refine Wp.step st16 ?_
  show Wp p e below _ (T16.setTop (mkF m 35 #[.val (.ref d0), .val (.int u0)] [(.int (sz + (1 : Int32))), (.ref d0), (.ref arr)]))
  refine Wp.step (fun t k => XS.dupX1 X16.here hx rfl (hb hby d6_35) rfl rfl rfl k) ?_
  show Wp p e below _ (T16.setTop (mkF m 36 #[.val (.ref d0), .val (.int u0)] [(.int (sz + (1 : Int32))), (.ref d0), (.int (sz + (1 : Int32))), (.ref arr)]))
  refine Wp.step (fun t k => XS.iconst X16.here hx rfl (hb hby d6_36) k) ?_
  show Wp p e below _ (T16.setTop (mkF m 37 #[.val (.ref d0), .val (.int u0)] [(.int (1 : Int32)), (.int (sz + (1 : Int32))), (.ref d0), (.int (sz + (1 : Int32))), (.ref arr)]))
  refine Wp.step (fun t k => XS.iadd X16.here hx rfl (hb hby d6_37) rfl k) ?_
  show Wp p e below _ (T16.setTop (mkF m 38 #[.val (.ref d0), .val (.int u0)] [(.int ((sz + (1 : Int32)) + (1 : Int32))), (.ref d0), (.int (sz + (1 : Int32))), (.ref arr)]))
  obtain ⟨T17, h17, X17, e17, W17, st17⟩ := putF X16 hx hZ hown (host := "") (Or.inl (hw _ (List.mem_of_getElem? (i := 17) rfl))) Via.refl e16 c13 c11 (Or.inl (hw _ (List.mem_of_getElem? (i := 18) rfl))) (hw _ (List.mem_of_getElem? (i := 2) rfl)) (ty := .int) (by decide) rfl rfl (g := (mkF m 38 #[.val (.ref d0), .val (.int u0)] [(.int ((sz + (1 : Int32)) + (1 : Int32))), (.ref d0), (.int (sz + (1 : Int32))), (.ref arr)])) rfl rfl (hb hby d6_38)
  have c18 := c11.wr W17
  have c19 := c12.other W17 (Or.inr (slot_ne (Or.inl (hw _ (List.mem_of_getElem? (i := 11) rfl))) (Or.inl (hw _ (List.mem_of_getElem? (i := 18) rfl))) (by decide) (t := (.array .byte)) (t' := .int) (by decide) (by decide)))
  have B20 := B10.other W17 ne_arr
  have c21 := c13.same W17
  have K22 := K14.wr W17 (Or.inl (List.mem_of_getElem? (i := 0) rfl))
  have N17 := Fr.snoc X17 N10 g_d0
  refine Wp.step st17 ?_
  show Wp p e below _ (T17.setTop (mkF m 41 #[.val (.ref d0), .val (.int u0)] [(.int (sz + (1 : Int32))), (.ref arr)]))
  refine Wp.step (fun t k => XS.iloadN X17.here hx rfl (hb hby d6_41) rfl k) ?_
  show Wp p e below _ (T17.setTop (mkF m 42 #[.val (.ref d0), .val (.int u0)] [(.int u0), (.int (sz + (1 : Int32))), (.ref arr)]))
  refine Wp.step (fun t k => XS.bipush X17.here hx rfl (hb hby d6_42) k) ?_
  show Wp p e below _ (T17.setTop (mkF m 44 #[.val (.ref d0), .val (.int u0)] [(.int (16 : Int32)), (.int u0), (.int (sz + (1 : Int32))), (.ref arr)]))
  refine Wp.step (fun t k => XS.ishr X17.here hx rfl (hb hby d6_44) rfl k) ?_
  show Wp p e below _ (T17.setTop (mkF m 45 #[.val (.ref d0), .val (.int u0)] [(.int (u0 >>> ((16 : Int32) &&& 31))), (.int (sz + (1 : Int32))), (.ref arr)]))
  refine Wp.step (fun t k => XS.i2b X17.here hx rfl (hb hby d6_45) rfl k) ?_
  show Wp p e below _ (T17.setTop (mkF m 46 #[.val (.ref d0), .val (.int u0)] [(.int ((u0 >>> ((16 : Int32) &&& 31)).toInt8.toInt32)), (.int (sz + (1 : Int32))), (.ref arr)]))
  obtain ⟨cl23, Ar23, Sz23, Nn23, El23⟩ := id B20
  have hin23 : ¬ ((sz + (1 : Int32)) < 0 ∨ cl23.slots.size ≤ ((sz + (1 : Int32))).toNatClampNeg) := inb_of Sz23 i1
  obtain ⟨T23, h23, X23, e23, W23, st23⟩ := stB X17 hx hZ e17 Ar23 (j := (sz + (1 : Int32))) hin23 (g := (mkF m 46 #[.val (.ref d0), .val (.int u0)] [(.int ((u0 >>> ((16 : Int32) &&& 31)).toInt8.toInt32)), (.int (sz + (1 : Int32))), (.ref arr)])) rfl rfl (hb hby d6_46)
  have c24 := c18.wr W23
  have c25 := c19.other W23 (Or.inl (Ne.symm ne_arr))
  have c26 := c21.other W23 (Or.inl (Ne.symm ne_arr))
  have K27 := K22.wr W23 (Or.inl (List.mem_of_getElem? (i := 1) rfl))
  have N23 := Fr.snoc X23 N17 g_arr
  have B23 := own_IA.set Ar23 Sz23 Nn23 El23 W23 (fits_nar_byte _)
  rw [own_narb] at B23
  refine Wp.step st23 ?_
  show Wp p e below _ (T23.setTop (mkF m 47 #[.val (.ref d0), .val (.int u0)] []))
  refine Wp.step (fun t k => XS.aloadN X23.here hx rfl (hb hby d6_47) rfl rfl k) ?_
  show Wp p e below _ (T23.setTop (mkF m 48 #[.val (.ref d0), .val (.int u0)] [(.ref d0)]))
  obtain ⟨T28, X28, e28, st28⟩ := getF X23 hx hZ hown (host := "") (Or.inl (hw _ (List.mem_of_getElem? (i := 10) rfl))) Via.refl e23 c25 (g := (mkF m 48 #[.val (.ref d0), .val (.int u0)] [(.ref d0)])) rfl rfl (hb hby d6_48)
  refine Wp.step st28 ?_
  show Wp p e below _ (T28.setTop (mkF m 51 #[.val (.ref d0), .val (.int u0)] [(.ref arr)]))
  refine Wp.step (fun t k => XS.aloadN X28.here hx rfl (hb hby d6_51) rfl rfl k) ?_
  show Wp p e below _ (T28.setTop (mkF m 52 #[.val (.ref d0), .val (.int u0)] [(.ref d0), (.ref arr)]))
  refine Wp.step (fun t k => XS.dup X28.here hx rfl (hb hby d6_52) rfl rfl k) ?_
  show Wp p e below _ (T28.setTop (mkF m 53 #[.val (.ref d0), .val (.int u0)] [(.ref d0), (.ref d0), (.ref arr)]))
  obtain ⟨T29, X29, e29, st29⟩ := getF X28 hx hZ hown (host := "") (Or.inl (hw _ (List.mem_of_getElem? (i := 17) rfl))) Via.refl e28 c26 (g := (mkF m 53 #[.val (.ref d0), .val (.int u0)] [(.ref d0), (.ref d0), (.ref arr)])) rfl rfl (hb hby d6_53)
  refine Wp.step st29 ?_
  show Wp p e below _ (T29.setTop (mkF m 56 #[.val (.ref d0), .val (.int u0)] [(.int ((sz + (1 : Int32)) + (1 : Int32))), (.ref d0), (.ref arr)]))
  refine Wp.step (fun t k => XS.dupX1 X29.here hx rfl (hb hby d6_56) rfl rfl rfl k) ?_
  show Wp p e below _ (T29.setTop (mkF m 57 #[.val (.ref d0), .val (.int u0)] [(.int ((sz + (1 : Int32)) + (1 : Int32))), (.ref d0), (.int ((sz + (1 : Int32)) + (1 : Int32))), (.ref arr)]))
  refine Wp.step (fun t k => XS.iconst X29.here hx rfl (hb hby d6_57) k) ?_
  show Wp p e below _ (T29.setTop (mkF m 58 #[.val (.ref d0), .val (.int u0)] [(.int (1 : Int32)), (.int ((sz + (1 : Int32)) + (1 : Int32))), (.ref d0), (.int ((sz + (1 : Int32)) + (1 : Int32))), (.ref arr)]))
  refine Wp.step (fun t k => XS.iadd X29.here hx rfl (hb hby d6_58) rfl k) ?_
  show Wp p e below _ (T29.setTop (mkF m 59 #[.val (.ref d0), .val (.int u0)] [(.int (((sz + (1 : Int32)) + (1 : Int32)) + (1 : Int32))), (.ref d0), (.int ((sz + (1 : Int32)) + (1 : Int32))), (.ref arr)]))
  obtain ⟨T30, h30, X30, e30, W30, st30⟩ := putF X29 hx hZ hown (host := "") (Or.inl (hw _ (List.mem_of_getElem? (i := 17) rfl))) Via.refl e29 c26 c24 (Or.inl (hw _ (List.mem_of_getElem? (i := 18) rfl))) (hw _ (List.mem_of_getElem? (i := 2) rfl)) (ty := .int) (by decide) rfl rfl (g := (mkF m 59 #[.val (.ref d0), .val (.int u0)] [(.int (((sz + (1 : Int32)) + (1 : Int32)) + (1 : Int32))), (.ref d0), (.int ((sz + (1 : Int32)) + (1 : Int32))), (.ref arr)])) rfl rfl (hb hby d6_59)
  have c31 := c24.wr W30
  have c32 := c25.other W30 (Or.inr (slot_ne (Or.inl (hw _ (List.mem_of_getElem? (i := 11) rfl))) (Or.inl (hw _ (List.mem_of_getElem? (i := 18) rfl))) (by decide) (t := (.array .byte)) (t' := .int) (by decide) (by decide)))
  have B33 := B23.other W30 ne_arr
  have c34 := c26.same W30
  have K35 := K27.wr W30 (Or.inl (List.mem_of_getElem? (i := 0) rfl))
  have N30 := Fr.snoc X30 N23 g_d0
  refine Wp.step st30 ?_
  show Wp p e below _ (T30.setTop (mkF m 62 #[.val (.ref d0), .val (.int u0)] [(.int ((sz + (1 : Int32)) + (1 : Int32))), (.ref arr)]))
  refine Wp.step (fun t k => XS.iloadN X30.here hx rfl (hb hby d6_62) rfl k) ?_
  show Wp p e below _ (T30.setTop (mkF m 63 #[.val (.ref d0), .val (.int u0)] [(.int u0), (.int ((sz + (1 : Int32)) + (1 : Int32))), (.ref arr)]))
  refine Wp.step (fun t k => XS.bipush X30.here hx rfl (hb hby d6_63) k) ?_
  show Wp p e below _ (T30.setTop (mkF m 65 #[.val (.ref d0), .val (.int u0)] [(.int (8 : Int32)), (.int u0), (.int ((sz + (1 : Int32)) + (1 : Int32))), (.ref arr)]))
  refine Wp.step (fun t k => XS.ishr X30.here hx rfl (hb hby d6_65) rfl k) ?_
  show Wp p e below _ (T30.setTop (mkF m 66 #[.val (.ref d0), .val (.int u0)] [(.int (u0 >>> ((8 : Int32) &&& 31))), (.int ((sz + (1 : Int32)) + (1 : Int32))), (.ref arr)]))
  refine Wp.step (fun t k => XS.i2b X30.here hx rfl (hb hby d6_66) rfl k) ?_
  show Wp p e below _ (T30.setTop (mkF m 67 #[.val (.ref d0), .val (.int u0)] [(.int ((u0 >>> ((8 : Int32) &&& 31)).toInt8.toInt32)), (.int ((sz + (1 : Int32)) + (1 : Int32))), (.ref arr)]))
  obtain ⟨cl36, Ar36, Sz36, Nn36, El36⟩ := id B33
  have hin36 : ¬ (((sz + (1 : Int32)) + (1 : Int32)) < 0 ∨ cl36.slots.size ≤ (((sz + (1 : Int32)) + (1 : Int32))).toNatClampNeg) := inb_of Sz36 i2
  obtain ⟨T36, h36, X36, e36, W36, st36⟩ := stB X30 hx hZ e30 Ar36 (j := ((sz + (1 : Int32)) + (1 : Int32))) hin36 (g := (mkF m 67 #[.val (.ref d0), .val (.int u0)] [(.int ((u0 >>> ((8 : Int32) &&& 31)).toInt8.toInt32)), (.int ((sz + (1 : Int32)) + (1 : Int32))), (.ref arr)])) rfl rfl (hb hby d6_67)
  have c37 := c31.wr W36
  have c38 := c32.other W36 (Or.inl (Ne.symm ne_arr))
  have c39 := c34.other W36 (Or.inl (Ne.symm ne_arr))
  have K40 := K35.wr W36 (Or.inl (List.mem_of_getElem? (i := 1) rfl))
  have N36 := Fr.snoc X36 N30 g_arr
  have B36 := own_IA.set Ar36 Sz36 Nn36 El36 W36 (fits_nar_byte _)
  rw [own_narb] at B36
  refine Wp.step st36 ?_
  show Wp p e below _ (T36.setTop (mkF m 68 #[.val (.ref d0), .val (.int u0)] []))
  refine Wp.step (fun t k => XS.aloadN X36.here hx rfl (hb hby d6_68) rfl rfl k) ?_
  show Wp p e below _ (T36.setTop (mkF m 69 #[.val (.ref d0), .val (.int u0)] [(.ref d0)]))
  obtain ⟨T41, X41, e41, st41⟩ := getF X36 hx hZ hown (host := "") (Or.inl (hw _ (List.mem_of_getElem? (i := 10) rfl))) Via.refl e36 c38 (g := (mkF m 69 #[.val (.ref d0), .val (.int u0)] [(.ref d0)])) rfl rfl (hb hby d6_69)
  refine Wp.step st41 ?_
  show Wp p e below _ (T41.setTop (mkF m 72 #[.val (.ref d0), .val (.int u0)] [(.ref arr)]))
  refine Wp.step (fun t k => XS.aloadN X41.here hx rfl (hb hby d6_72) rfl rfl k) ?_
  show Wp p e below _ (T41.setTop (mkF m 73 #[.val (.ref d0), .val (.int u0)] [(.ref d0), (.ref arr)]))
  refine Wp.step (fun t k => XS.dup X41.here hx rfl (hb hby d6_73) rfl rfl k) ?_
  show Wp p e below _ (T41.setTop (mkF m 74 #[.val (.ref d0), .val (.int u0)] [(.ref d0), (.ref d0), (.ref arr)]))
  obtain ⟨T42, X42, e42, st42⟩ := getF X41 hx hZ hown (host := "") (Or.inl (hw _ (List.mem_of_getElem? (i := 17) rfl))) Via.refl e41 c39 (g := (mkF m 74 #[.val (.ref d0), .val (.int u0)] [(.ref d0), (.ref d0), (.ref arr)])) rfl rfl (hb hby d6_74)
  refine Wp.step st42 ?_
  show Wp p e below _ (T42.setTop (mkF m 77 #[.val (.ref d0), .val (.int u0)] [(.int (((sz + (1 : Int32)) + (1 : Int32)) + (1 : Int32))), (.ref d0), (.ref arr)]))
  refine Wp.step (fun t k => XS.dupX1 X42.here hx rfl (hb hby d6_77) rfl rfl rfl k) ?_
  show Wp p e below _ (T42.setTop (mkF m 78 #[.val (.ref d0), .val (.int u0)] [(.int (((sz + (1 : Int32)) + (1 : Int32)) + (1 : Int32))), (.ref d0), (.int (((sz + (1 : Int32)) + (1 : Int32)) + (1 : Int32))), (.ref arr)]))
  refine Wp.step (fun t k => XS.iconst X42.here hx rfl (hb hby d6_78) k) ?_
  show Wp p e below _ (T42.setTop (mkF m 79 #[.val (.ref d0), .val (.int u0)] [(.int (1 : Int32)), (.int (((sz + (1 : Int32)) + (1 : Int32)) + (1 : Int32))), (.ref d0), (.int (((sz + (1 : Int32)) + (1 : Int32)) + (1 : Int32))), (.ref arr)]))
  refine Wp.step (fun t k => XS.iadd X42.here hx rfl (hb hby d6_79) rfl k) ?_
  show Wp p e below _ (T42.setTop (mkF m 80 #[.val (.ref d0), .val (.int u0)] [(.int ((((sz + (1 : Int32)) + (1 : Int32)) + (1 : Int32)) + (1 : Int32))), (.ref d0), (.int (((sz + (1 : Int32)) + (1 : Int32)) + (1 : Int32))), (.ref arr)]))
  obtain ⟨T43, h43, X43, e43, W43, st43⟩ := putF X42 hx hZ hown (host := "") (Or.inl (hw _ (List.mem_of_getElem? (i := 17) rfl))) Via.refl e42 c39 c37 (Or.inl (hw _ (List.mem_of_getElem? (i := 18) rfl))) (hw _ (List.mem_of_getElem? (i := 2) rfl)) (ty := .int) (by decide) rfl rfl (g := (mkF m 80 #[.val (.ref d0), .val (.int u0)] [(.int ((((sz + (1 : Int32)) + (1 : Int32)) + (1 : Int32)) + (1 : Int32))), (.ref d0), (.int (((sz + (1 : Int32)) + (1 : Int32)) + (1 : Int32))), (.ref arr)])) rfl rfl (hb hby d6_80)
  have c44 := c37.wr W43
  have c45 := c38.other W43 (Or.inr (slot_ne (Or.inl (hw _ (List.mem_of_getElem? (i := 11) rfl))) (Or.inl (hw _ (List.mem_of_getElem? (i := 18) rfl))) (by decide) (t := (.array .byte)) (t' := .int) (by decide) (by decide)))
  have B46 := B36.other W43 ne_arr
  have c47 := c39.same W43
  have K48 := K40.wr W43 (Or.inl (List.mem_of_getElem? (i := 0) rfl))
  have N43 := Fr.snoc X43 N36 g_d0
  refine Wp.step st43 ?_
  show Wp p e below _ (T43.setTop (mkF m 83 #[.val (.ref d0), .val (.int u0)] [(.int (((sz + (1 : Int32)) + (1 : Int32)) + (1 : Int32))), (.ref arr)]))
  refine Wp.step (fun t k => XS.iloadN X43.here hx rfl (hb hby d6_83) rfl k) ?_
  show Wp p e below _ (T43.setTop (mkF m 84 #[.val (.ref d0), .val (.int u0)] [(.int u0), (.int (((sz + (1 : Int32)) + (1 : Int32)) + (1 : Int32))), (.ref arr)]))
  refine Wp.step (fun t k => XS.i2b X43.here hx rfl (hb hby d6_84) rfl k) ?_
  show Wp p e below _ (T43.setTop (mkF m 85 #[.val (.ref d0), .val (.int u0)] [(.int (u0.toInt8.toInt32)), (.int (((sz + (1 : Int32)) + (1 : Int32)) + (1 : Int32))), (.ref arr)]))
  obtain ⟨cl49, Ar49, Sz49, Nn49, El49⟩ := id B46
  have hin49 : ¬ ((((sz + (1 : Int32)) + (1 : Int32)) + (1 : Int32)) < 0 ∨ cl49.slots.size ≤ ((((sz + (1 : Int32)) + (1 : Int32)) + (1 : Int32))).toNatClampNeg) := inb_of Sz49 i3
  obtain ⟨T49, h49, X49, e49, W49, st49⟩ := stB X43 hx hZ e43 Ar49 (j := (((sz + (1 : Int32)) + (1 : Int32)) + (1 : Int32))) hin49 (g := (mkF m 85 #[.val (.ref d0), .val (.int u0)] [(.int (u0.toInt8.toInt32)), (.int (((sz + (1 : Int32)) + (1 : Int32)) + (1 : Int32))), (.ref arr)])) rfl rfl (hb hby d6_85)
  have c50 := c44.wr W49
  have c51 := c45.other W49 (Or.inl (Ne.symm ne_arr))
  have c52 := c47.other W49 (Or.inl (Ne.symm ne_arr))
  have K53 := K48.wr W49 (Or.inl (List.mem_of_getElem? (i := 1) rfl))
  have N49 := Fr.snoc X49 N43 g_arr
  have B49 := own_IA.set Ar49 Sz49 Nn49 El49 W49 (fits_nar_byte _)
  rw [own_narb] at B49
  refine Wp.step st49 ?_
  show Wp p e below _ (T49.setTop (mkF m 86 #[.val (.ref d0), .val (.int u0)] []))
  refine Wp.step (fun t k => XS.aloadN X49.here hx rfl (hb hby d6_86) rfl rfl k) ?_
  show Wp p e below _ (T49.setTop (mkF m 87 #[.val (.ref d0), .val (.int u0)] [(.ref d0)]))
  refine Wp.retA X49 hx Bd.returns rfl (hb hby d6_87) hlk ?_ (by decide) (by decide)
  show Q6 Z d0 u0 arr sz cap g0 sz2 h0 n0 (some (.ref d0)) T49.heap _
  rw [e49]
  exact ⟨rfl, N49, K53, c50, c51, by rw [← hs2]; exact c52, B49⟩
theorem d9_0 : decode prog_89_method_2_code 0 = .ok (.aload_n 0, 1) := by decide +kernel
theorem d9_1 : decode prog_89_method_2_code 1 = .ok (.iconst 1, 1) := by decide +kernel
theorem d9_2 : decode prog_89_method_2_code 2 = .ok (.invokevirtual 13, 3) := by decide +kernel
theorem d9_5 : decode prog_89_method_2_code 5 = .ok (.aload_n 0, 1) := by decide +kernel
theorem d9_6 : decode prog_89_method_2_code 6 = .ok (.getfield 7, 3) := by decide +kernel
theorem d9_9 : decode prog_89_method_2_code 9 = .ok (.aload_n 0, 1) := by decide +kernel
theorem d9_10 : decode prog_89_method_2_code 10 = .ok (.dup, 1) := by decide +kernel
theorem d9_11 : decode prog_89_method_2_code 11 = .ok (.getfield 17, 3) := by decide +kernel
theorem d9_14 : decode prog_89_method_2_code 14 = .ok (.dup_x1, 1) := by decide +kernel
theorem d9_15 : decode prog_89_method_2_code 15 = .ok (.iconst 1, 1) := by decide +kernel
theorem d9_16 : decode prog_89_method_2_code 16 = .ok (.iadd, 1) := by decide +kernel
theorem d9_17 : decode prog_89_method_2_code 17 = .ok (.putfield 17, 3) := by decide +kernel
theorem d9_20 : decode prog_89_method_2_code 20 = .ok (.iload_n 1, 1) := by decide +kernel
theorem d9_21 : decode prog_89_method_2_code 21 = .ok (.i2b, 1) := by decide +kernel
theorem d9_22 : decode prog_89_method_2_code 22 = .ok (.bastore, 1) := by decide +kernel
theorem d9_23 : decode prog_89_method_2_code 23 = .ok (.aload_n 0, 1) := by decide +kernel
theorem d9_24 : decode prog_89_method_2_code 24 = .ok (.areturn, 1) := by decide +kernel
theorem ef_9_00 (m : MethodId) (x0 : Addr) (x1 : Int32) : entryFrame m #[(.ref x0), (.int x1)] 2 = mkF m 0 #[.val (.ref x0), .val (.int x1)] [] := by first | (simp [entryFrame, mkF, argsToLocals, Value.category]; done) | rfl
def Q9 (Z : State) (d0 : Addr) (u0 : Int32) (arr : Addr) (sz : Int32) (cap : Int32) (g0 : Nat → Int32) (sz2 : Int32) (h0 : Heap) (n0 : Nat) (v : Option Value) (h : Heap) (L : List Loc) : Prop := v = some (.ref d0) ∧ Fr n0 L ∧ Keep h0 h [d0, arr] ∧ Exa Z h d0 "com/example/ulinzi/ulinzi/protocol/ProtocolWriter" ∧ Fld Z h d0 "com/example/ulinzi/ulinzi/protocol/ProtocolWriter" "bytes" "[B" (.ref arr) ∧ Fld Z h d0 "com/example/ulinzi/ulinzi/protocol/ProtocolWriter" "size" "I" (.int sz2) ∧ own_IA .byte Z h arr cap (own_w1 g0 sz u0)
set_option maxRecDepth 65536 in
set_option maxHeartbeats 40000000 in
theorem rm9 (l : Launch) (Z : State) (a0 : Array Value) (hw : ∀ d ∈ tables_1, d.before a0 Z = true) (ws : List Jvm.Cond) (d0 : Addr) (u0 : Int32) (arr : Addr) (sz : Int32) (cap : Int32) (g0 : Nat → Int32) (sz2 : Int32) (h0 : Heap) (n0 : Nat) (Z0 : n0 ≤ h0.size) (g_d0 : n0 ≤ d0) (g_arr : n0 ≤ arr) (E_d0 : Exa Z h0 d0 "com/example/ulinzi/ulinzi/protocol/ProtocolWriter") (F_b : Fld Z h0 d0 "com/example/ulinzi/ulinzi/protocol/ProtocolWriter" "bytes" "[B" (.ref arr)) (F_s : Fld Z h0 d0 "com/example/ulinzi/ulinzi/protocol/ProtocolWriter" "size" "I" (.int sz)) (B_arr : own_IA .byte Z h0 arr cap g0) (ne_arr : arr ≠ d0) (hle : ¬ cap < (sz + (1 : Int32))) (i0 : ¬ sz < 0 ∧ sz < cap) (hs2 : (sz + (1 : Int32)) = sz2) :
    MetFree l (⟨"com/example/ulinzi/ulinzi/protocol/ProtocolWriter", "writeInt8", "(I)Lcom/example/ulinzi/ulinzi/protocol/ProtocolWriter;"⟩ : MethodName) (head1 (Jvm.Cond.code (⟨"com/example/ulinzi/ulinzi/protocol/ProtocolWriter", "writeInt8", "(I)Lcom/example/ulinzi/ulinzi/protocol/ProtocolWriter;"⟩ : MethodName) prog_89_method_2_code 2 (some (.object "com/example/ulinzi/ulinzi/protocol/ProtocolWriter")) :: ws) ({ frames := 1, cells := 0, slots := 0, locals := 13 } : Room)) (fun a U => a = #[(.ref d0), (.int u0)] ∧ Z.Warmed39 U.vm ∧ U.heap = h0) (fun _ _ _ _ _ => True) (fun _ U o U' => ∃ v L, o = .returned v ∧ Q9 Z d0 u0 arr sz cap g0 sz2 h0 n0 v U'.heap L ∧ FrameEnd U o U' L ({ frames := 1, cells := 0, slots := 0, locals := 13 } : Room).cells ({ frames := 1, cells := 0, slots := 0, locals := 13 } : Room).slots) := by
  refine MetFree.of_bodySF (plainFor_of_name pn_com_example_ulinzi_ulinzi_protocol_ProtocolWriter) hisR ?_
  intro p e s m args below meth c s₁ Bd hml0 hP hK
  obtain ⟨rfl, hZ, hh⟩ := hP
  have hx := Bd.exec
  have hby := Bd.bytes
  have hlk : meth.locks = false := Bd.notSynchronized
  have hml : c.maxLocals = 2 := hml0
  have hown : s.vm.findClass "com/example/ulinzi/ulinzi/protocol/ProtocolWriter" = some m.cls := findClass_of_methodNamed Bd.named
  have hnm := (name_of_methodNamed Bd.named Bd.method).1
  have X0 : Stand p l e ({ frames := 1, cells := 0, slots := 0, locals := 13 } : Room) s m #[(.ref d0), (.int u0)] below meth c s₁ [] 0 0 := Stand.of_body Bd
  have e0 : s₁.heap = h0 := by rw [← hh, Bd.state]; rfl
  have N0 := Fr.nil n0
  have K0 : Keep h0 h0 [d0, arr] := Keep.refl h0 _
  show Wp p e below (Out s (Q9 Z d0 u0 arr sz cap g0 sz2 h0 n0) ({ frames := 1, cells := 0, slots := 0, locals := 13 } : Room).cells ({ frames := 1, cells := 0, slots := 0, locals := 13 } : Room).slots) (s₁.setTop (entryFrame m #[(.ref d0), (.int u0)] 2))
  rw [ef_9_00]
  show Wp p e below _ (s₁.setTop (mkF m 0 #[.val (.ref d0), .val (.int u0)] []))
  refine Wp.step (fun t k => XS.aloadN X0.here hx rfl (hb hby d9_0) rfl rfl k) ?_
  show Wp p e below _ (s₁.setTop (mkF m 1 #[.val (.ref d0), .val (.int u0)] [(.ref d0)]))
  refine Wp.step (fun t k => XS.iconst X0.here hx rfl (hb hby d9_1) k) ?_
  show Wp p e below _ (s₁.setTop (mkF m 2 #[.val (.ref d0), .val (.int u0)] [(.int (1 : Int32)), (.ref d0)]))
  obtain ⟨cq1, q1, q1'⟩ := E_d0.cell
  obtain ⟨_, _, ⟨T1, L1, k1, n1⟩, -, X1, ⟨Lc1, hQ1, l1, y1, z1⟩, st1⟩ := X0.privateBack hx (y := (⟨"com/example/ulinzi/ulinzi/protocol/ProtocolWriter", "ensure", "(I)V"⟩ : MethodName)) hown (mvT hZ (hw _ (List.mem_of_getElem? (i := 36) rfl))) (mvT hZ (hw _ (List.mem_of_getElem? (i := 37) rfl))) (own_selP hZ (hw _ (List.mem_of_getElem? (i := 2) rfl)) (hw _ (List.mem_of_getElem? (i := 38) rfl)) (hw _ (List.mem_of_getElem? (i := 37) rfl)) (by decide)) (Cond.privateMethod_at (mvP hZ (hw _ (List.mem_of_getElem? (i := 38) rfl)) (args := #[]))) (mvT hZ (hw _ (List.mem_of_getElem? (i := 39) rfl))) (by decide) (backOf (W := 0) (rm7_0 l Z a0 hw [] d0 (1 : Int32) arr sz cap g0 h0 n0 (Nat.le_trans Z0 K0.1) g_d0 g_arr E_d0 F_b F_s B_arr ne_arr hle) hZ (hw _ (List.mem_of_getElem? (i := 39) rfl)) (hw _ (List.mem_of_getElem? (i := 3) rfl)) (by decide) (by decide)) (g := (mkF m 2 #[.val (.ref d0), .val (.int u0)] [(.int (1 : Int32)), (.ref d0)])) rfl (by rw [hml]; rfl) (Steps.refl _) (a := d0) (by rw [e0]; exact q1) q1' (argsL := [(.int (1 : Int32))]) (rest := []) (lenOf pd_28I29V rfl) rfl (by show 2 * 0 + _ ≤ _; exact Nat.le_of_eq rfl) (hb hby d9_2) (fun _ _ => ⟨rfl, e0, (by decide : 0 + 0 ≤ _), (by decide : 0 + 0 ≤ _)⟩)
  dsimp only [Pt.U, Pt.locs, Pt.cells, Pt.slots] at X1 l1 y1 z1 st1 hQ1
  subst l1 y1 z1
  obtain ⟨rfl, N1q, e1⟩ := hQ1
  have N1 := Fr.app N0 N1q
  refine Wp.go st1 ?_
  show Wp p e below _ (T1.setTop (mkF m 5 #[.val (.ref d0), .val (.int u0)] []))
  refine Wp.step (fun t k => XS.aloadN X1.here hx rfl (hb hby d9_5) rfl rfl k) ?_
  show Wp p e below _ (T1.setTop (mkF m 6 #[.val (.ref d0), .val (.int u0)] [(.ref d0)]))
  obtain ⟨T2, X2, e2, st2⟩ := getF X1 hx hZ hown (host := "") (Or.inl (hw _ (List.mem_of_getElem? (i := 10) rfl))) Via.refl e1 F_b (g := (mkF m 6 #[.val (.ref d0), .val (.int u0)] [(.ref d0)])) rfl rfl (hb hby d9_6)
  refine Wp.step st2 ?_
  show Wp p e below _ (T2.setTop (mkF m 9 #[.val (.ref d0), .val (.int u0)] [(.ref arr)]))
  refine Wp.step (fun t k => XS.aloadN X2.here hx rfl (hb hby d9_9) rfl rfl k) ?_
  show Wp p e below _ (T2.setTop (mkF m 10 #[.val (.ref d0), .val (.int u0)] [(.ref d0), (.ref arr)]))
  refine Wp.step (fun t k => XS.dup X2.here hx rfl (hb hby d9_10) rfl rfl k) ?_
  show Wp p e below _ (T2.setTop (mkF m 11 #[.val (.ref d0), .val (.int u0)] [(.ref d0), (.ref d0), (.ref arr)]))
  obtain ⟨T3, X3, e3, st3⟩ := getF X2 hx hZ hown (host := "") (Or.inl (hw _ (List.mem_of_getElem? (i := 17) rfl))) Via.refl e2 F_s (g := (mkF m 11 #[.val (.ref d0), .val (.int u0)] [(.ref d0), (.ref d0), (.ref arr)])) rfl rfl (hb hby d9_11)
  refine Wp.step st3 ?_
  show Wp p e below _ (T3.setTop (mkF m 14 #[.val (.ref d0), .val (.int u0)] [(.int sz), (.ref d0), (.ref arr)]))
  refine Wp.step (fun t k => XS.dupX1 X3.here hx rfl (hb hby d9_14) rfl rfl rfl k) ?_
  show Wp p e below _ (T3.setTop (mkF m 15 #[.val (.ref d0), .val (.int u0)] [(.int sz), (.ref d0), (.int sz), (.ref arr)]))
  refine Wp.step (fun t k => XS.iconst X3.here hx rfl (hb hby d9_15) k) ?_
  show Wp p e below _ (T3.setTop (mkF m 16 #[.val (.ref d0), .val (.int u0)] [(.int (1 : Int32)), (.int sz), (.ref d0), (.int sz), (.ref arr)]))
  refine Wp.step (fun t k => XS.iadd X3.here hx rfl (hb hby d9_16) rfl k) ?_
  show Wp p e below _ (T3.setTop (mkF m 17 #[.val (.ref d0), .val (.int u0)] [(.int (sz + (1 : Int32))), (.ref d0), (.int sz), (.ref arr)]))
  obtain ⟨T4, h4, X4, e4, W4, st4⟩ := putF X3 hx hZ hown (host := "") (Or.inl (hw _ (List.mem_of_getElem? (i := 17) rfl))) Via.refl e3 F_s E_d0 (Or.inl (hw _ (List.mem_of_getElem? (i := 18) rfl))) (hw _ (List.mem_of_getElem? (i := 2) rfl)) (ty := .int) (by decide) rfl rfl (g := (mkF m 17 #[.val (.ref d0), .val (.int u0)] [(.int (sz + (1 : Int32))), (.ref d0), (.int sz), (.ref arr)])) rfl rfl (hb hby d9_17)
  have c5 := E_d0.wr W4
  have c6 := F_b.other W4 (Or.inr (slot_ne (Or.inl (hw _ (List.mem_of_getElem? (i := 11) rfl))) (Or.inl (hw _ (List.mem_of_getElem? (i := 18) rfl))) (by decide) (t := (.array .byte)) (t' := .int) (by decide) (by decide)))
  have B7 := B_arr.other W4 ne_arr
  have c8 := F_s.same W4
  have K9 := K0.wr W4 (Or.inl (List.mem_of_getElem? (i := 0) rfl))
  have N4 := Fr.snoc X4 N1 g_d0
  refine Wp.step st4 ?_
  show Wp p e below _ (T4.setTop (mkF m 20 #[.val (.ref d0), .val (.int u0)] [(.int sz), (.ref arr)]))
  refine Wp.step (fun t k => XS.iloadN X4.here hx rfl (hb hby d9_20) rfl k) ?_
  show Wp p e below _ (T4.setTop (mkF m 21 #[.val (.ref d0), .val (.int u0)] [(.int u0), (.int sz), (.ref arr)]))
  refine Wp.step (fun t k => XS.i2b X4.here hx rfl (hb hby d9_21) rfl k) ?_
  show Wp p e below _ (T4.setTop (mkF m 22 #[.val (.ref d0), .val (.int u0)] [(.int (u0.toInt8.toInt32)), (.int sz), (.ref arr)]))
  obtain ⟨cl10, Ar10, Sz10, Nn10, El10⟩ := id B7
  have hin10 : ¬ (sz < 0 ∨ cl10.slots.size ≤ (sz).toNatClampNeg) := inb_of Sz10 i0
  obtain ⟨T10, h10, X10, e10, W10, st10⟩ := stB X4 hx hZ e4 Ar10 (j := sz) hin10 (g := (mkF m 22 #[.val (.ref d0), .val (.int u0)] [(.int (u0.toInt8.toInt32)), (.int sz), (.ref arr)])) rfl rfl (hb hby d9_22)
  have c11 := c5.wr W10
  have c12 := c6.other W10 (Or.inl (Ne.symm ne_arr))
  have c13 := c8.other W10 (Or.inl (Ne.symm ne_arr))
  have K14 := K9.wr W10 (Or.inl (List.mem_of_getElem? (i := 1) rfl))
  have N10 := Fr.snoc X10 N4 g_arr
  have B10 := own_IA.set Ar10 Sz10 Nn10 El10 W10 (fits_nar_byte _)
  rw [own_narb] at B10
  refine Wp.step st10 ?_
  show Wp p e below _ (T10.setTop (mkF m 23 #[.val (.ref d0), .val (.int u0)] []))
  refine Wp.step (fun t k => XS.aloadN X10.here hx rfl (hb hby d9_23) rfl rfl k) ?_
  show Wp p e below _ (T10.setTop (mkF m 24 #[.val (.ref d0), .val (.int u0)] [(.ref d0)]))
  refine Wp.retA X10 hx Bd.returns rfl (hb hby d9_24) hlk ?_ (by decide) (by decide)
  show Q9 Z d0 u0 arr sz cap g0 sz2 h0 n0 (some (.ref d0)) T10.heap _
  rw [e10]
  exact ⟨rfl, N10, K14, c11, c12, by rw [← hs2]; exact c13, B10⟩
theorem pd_28I29Lcom2fexample2fulinzi2fulinzi2fprotocol2fProtocolWriter3b : parseMethodDescriptor "(I)Lcom/example/ulinzi/ulinzi/protocol/ProtocolWriter;" = some ⟨[.int], some (.object "com/example/ulinzi/ulinzi/protocol/ProtocolWriter")⟩ := by decide +kernel
theorem d8_0 : decode prog_89_method_5_code 0 = .ok (.aload_n 0, 1) := by decide +kernel
theorem d8_1 : decode prog_89_method_5_code 1 = .ok (.lload_n 1, 1) := by decide +kernel
theorem d8_2 : decode prog_89_method_5_code 2 = .ok (.bipush 32, 2) := by decide +kernel
theorem d8_4 : decode prog_89_method_5_code 4 = .ok (.lshr, 1) := by decide +kernel
theorem d8_5 : decode prog_89_method_5_code 5 = .ok (.l2i, 1) := by decide +kernel
theorem d8_6 : decode prog_89_method_5_code 6 = .ok (.invokevirtual 21, 3) := by decide +kernel
theorem d8_9 : decode prog_89_method_5_code 9 = .ok (.pop, 1) := by decide +kernel
theorem d8_10 : decode prog_89_method_5_code 10 = .ok (.aload_n 0, 1) := by decide +kernel
theorem d8_11 : decode prog_89_method_5_code 11 = .ok (.lload_n 1, 1) := by decide +kernel
theorem d8_12 : decode prog_89_method_5_code 12 = .ok (.l2i, 1) := by decide +kernel
theorem d8_13 : decode prog_89_method_5_code 13 = .ok (.invokevirtual 21, 3) := by decide +kernel
theorem d8_16 : decode prog_89_method_5_code 16 = .ok (.areturn, 1) := by decide +kernel
theorem ef_8_00 (m : MethodId) (x0 : Addr) (x1 : Int64) : entryFrame m #[(.ref x0), (.long x1)] 3 = mkF m 0 #[.val (.ref x0), .val (.long x1), .second] [] := by first | (simp [entryFrame, mkF, argsToLocals, Value.category]; done) | rfl
def Q8 (Z : State) (d0 : Addr) (u0 : Int64) (arr : Addr) (g0 : Nat → Int32) (h0 : Heap) (n0 : Nat) (v : Option Value) (h : Heap) (L : List Loc) : Prop := v = some (.ref d0) ∧ Fr n0 L ∧ Keep h0 h [d0, arr] ∧ Exa Z h d0 "com/example/ulinzi/ulinzi/protocol/ProtocolWriter" ∧ Fld Z h d0 "com/example/ulinzi/ulinzi/protocol/ProtocolWriter" "bytes" "[B" (.ref arr) ∧ Fld Z h d0 "com/example/ulinzi/ulinzi/protocol/ProtocolWriter" "size" "I" (.int (12 : Int32)) ∧ own_IA .byte Z h arr (256 : Int32) (own_w4 (own_w4 g0 (4 : Int32) (u0 >>> ((32 : Int32) &&& 0x3f).toInt64).toInt32) (8 : Int32) u0.toInt32)
set_option maxRecDepth 65536 in
set_option maxHeartbeats 40000000 in
theorem rm8 (l : Launch) (Z : State) (a0 : Array Value) (hw : ∀ d ∈ tables_1, d.before a0 Z = true) (ws : List Jvm.Cond) (d0 : Addr) (u0 : Int64) (arr : Addr) (g0 : Nat → Int32) (h0 : Heap) (n0 : Nat) (Z0 : n0 ≤ h0.size) (g_d0 : n0 ≤ d0) (g_arr : n0 ≤ arr) (E_d0 : Exa Z h0 d0 "com/example/ulinzi/ulinzi/protocol/ProtocolWriter") (F_b : Fld Z h0 d0 "com/example/ulinzi/ulinzi/protocol/ProtocolWriter" "bytes" "[B" (.ref arr)) (F_s : Fld Z h0 d0 "com/example/ulinzi/ulinzi/protocol/ProtocolWriter" "size" "I" (.int (4 : Int32))) (B_arr : own_IA .byte Z h0 arr (256 : Int32) g0) (ne_arr : arr ≠ d0) :
    MetFree l (⟨"com/example/ulinzi/ulinzi/protocol/ProtocolWriter", "writeInt64", "(J)Lcom/example/ulinzi/ulinzi/protocol/ProtocolWriter;"⟩ : MethodName) (head1 (Jvm.Cond.code (⟨"com/example/ulinzi/ulinzi/protocol/ProtocolWriter", "writeInt64", "(J)Lcom/example/ulinzi/ulinzi/protocol/ProtocolWriter;"⟩ : MethodName) prog_89_method_5_code 3 (some (.object "com/example/ulinzi/ulinzi/protocol/ProtocolWriter")) :: ws) ({ frames := 2, cells := 0, slots := 0, locals := 26 } : Room)) (fun a U => a = #[(.ref d0), (.long u0)] ∧ Z.Warmed39 U.vm ∧ U.heap = h0) (fun _ _ _ _ _ => True) (fun _ U o U' => ∃ v L, o = .returned v ∧ Q8 Z d0 u0 arr g0 h0 n0 v U'.heap L ∧ FrameEnd U o U' L ({ frames := 2, cells := 0, slots := 0, locals := 26 } : Room).cells ({ frames := 2, cells := 0, slots := 0, locals := 26 } : Room).slots) := by
  refine MetFree.of_bodySF (plainFor_of_name pn_com_example_ulinzi_ulinzi_protocol_ProtocolWriter) hisR ?_
  intro p e s m args below meth c s₁ Bd hml0 hP hK
  obtain ⟨rfl, hZ, hh⟩ := hP
  have hx := Bd.exec
  have hby := Bd.bytes
  have hlk : meth.locks = false := Bd.notSynchronized
  have hml : c.maxLocals = 3 := hml0
  have hown : s.vm.findClass "com/example/ulinzi/ulinzi/protocol/ProtocolWriter" = some m.cls := findClass_of_methodNamed Bd.named
  have hnm := (name_of_methodNamed Bd.named Bd.method).1
  have X0 : Stand p l e ({ frames := 2, cells := 0, slots := 0, locals := 26 } : Room) s m #[(.ref d0), (.long u0)] below meth c s₁ [] 0 0 := Stand.of_body Bd
  have e0 : s₁.heap = h0 := by rw [← hh, Bd.state]; rfl
  have N0 := Fr.nil n0
  have K0 : Keep h0 h0 [d0, arr] := Keep.refl h0 _
  show Wp p e below (Out s (Q8 Z d0 u0 arr g0 h0 n0) ({ frames := 2, cells := 0, slots := 0, locals := 26 } : Room).cells ({ frames := 2, cells := 0, slots := 0, locals := 26 } : Room).slots) (s₁.setTop (entryFrame m #[(.ref d0), (.long u0)] 3))
  rw [ef_8_00]
  show Wp p e below _ (s₁.setTop (mkF m 0 #[.val (.ref d0), .val (.long u0), .second] []))
  refine Wp.step (fun t k => XS.aloadN X0.here hx rfl (hb hby d8_0) rfl rfl k) ?_
  show Wp p e below _ (s₁.setTop (mkF m 1 #[.val (.ref d0), .val (.long u0), .second] [(.ref d0)]))
  refine Wp.step (fun t k => XS.lloadN X0.here hx rfl (hb hby d8_1) rfl k) ?_
  show Wp p e below _ (s₁.setTop (mkF m 2 #[.val (.ref d0), .val (.long u0), .second] [(.long u0), (.ref d0)]))
  refine Wp.step (fun t k => XS.bipush X0.here hx rfl (hb hby d8_2) k) ?_
  show Wp p e below _ (s₁.setTop (mkF m 4 #[.val (.ref d0), .val (.long u0), .second] [(.int (32 : Int32)), (.long u0), (.ref d0)]))
  refine Wp.step (fun t k => XS.lshr X0.here hx rfl (hb hby d8_4) rfl k) ?_
  show Wp p e below _ (s₁.setTop (mkF m 5 #[.val (.ref d0), .val (.long u0), .second] [(.long (u0 >>> ((32 : Int32) &&& 0x3f).toInt64)), (.ref d0)]))
  refine Wp.step (fun t k => XS.l2i X0.here hx rfl (hb hby d8_5) rfl k) ?_
  show Wp p e below _ (s₁.setTop (mkF m 6 #[.val (.ref d0), .val (.long u0), .second] [(.int ((u0 >>> ((32 : Int32) &&& 0x3f).toInt64).toInt32)), (.ref d0)]))
  obtain ⟨cq1, kq1, q1a, q1b, q1c⟩ := isOf hZ e0 E_d0
  obtain ⟨_, _, ⟨T1, L1, k1, n1⟩, -, X1, ⟨Lc1, hQ1, l1, y1, z1⟩, st1⟩ := X0.virtualBack hx (y := (⟨"com/example/ulinzi/ulinzi/protocol/ProtocolWriter", "writeInt32", "(I)Lcom/example/ulinzi/ulinzi/protocol/ProtocolWriter;"⟩ : MethodName)) (z := (⟨"com/example/ulinzi/ulinzi/protocol/ProtocolWriter", "writeInt32", "(I)Lcom/example/ulinzi/ulinzi/protocol/ProtocolWriter;"⟩ : MethodName)) hown (mvT hZ (hw _ (List.mem_of_getElem? (i := 45) rfl))) (mvT hZ (hw _ (List.mem_of_getElem? (i := 32) rfl))) (notFace_of_selects (args := #[]) (mvT hZ (hw _ (List.mem_of_getElem? (i := 34) rfl)))) (mvT hZ (hw _ (List.mem_of_getElem? (i := 34) rfl))) (mvT hZ (hw _ (List.mem_of_getElem? (i := 33) rfl))) (by decide) (backOf (W := 0) (rm6 l Z a0 hw [] d0 ((u0 >>> ((32 : Int32) &&& 0x3f).toInt64).toInt32) arr (4 : Int32) (256 : Int32) g0 (8 : Int32) h0 n0 (Nat.le_trans Z0 K0.1) g_d0 g_arr E_d0 F_b F_s B_arr ne_arr (by decide) (by decide) (by decide) (by decide) (by decide) (by decide)) hZ (hw _ (List.mem_of_getElem? (i := 35) rfl)) (hw _ (List.mem_of_getElem? (i := 3) rfl)) (by decide) (by decide)) q1a q1c (g := (mkF m 6 #[.val (.ref d0), .val (.long u0), .second] [(.int ((u0 >>> ((32 : Int32) &&& 0x3f).toInt64).toInt32)), (.ref d0)])) rfl (by rw [hml]; rfl) (Steps.refl _) (argsL := [(.int ((u0 >>> ((32 : Int32) &&& 0x3f).toInt64).toInt32))]) (rest := []) (lenOf pd_28I29Lcom2fexample2fulinzi2fulinzi2fprotocol2fProtocolWriter3b rfl) rfl (by show 2 * 0 + _ ≤ _; exact Nat.le_of_eq rfl) (hb hby d8_6) (fun _ _ => ⟨rfl, e0, (by decide : 0 + 0 ≤ _), (by decide : 0 + 0 ≤ _)⟩)
  dsimp only [Pt.U, Pt.locs, Pt.cells, Pt.slots] at X1 l1 y1 z1 st1 hQ1
  subst l1 y1 z1
  obtain ⟨h1, e1⟩ : ∃ z, T1.heap = z := ⟨_, rfl⟩
  rw [e1] at hQ1
  obtain ⟨rfl, N1q, Kc1, E_1, Fb1, Fs1, B1⟩ := hQ1
  have N1 := Fr.app N0 N1q
  have c2 := E_d0.keep Kc1
  have K1 := K0.trans Kc1 (allS (Or.inl (List.mem_of_getElem? (i := 0) rfl)) (allS (Or.inl (List.mem_of_getElem? (i := 1) rfl)) all0))
  refine Wp.go st1 ?_
  show Wp p e below _ (T1.setTop (mkF m 9 #[.val (.ref d0), .val (.long u0), .second] [(.ref d0)]))
  refine Wp.step (fun t k => XS.pop X1.here hx rfl (hb hby d8_9) rfl rfl k) ?_
  show Wp p e below _ (T1.setTop (mkF m 10 #[.val (.ref d0), .val (.long u0), .second] []))
  refine Wp.step (fun t k => XS.aloadN X1.here hx rfl (hb hby d8_10) rfl rfl k) ?_
  show Wp p e below _ (T1.setTop (mkF m 11 #[.val (.ref d0), .val (.long u0), .second] [(.ref d0)]))
  refine Wp.step (fun t k => XS.lloadN X1.here hx rfl (hb hby d8_11) rfl k) ?_
  show Wp p e below _ (T1.setTop (mkF m 12 #[.val (.ref d0), .val (.long u0), .second] [(.long u0), (.ref d0)]))
  refine Wp.step (fun t k => XS.l2i X1.here hx rfl (hb hby d8_12) rfl k) ?_
  show Wp p e below _ (T1.setTop (mkF m 13 #[.val (.ref d0), .val (.long u0), .second] [(.int (u0.toInt32)), (.ref d0)]))
  obtain ⟨cq4, kq4, q4a, q4b, q4c⟩ := isOf hZ e1 E_1
  obtain ⟨_, _, ⟨T4, L4, k4, n4⟩, -, X4, ⟨Lc4, hQ4, l4, y4, z4⟩, st4⟩ := X1.virtualBack hx (y := (⟨"com/example/ulinzi/ulinzi/protocol/ProtocolWriter", "writeInt32", "(I)Lcom/example/ulinzi/ulinzi/protocol/ProtocolWriter;"⟩ : MethodName)) (z := (⟨"com/example/ulinzi/ulinzi/protocol/ProtocolWriter", "writeInt32", "(I)Lcom/example/ulinzi/ulinzi/protocol/ProtocolWriter;"⟩ : MethodName)) hown (mvT hZ (hw _ (List.mem_of_getElem? (i := 45) rfl))) (mvT hZ (hw _ (List.mem_of_getElem? (i := 32) rfl))) (notFace_of_selects (args := #[]) (mvT hZ (hw _ (List.mem_of_getElem? (i := 34) rfl)))) (mvT hZ (hw _ (List.mem_of_getElem? (i := 34) rfl))) (mvT hZ (hw _ (List.mem_of_getElem? (i := 33) rfl))) (by decide) (backOf (W := 0) (rm6 l Z a0 hw [] d0 (u0.toInt32) arr (8 : Int32) (256 : Int32) (own_w4 g0 (4 : Int32) ((u0 >>> ((32 : Int32) &&& 0x3f).toInt64).toInt32)) (12 : Int32) h1 n0 (Nat.le_trans Z0 K1.1) g_d0 g_arr E_1 Fb1 Fs1 B1 ne_arr (by decide) (by decide) (by decide) (by decide) (by decide) (by decide)) hZ (hw _ (List.mem_of_getElem? (i := 35) rfl)) (hw _ (List.mem_of_getElem? (i := 3) rfl)) (by decide) (by decide)) q4a q4c (g := (mkF m 13 #[.val (.ref d0), .val (.long u0), .second] [(.int (u0.toInt32)), (.ref d0)])) rfl (by rw [hml]; rfl) (Steps.refl _) (argsL := [(.int (u0.toInt32))]) (rest := []) (lenOf pd_28I29Lcom2fexample2fulinzi2fulinzi2fprotocol2fProtocolWriter3b rfl) rfl (by show 2 * 0 + _ ≤ _; exact Nat.le_of_eq rfl) (hb hby d8_13) (fun _ _ => ⟨rfl, e1, (by decide : 0 + 0 ≤ _), (by decide : 0 + 0 ≤ _)⟩)
  dsimp only [Pt.U, Pt.locs, Pt.cells, Pt.slots] at X4 l4 y4 z4 st4 hQ4
  subst l4 y4 z4
  obtain ⟨h4, e4⟩ : ∃ z, T4.heap = z := ⟨_, rfl⟩
  rw [e4] at hQ4
  obtain ⟨rfl, N4q, Kc4, E_4, Fb4, Fs4, B4⟩ := hQ4
  have N4 := Fr.app N1 N4q
  have c5 := E_1.keep Kc4
  have K4 := K1.trans Kc4 (allS (Or.inl (List.mem_of_getElem? (i := 0) rfl)) (allS (Or.inl (List.mem_of_getElem? (i := 1) rfl)) all0))
  refine Wp.go st4 ?_
  show Wp p e below _ (T4.setTop (mkF m 16 #[.val (.ref d0), .val (.long u0), .second] [(.ref d0)]))
  refine Wp.retA X4 hx Bd.returns rfl (hb hby d8_16) hlk ?_ (by decide) (by decide)
  show Q8 Z d0 u0 arr g0 h0 n0 (some (.ref d0)) T4.heap _
  rw [e4]
  exact ⟨rfl, N4, K4, E_4, Fb4, Fs4, B4⟩
theorem d1_0 : decode prog_89_method_1_code 0 = .ok (.aload_n 0, 1) := by decide +kernel
theorem d1_1 : decode prog_89_method_1_code 1 = .ok (.invokespecial 1, 3) := by decide +kernel
theorem d1_4 : decode prog_89_method_1_code 4 = .ok (.aload_n 0, 1) := by decide +kernel
theorem d1_5 : decode prog_89_method_1_code 5 = .ok (.sipush 256, 3) := by decide +kernel
theorem d1_8 : decode prog_89_method_1_code 8 = .ok (.newarray .byte, 2) := by decide +kernel
theorem d1_10 : decode prog_89_method_1_code 10 = .ok (.putfield 7, 3) := by decide +kernel
theorem d1_13 : decode prog_89_method_1_code 13 = .ok (.return_, 1) := by decide +kernel
theorem ef_1_0 (m : MethodId) (x0 : Addr) : entryFrame m #[(.ref x0)] 1 = mkF m 0 #[.val (.ref x0)] [] := by first | (simp [entryFrame, mkF, argsToLocals, Value.category]; done) | rfl
def Q1 (Z : State) (d0 : Addr) (h0 : Heap) (n0 : Nat) (v : Option Value) (h : Heap) (L : List Loc) : Prop := v = none ∧ Fr n0 L ∧ Keep h0 h [d0] ∧ Exa Z h d0 "com/example/ulinzi/ulinzi/protocol/ProtocolWriter" ∧ ∃ arr : Addr, h0.size ≤ arr ∧ n0 ≤ arr ∧ Fld Z h d0 "com/example/ulinzi/ulinzi/protocol/ProtocolWriter" "bytes" "[B" (.ref arr) ∧ Fld Z h d0 "com/example/ulinzi/ulinzi/protocol/ProtocolWriter" "size" "I" (.int (0 : Int32)) ∧ own_IA .byte Z h arr (256 : Int32) (fun _ => (0 : Int32))
set_option maxRecDepth 65536 in
set_option maxHeartbeats 40000000 in
theorem rm1 (l : Launch) (Z : State) (a0 : Array Value) (hw : ∀ d ∈ tables_1, d.before a0 Z = true) (ws : List Jvm.Cond) (d0 : Addr) (h0 : Heap) (n0 : Nat) (Z0 : n0 ≤ h0.size) (g_d0 : n0 ≤ d0) (E_d0 : Exa Z h0 d0 "com/example/ulinzi/ulinzi/protocol/ProtocolWriter") (F_size_d0 : Fld Z h0 d0 "com/example/ulinzi/ulinzi/protocol/ProtocolWriter" "size" "I" (.int (0 : Int32))) (F_bytes_d0 : Fld Z h0 d0 "com/example/ulinzi/ulinzi/protocol/ProtocolWriter" "bytes" "[B" .null) :
    MetFree l (⟨"com/example/ulinzi/ulinzi/protocol/ProtocolWriter", "<init>", "()V"⟩ : MethodName) (head1 (Jvm.Cond.code (⟨"com/example/ulinzi/ulinzi/protocol/ProtocolWriter", "<init>", "()V"⟩ : MethodName) prog_89_method_1_code 1 none :: ws) ({ frames := 1, cells := 1, slots := 256, locals := 12 } : Room)) (fun a U => a = #[(.ref d0)] ∧ Z.Warmed39 U.vm ∧ U.heap = h0) (fun _ _ _ _ _ => True) (fun _ U o U' => ∃ v L, o = .returned v ∧ Q1 Z d0 h0 n0 v U'.heap L ∧ FrameEnd U o U' L ({ frames := 1, cells := 1, slots := 256, locals := 12 } : Room).cells ({ frames := 1, cells := 1, slots := 256, locals := 12 } : Room).slots) := by
  refine MetFree.of_bodySF (plainFor_of_name pn_com_example_ulinzi_ulinzi_protocol_ProtocolWriter) hisR ?_
  intro p e s m args below meth c s₁ Bd hml0 hP hK
  obtain ⟨rfl, hZ, hh⟩ := hP
  have hx := Bd.exec
  have hby := Bd.bytes
  have hlk : meth.locks = false := Bd.notSynchronized
  have hml : c.maxLocals = 1 := hml0
  have hown : s.vm.findClass "com/example/ulinzi/ulinzi/protocol/ProtocolWriter" = some m.cls := findClass_of_methodNamed Bd.named
  have hnm := (name_of_methodNamed Bd.named Bd.method).1
  have X0 : Stand p l e ({ frames := 1, cells := 1, slots := 256, locals := 12 } : Room) s m #[(.ref d0)] below meth c s₁ [] 0 0 := Stand.of_body Bd
  have e0 : s₁.heap = h0 := by rw [← hh, Bd.state]; rfl
  have N0 := Fr.nil n0
  have K0 : Keep h0 h0 [d0] := Keep.refl h0 _
  show Wp p e below (Out s (Q1 Z d0 h0 n0) ({ frames := 1, cells := 1, slots := 256, locals := 12 } : Room).cells ({ frames := 1, cells := 1, slots := 256, locals := 12 } : Room).slots) (s₁.setTop (entryFrame m #[(.ref d0)] 1))
  rw [ef_1_0]
  show Wp p e below _ (s₁.setTop (mkF m 0 #[.val (.ref d0)] []))
  refine Wp.step (fun t k => XS.aloadN X0.here hx rfl (hb hby d1_0) rfl rfl k) ?_
  show Wp p e below _ (s₁.setTop (mkF m 1 #[.val (.ref d0)] [(.ref d0)]))
  obtain ⟨T1, X1, e1, st1⟩ := initO X0 hx hZ hown (hw _ (List.mem_of_getElem? (i := 7) rfl)) (hw _ (List.mem_of_getElem? (i := 8) rfl)) (hw _ (List.mem_of_getElem? (i := 9) rfl)) e0 (g := (mkF m 1 #[.val (.ref d0)] [(.ref d0)])) rfl (by rw [hml]; rfl) rfl (hb hby d1_1) (by decide) (W := 0) (by show 2 * 0 + _ ≤ _; exact Nat.le_of_eq rfl) (by decide)
  refine Wp.step st1 ?_
  show Wp p e below _ (T1.setTop (mkF m 4 #[.val (.ref d0)] []))
  refine Wp.step (fun t k => XS.aloadN X1.here hx rfl (hb hby d1_4) rfl rfl k) ?_
  show Wp p e below _ (T1.setTop (mkF m 5 #[.val (.ref d0)] [(.ref d0)]))
  refine Wp.step (fun t k => XS.sipush X1.here hx rfl (hb hby d1_5) k) ?_
  show Wp p e below _ (T1.setTop (mkF m 8 #[.val (.ref d0)] [(.int (256 : Int32)), (.ref d0)]))
  obtain ⟨T2, h2, k2, X2, e2, E2, A2, st2⟩ := newP X1 hx hZ (hw _ (List.mem_of_getElem? (i := 0) rfl)) e1 (g := (mkF m 8 #[.val (.ref d0)] [(.int (256 : Int32)), (.ref d0)])) rfl (hb hby d1_8) rfl (by decide) (cap := 256) (by decide) (by decide) (by decide) (by decide)
  obtain ⟨b2, g2⟩ : ∃ z, z = h0.size := ⟨_, rfl⟩
  rw [← g2] at A2 st2
  have g_b2 : n0 ≤ b2 := Nat.le_trans (Nat.le_trans Z0 K0.1) (Nat.le_of_eq g2.symm)
  have sz_b2 : h0.size ≤ b2 := Nat.le_trans K0.1 (Nat.le_of_eq g2.symm)
  have ne_d0_b2 : d0 ≠ b2 := Nat.ne_of_lt (Nat.lt_of_lt_of_le E_d0.lt (Nat.le_of_eq g2.symm))
  have c3 := E_d0.ext E2
  have c4 := F_size_d0.ext E2
  have c5 := F_bytes_d0.ext E2
  have K6 := K0.ext E2
  have Z2 : (newA k2 .byte (256 : Int32)).slots.size = ((256 : Int32)).toNatClampNeg := sz_new _ _ _
  have nn2 : ¬ (256 : Int32) < 0 := (by decide)
  refine Wp.step st2 ?_
  have B2 := own_IA.new A2 nn2 rfl
  show Wp p e below _ (T2.setTop (mkF m 10 #[.val (.ref d0)] [(.ref b2), (.ref d0)]))
  obtain ⟨T7, h7, X7, e7, W7, st7⟩ := putF X2 hx hZ hown (host := "") (Or.inl (hw _ (List.mem_of_getElem? (i := 10) rfl))) Via.refl e2 c5 c3 (Or.inl (hw _ (List.mem_of_getElem? (i := 11) rfl))) (hw _ (List.mem_of_getElem? (i := 2) rfl)) (ty := (.array .byte)) (by decide) rfl rfl (g := (mkF m 10 #[.val (.ref d0)] [(.ref b2), (.ref d0)])) rfl rfl (hb hby d1_10)
  have c8 := c3.wr W7
  have c9 := c4.other W7 (Or.inr (slot_ne (Or.inl (hw _ (List.mem_of_getElem? (i := 18) rfl))) (Or.inl (hw _ (List.mem_of_getElem? (i := 11) rfl))) (by decide) (t := .int) (t' := (.array .byte)) (by decide) (by decide)))
  have B10 := B2.other W7 (Ne.symm ne_d0_b2)
  have c11 := c5.same W7
  have K12 := K6.wr W7 (Or.inl (List.mem_of_getElem? (i := 0) rfl))
  have N7 := Fr.snoc X7 N0 g_d0
  refine Wp.step st7 ?_
  show Wp p e below _ (T7.setTop (mkF m 13 #[.val (.ref d0)] []))
  refine Wp.retV X7 hx Bd.returns (hb hby d1_13) hlk ?_ (by decide) (by decide)
  show Q1 Z d0 h0 n0 none T7.heap _
  rw [e7]
  exact ⟨rfl, N7, K12, c8, b2, sz_b2, g_b2, c11, c9, B10⟩
theorem pd_285bBI295bB : parseMethodDescriptor "([BI)[B" = some ⟨[(.array .byte), .int], some (.array .byte)⟩ := by decide +kernel
theorem d7_14 : decode prog_89_method_27_code 14 = .ok (.aload_n 0, 1) := by decide +kernel
theorem d7_15 : decode prog_89_method_27_code 15 = .ok (.aload_n 0, 1) := by decide +kernel
theorem d7_16 : decode prog_89_method_27_code 16 = .ok (.getfield 7, 3) := by decide +kernel
theorem d7_19 : decode prog_89_method_27_code 19 = .ok (.aload_n 0, 1) := by decide +kernel
theorem d7_20 : decode prog_89_method_27_code 20 = .ok (.getfield 7, 3) := by decide +kernel
theorem d7_23 : decode prog_89_method_27_code 23 = .ok (.arraylength, 1) := by decide +kernel
theorem d7_24 : decode prog_89_method_27_code 24 = .ok (.iconst 2, 1) := by decide +kernel
theorem d7_25 : decode prog_89_method_27_code 25 = .ok (.imul, 1) := by decide +kernel
theorem d7_26 : decode prog_89_method_27_code 26 = .ok (.aload_n 0, 1) := by decide +kernel
theorem d7_27 : decode prog_89_method_27_code 27 = .ok (.getfield 17, 3) := by decide +kernel
theorem d7_30 : decode prog_89_method_27_code 30 = .ok (.iload_n 1, 1) := by decide +kernel
theorem d7_31 : decode prog_89_method_27_code 31 = .ok (.iadd, 1) := by decide +kernel
theorem d7_32 : decode prog_89_method_27_code 32 = .ok (.invokestatic 135, 3) := by decide +kernel
theorem d7_35 : decode prog_89_method_27_code 35 = .ok (.invokestatic 106, 3) := by decide +kernel
theorem d7_38 : decode prog_89_method_27_code 38 = .ok (.putfield 7, 3) := by decide +kernel
def Q7_1 (Z : State) (d0 : Addr) (u0 : Int32) (arr : Addr) (g0 : Nat → Int32) (h0 : Heap) (n0 : Nat) (v : Option Value) (h : Heap) (L : List Loc) : Prop := v = none ∧ Fr n0 L ∧ Keep h0 h [d0] ∧ Exa Z h d0 "com/example/ulinzi/ulinzi/protocol/ProtocolWriter" ∧ ∃ arr : Addr, h0.size ≤ arr ∧ n0 ≤ arr ∧ Fld Z h d0 "com/example/ulinzi/ulinzi/protocol/ProtocolWriter" "bytes" "[B" (.ref arr) ∧ Fld Z h d0 "com/example/ulinzi/ulinzi/protocol/ProtocolWriter" "size" "I" (.int (16 : Int32)) ∧ own_IA .byte Z h arr (512 : Int32) (own_copy g0 (fun _ => (0 : Int32)) (0 : Int32).toNatClampNeg (0 : Int32).toNatClampNeg (own_min (256 : Int32) (512 : Int32)).toNatClampNeg)
set_option maxRecDepth 65536 in
set_option maxHeartbeats 40000000 in
theorem rm7_1 (l : Launch) (Z : State) (a0 : Array Value) (hw : ∀ d ∈ tables_1, d.before a0 Z = true) (ws : List Jvm.Cond) (d0 : Addr) (u0 : Int32) (arr : Addr) (g0 : Nat → Int32) (h0 : Heap) (n0 : Nat) (Z0 : n0 ≤ h0.size) (g_d0 : n0 ≤ d0) (g_arr : n0 ≤ arr) (E_d0 : Exa Z h0 d0 "com/example/ulinzi/ulinzi/protocol/ProtocolWriter") (F_b : Fld Z h0 d0 "com/example/ulinzi/ulinzi/protocol/ProtocolWriter" "bytes" "[B" (.ref arr)) (F_s : Fld Z h0 d0 "com/example/ulinzi/ulinzi/protocol/ProtocolWriter" "size" "I" (.int (16 : Int32))) (B_arr : own_IA .byte Z h0 arr (256 : Int32) g0) (ne_arr : arr ≠ d0) (hu : u0 = (300 : Int32)) :
    MetFree l (⟨"com/example/ulinzi/ulinzi/protocol/ProtocolWriter", "ensure", "(I)V"⟩ : MethodName) (head1 (Jvm.Cond.code (⟨"com/example/ulinzi/ulinzi/protocol/ProtocolWriter", "ensure", "(I)V"⟩ : MethodName) prog_89_method_27_code 2 none :: ws) ({ frames := 2, cells := 1, slots := 512, locals := 33 } : Room)) (fun a U => a = #[(.ref d0), (.int u0)] ∧ Z.Warmed39 U.vm ∧ U.heap = h0) (fun _ _ _ _ _ => True) (fun _ U o U' => ∃ v L, o = .returned v ∧ Q7_1 Z d0 u0 arr g0 h0 n0 v U'.heap L ∧ FrameEnd U o U' L ({ frames := 2, cells := 1, slots := 512, locals := 33 } : Room).cells ({ frames := 2, cells := 1, slots := 512, locals := 33 } : Room).slots) := by
  refine MetFree.of_bodySF (plainFor_of_name pn_com_example_ulinzi_ulinzi_protocol_ProtocolWriter) hisR ?_
  intro p e s m args below meth c s₁ Bd hml0 hP hK
  obtain ⟨rfl, hZ, hh⟩ := hP
  have hx := Bd.exec
  have hby := Bd.bytes
  have hlk : meth.locks = false := Bd.notSynchronized
  have hml : c.maxLocals = 2 := hml0
  have hown : s.vm.findClass "com/example/ulinzi/ulinzi/protocol/ProtocolWriter" = some m.cls := findClass_of_methodNamed Bd.named
  have hnm := (name_of_methodNamed Bd.named Bd.method).1
  have X0 : Stand p l e ({ frames := 2, cells := 1, slots := 512, locals := 33 } : Room) s m #[(.ref d0), (.int u0)] below meth c s₁ [] 0 0 := Stand.of_body Bd
  have e0 : s₁.heap = h0 := by rw [← hh, Bd.state]; rfl
  have N0 := Fr.nil n0
  have K0 : Keep h0 h0 [d0] := Keep.refl h0 _
  show Wp p e below (Out s (Q7_1 Z d0 u0 arr g0 h0 n0) ({ frames := 2, cells := 1, slots := 512, locals := 33 } : Room).cells ({ frames := 2, cells := 1, slots := 512, locals := 33 } : Room).slots) (s₁.setTop (entryFrame m #[(.ref d0), (.int u0)] 2))
  rw [ef_7_00]
  show Wp p e below _ (s₁.setTop (mkF m 0 #[.val (.ref d0), .val (.int u0)] []))
  subst hu
  show Wp p e below _ (s₁.setTop (mkF m 0 #[.val (.ref d0), .val (.int (300 : Int32))] []))
  refine Wp.step (fun t k => XS.aloadN X0.here hx rfl (hb hby d7_0) rfl rfl k) ?_
  show Wp p e below _ (s₁.setTop (mkF m 1 #[.val (.ref d0), .val (.int (300 : Int32))] [(.ref d0)]))
  obtain ⟨T1, X1, e1, st1⟩ := getF X0 hx hZ hown (host := "") (Or.inl (hw _ (List.mem_of_getElem? (i := 17) rfl))) Via.refl e0 F_s (g := (mkF m 1 #[.val (.ref d0), .val (.int (300 : Int32))] [(.ref d0)])) rfl rfl (hb hby d7_1)
  refine Wp.step st1 ?_
  show Wp p e below _ (T1.setTop (mkF m 4 #[.val (.ref d0), .val (.int (300 : Int32))] [(.int (16 : Int32))]))
  refine Wp.step (fun t k => XS.iloadN X1.here hx rfl (hb hby d7_4) rfl k) ?_
  show Wp p e below _ (T1.setTop (mkF m 5 #[.val (.ref d0), .val (.int (300 : Int32))] [(.int (300 : Int32)), (.int (16 : Int32))]))
  refine Wp.step (fun t k => XS.iadd X1.here hx rfl (hb hby d7_5) rfl k) ?_
  show Wp p e below _ (T1.setTop (mkF m 6 #[.val (.ref d0), .val (.int (300 : Int32))] [(.int (316 : Int32))]))
  refine Wp.step (fun t k => XS.aloadN X1.here hx rfl (hb hby d7_6) rfl rfl k) ?_
  show Wp p e below _ (T1.setTop (mkF m 7 #[.val (.ref d0), .val (.int (300 : Int32))] [(.ref d0), (.int (316 : Int32))]))
  obtain ⟨T2, X2, e2, st2⟩ := getF X1 hx hZ hown (host := "") (Or.inl (hw _ (List.mem_of_getElem? (i := 10) rfl))) Via.refl e1 F_b (g := (mkF m 7 #[.val (.ref d0), .val (.int (300 : Int32))] [(.ref d0), (.int (316 : Int32))])) rfl rfl (hb hby d7_7)
  refine Wp.step st2 ?_
  show Wp p e below _ (T2.setTop (mkF m 10 #[.val (.ref d0), .val (.int (300 : Int32))] [(.ref arr), (.int (316 : Int32))]))
  obtain ⟨cl3, Ar3, Sz3, Nn3, -⟩ := id B_arr
  refine Wp.step (X2.arraylength hx (by rw [e2]; exact Ar3.1) (State.isArrayOf_alike hZ.alike Ar3.2.1) (g := (mkF m 10 #[.val (.ref d0), .val (.int (300 : Int32))] [(.ref arr), (.int (316 : Int32))])) rfl rfl (hb hby d7_10)) ?_
  rw [len_of Sz3 Nn3]
  show Wp p e below _ (T2.setTop (mkF m 11 #[.val (.ref d0), .val (.int (300 : Int32))] [(.int (256 : Int32)), (.int (316 : Int32))]))
  refine Wp.step (fun t k => XS.icmpNo X2.here hx rfl (hb hby d7_11) rfl (tlt (show (256 : Int32) < (316 : Int32) from (by decide))).2.2.2 k) ?_
  show Wp p e below _ (T2.setTop (mkF m 14 #[.val (.ref d0), .val (.int (300 : Int32))] []))
  refine Wp.step (fun t k => XS.aloadN X2.here hx rfl (hb hby d7_14) rfl rfl k) ?_
  show Wp p e below _ (T2.setTop (mkF m 15 #[.val (.ref d0), .val (.int (300 : Int32))] [(.ref d0)]))
  refine Wp.step (fun t k => XS.aloadN X2.here hx rfl (hb hby d7_15) rfl rfl k) ?_
  show Wp p e below _ (T2.setTop (mkF m 16 #[.val (.ref d0), .val (.int (300 : Int32))] [(.ref d0), (.ref d0)]))
  obtain ⟨T5, X5, e5, st5⟩ := getF X2 hx hZ hown (host := "") (Or.inl (hw _ (List.mem_of_getElem? (i := 10) rfl))) Via.refl e2 F_b (g := (mkF m 16 #[.val (.ref d0), .val (.int (300 : Int32))] [(.ref d0), (.ref d0)])) rfl rfl (hb hby d7_16)
  refine Wp.step st5 ?_
  show Wp p e below _ (T5.setTop (mkF m 19 #[.val (.ref d0), .val (.int (300 : Int32))] [(.ref arr), (.ref d0)]))
  refine Wp.step (fun t k => XS.aloadN X5.here hx rfl (hb hby d7_19) rfl rfl k) ?_
  show Wp p e below _ (T5.setTop (mkF m 20 #[.val (.ref d0), .val (.int (300 : Int32))] [(.ref d0), (.ref arr), (.ref d0)]))
  obtain ⟨T6, X6, e6, st6⟩ := getF X5 hx hZ hown (host := "") (Or.inl (hw _ (List.mem_of_getElem? (i := 10) rfl))) Via.refl e5 F_b (g := (mkF m 20 #[.val (.ref d0), .val (.int (300 : Int32))] [(.ref d0), (.ref arr), (.ref d0)])) rfl rfl (hb hby d7_20)
  refine Wp.step st6 ?_
  show Wp p e below _ (T6.setTop (mkF m 23 #[.val (.ref d0), .val (.int (300 : Int32))] [(.ref arr), (.ref arr), (.ref d0)]))
  obtain ⟨cl7, Ar7, Sz7, Nn7, -⟩ := id B_arr
  refine Wp.step (X6.arraylength hx (by rw [e6]; exact Ar7.1) (State.isArrayOf_alike hZ.alike Ar7.2.1) (g := (mkF m 23 #[.val (.ref d0), .val (.int (300 : Int32))] [(.ref arr), (.ref arr), (.ref d0)])) rfl rfl (hb hby d7_23)) ?_
  rw [len_of Sz7 Nn7]
  show Wp p e below _ (T6.setTop (mkF m 24 #[.val (.ref d0), .val (.int (300 : Int32))] [(.int (256 : Int32)), (.ref arr), (.ref d0)]))
  refine Wp.step (fun t k => XS.iconst X6.here hx rfl (hb hby d7_24) k) ?_
  show Wp p e below _ (T6.setTop (mkF m 25 #[.val (.ref d0), .val (.int (300 : Int32))] [(.int (2 : Int32)), (.int (256 : Int32)), (.ref arr), (.ref d0)]))
  refine Wp.step (fun t k => XS.imul X6.here hx rfl (hb hby d7_25) rfl k) ?_
  show Wp p e below _ (T6.setTop (mkF m 26 #[.val (.ref d0), .val (.int (300 : Int32))] [(.int (512 : Int32)), (.ref arr), (.ref d0)]))
  refine Wp.step (fun t k => XS.aloadN X6.here hx rfl (hb hby d7_26) rfl rfl k) ?_
  show Wp p e below _ (T6.setTop (mkF m 27 #[.val (.ref d0), .val (.int (300 : Int32))] [(.ref d0), (.int (512 : Int32)), (.ref arr), (.ref d0)]))
  obtain ⟨T8, X8, e8, st8⟩ := getF X6 hx hZ hown (host := "") (Or.inl (hw _ (List.mem_of_getElem? (i := 17) rfl))) Via.refl e6 F_s (g := (mkF m 27 #[.val (.ref d0), .val (.int (300 : Int32))] [(.ref d0), (.int (512 : Int32)), (.ref arr), (.ref d0)])) rfl rfl (hb hby d7_27)
  refine Wp.step st8 ?_
  show Wp p e below _ (T8.setTop (mkF m 30 #[.val (.ref d0), .val (.int (300 : Int32))] [(.int (16 : Int32)), (.int (512 : Int32)), (.ref arr), (.ref d0)]))
  refine Wp.step (fun t k => XS.iloadN X8.here hx rfl (hb hby d7_30) rfl k) ?_
  show Wp p e below _ (T8.setTop (mkF m 31 #[.val (.ref d0), .val (.int (300 : Int32))] [(.int (300 : Int32)), (.int (16 : Int32)), (.int (512 : Int32)), (.ref arr), (.ref d0)]))
  refine Wp.step (fun t k => XS.iadd X8.here hx rfl (hb hby d7_31) rfl k) ?_
  show Wp p e below _ (T8.setTop (mkF m 32 #[.val (.ref d0), .val (.int (300 : Int32))] [(.int (316 : Int32)), (.int (512 : Int32)), (.ref arr), (.ref d0)]))
  obtain ⟨_, _, ⟨T9, L9, k9, n9⟩, -, X9, ⟨Lc9, hQ9, l9, y9, z9⟩, st9⟩ := Jvm.LawKit.callS X8 hx (y := (⟨"java/lang/Math", "max", "(II)I"⟩ : MethodName)) hown (mvT hZ (hw _ (List.mem_of_getElem? (i := 69) rfl))) (mvT hZ (hw _ (List.mem_of_getElem? (i := 70) rfl))) (mvT hZ (hw _ (List.mem_of_getElem? (i := 25) rfl))) (mvT hZ (hw _ (List.mem_of_getElem? (i := 71) rfl))) (by decide) (backOf (W := 2) (rm14 l Z a0 hw [] (512 : Int32) (316 : Int32)  h0 n0 (Nat.le_trans Z0 K0.1) ) hZ (hw _ (List.mem_of_getElem? (i := 71) rfl)) (hw _ (List.mem_of_getElem? (i := 25) rfl)) (by decide) (by decide)) (g := (mkF m 32 #[.val (.ref d0), .val (.int (300 : Int32))] [(.int (316 : Int32)), (.int (512 : Int32)), (.ref arr), (.ref d0)])) rfl (by rw [hml]; rfl) (argsL := [(.int (512 : Int32)), (.int (316 : Int32))]) (rest := [(.ref arr), (.ref d0)]) (lenOf pd_28II29I rfl) rfl (by show 2 * 0 + _ ≤ _; exact Nat.le_of_eq rfl) (hb hby d7_32) (fun _ _ => ⟨rfl, e8, (by decide : 0 + 0 ≤ _), (by decide : 0 + 0 ≤ _)⟩)
  dsimp only [Pt.U, Pt.locs, Pt.cells, Pt.slots] at X9 l9 y9 z9 st9 hQ9
  subst l9 y9 z9
  obtain ⟨rfl, N9q, e9⟩ := hQ9
  have N9 := Fr.app N0 N9q
  refine Wp.step st9 ?_
  show Wp p e below _ (T9.setTop (mkF m 35 #[.val (.ref d0), .val (.int (300 : Int32))] [(.int (512 : Int32)), (.ref arr), (.ref d0)]))
  obtain ⟨_, _, ⟨T10, L10, k10, n10⟩, -, X10, ⟨Lc10, hQ10, l10, y10, z10⟩, st10⟩ := Jvm.LawKit.callS X9 hx (y := (⟨"java/util/Arrays", "copyOf", "([BI)[B"⟩ : MethodName)) hown (mvT hZ (hw _ (List.mem_of_getElem? (i := 19) rfl))) (mvT hZ (hw _ (List.mem_of_getElem? (i := 20) rfl))) (mvT hZ (hw _ (List.mem_of_getElem? (i := 21) rfl))) (mvT hZ (hw _ (List.mem_of_getElem? (i := 22) rfl))) (by decide) (backOf (W := 1) (rm4 l Z a0 hw [] arr (512 : Int32) (256 : Int32) g0 h0 n0 (Nat.le_trans Z0 K0.1) B_arr (by decide) (by decide) (by decide) (by decide) (by decide) (by decide)) hZ (hw _ (List.mem_of_getElem? (i := 22) rfl)) (hw _ (List.mem_of_getElem? (i := 21) rfl)) (by decide) (by decide)) (g := (mkF m 35 #[.val (.ref d0), .val (.int (300 : Int32))] [(.int (512 : Int32)), (.ref arr), (.ref d0)])) rfl (by rw [hml]; rfl) (argsL := [(.ref arr), (.int (512 : Int32))]) (rest := [(.ref d0)]) (lenOf pd_285bBI295bB rfl) rfl (by show 2 * 0 + _ ≤ _; exact Nat.le_of_eq rfl) (hb hby d7_35) (fun _ _ => ⟨rfl, e9, (by decide : 0 + 1 ≤ _), (by decide : 0 + 512 ≤ _)⟩)
  dsimp only [Pt.U, Pt.locs, Pt.cells, Pt.slots] at X10 l10 y10 z10 st10 hQ10
  subst l10 y10 z10
  obtain ⟨h10, e10⟩ : ∃ z, T10.heap = z := ⟨_, rfl⟩
  rw [e10] at hQ10
  obtain ⟨r10, rfl, N10q, Kc10, szr10, g_r10, B_r10⟩ := hQ10
  have N10 := Fr.app N9 N10q
  have ne_arr_r10 : arr ≠ r10 := Nat.ne_of_lt (Nat.lt_of_lt_of_le B_arr.lt szr10)
  have ne_d0_r10 : d0 ≠ r10 := Nat.ne_of_lt (Nat.lt_of_lt_of_le E_d0.lt szr10)
  have c11 := E_d0.keep Kc10
  have c12 := F_b.keep Kc10 nin0
  have c13 := F_s.keep Kc10 nin0
  have B14 := B_arr.keep Kc10 nin0
  have sz_r10 : h0.size ≤ r10 := Nat.le_trans K0.1 szr10
  have K10 := K0.trans Kc10 all0
  refine Wp.step st10 ?_
  show Wp p e below _ (T10.setTop (mkF m 38 #[.val (.ref d0), .val (.int (300 : Int32))] [(.ref r10), (.ref d0)]))
  obtain ⟨T15, h15, X15, e15, W15, st15⟩ := putF X10 hx hZ hown (host := "") (Or.inl (hw _ (List.mem_of_getElem? (i := 10) rfl))) Via.refl e10 c12 c11 (Or.inl (hw _ (List.mem_of_getElem? (i := 11) rfl))) (hw _ (List.mem_of_getElem? (i := 2) rfl)) (ty := (.array .byte)) (by decide) rfl rfl (g := (mkF m 38 #[.val (.ref d0), .val (.int (300 : Int32))] [(.ref r10), (.ref d0)])) rfl rfl (hb hby d7_38)
  have c16 := c11.wr W15
  have c17 := c13.other W15 (Or.inr (slot_ne (Or.inl (hw _ (List.mem_of_getElem? (i := 18) rfl))) (Or.inl (hw _ (List.mem_of_getElem? (i := 11) rfl))) (by decide) (t := .int) (t' := (.array .byte)) (by decide) (by decide)))
  have B18 := B14.other W15 ne_arr
  have B19 := B_r10.other W15 (Ne.symm ne_d0_r10)
  have c20 := c12.same W15
  have K21 := K10.wr W15 (Or.inl (List.mem_of_getElem? (i := 0) rfl))
  have N15 := Fr.snoc X15 N10 g_d0
  refine Wp.step st15 ?_
  show Wp p e below _ (T15.setTop (mkF m 41 #[.val (.ref d0), .val (.int (300 : Int32))] []))
  refine Wp.retV X15 hx Bd.returns (hb hby d7_41) hlk ?_ (by decide) (by decide)
  show Q7_1 Z d0 (300 : Int32) arr g0 h0 n0 none T15.heap _
  rw [e15]
  exact ⟨rfl, N15, K21, c16, r10, sz_r10, g_r10, c20, c17, B19⟩
theorem d13_0 : decode prog_89_method_26_code 0 = .ok (.aload_n 0, 1) := by decide +kernel
theorem d13_1 : decode prog_89_method_26_code 1 = .ok (.aload_n 1, 1) := by decide +kernel
theorem d13_2 : decode prog_89_method_26_code 2 = .ok (.arraylength, 1) := by decide +kernel
theorem d13_3 : decode prog_89_method_26_code 3 = .ok (.invokevirtual 13, 3) := by decide +kernel
theorem d13_6 : decode prog_89_method_26_code 6 = .ok (.aload_n 1, 1) := by decide +kernel
theorem d13_7 : decode prog_89_method_26_code 7 = .ok (.iconst 0, 1) := by decide +kernel
theorem d13_8 : decode prog_89_method_26_code 8 = .ok (.aload_n 0, 1) := by decide +kernel
theorem d13_9 : decode prog_89_method_26_code 9 = .ok (.getfield 7, 3) := by decide +kernel
theorem d13_12 : decode prog_89_method_26_code 12 = .ok (.aload_n 0, 1) := by decide +kernel
theorem d13_13 : decode prog_89_method_26_code 13 = .ok (.getfield 17, 3) := by decide +kernel
theorem d13_16 : decode prog_89_method_26_code 16 = .ok (.aload_n 1, 1) := by decide +kernel
theorem d13_17 : decode prog_89_method_26_code 17 = .ok (.arraylength, 1) := by decide +kernel
theorem d13_18 : decode prog_89_method_26_code 18 = .ok (.invokestatic 129, 3) := by decide +kernel
theorem d13_21 : decode prog_89_method_26_code 21 = .ok (.aload_n 0, 1) := by decide +kernel
theorem d13_22 : decode prog_89_method_26_code 22 = .ok (.dup, 1) := by decide +kernel
theorem d13_23 : decode prog_89_method_26_code 23 = .ok (.getfield 17, 3) := by decide +kernel
theorem d13_26 : decode prog_89_method_26_code 26 = .ok (.aload_n 1, 1) := by decide +kernel
theorem d13_27 : decode prog_89_method_26_code 27 = .ok (.arraylength, 1) := by decide +kernel
theorem d13_28 : decode prog_89_method_26_code 28 = .ok (.iadd, 1) := by decide +kernel
theorem d13_29 : decode prog_89_method_26_code 29 = .ok (.putfield 17, 3) := by decide +kernel
theorem d13_32 : decode prog_89_method_26_code 32 = .ok (.aload_n 0, 1) := by decide +kernel
theorem d13_33 : decode prog_89_method_26_code 33 = .ok (.areturn, 1) := by decide +kernel
theorem ef_13_00 (m : MethodId) (x0 : Addr) (x1 : Addr) : entryFrame m #[(.ref x0), (.ref x1)] 2 = mkF m 0 #[.val (.ref x0), .val (.ref x1)] [] := by first | (simp [entryFrame, mkF, argsToLocals, Value.category]; done) | rfl
def Q13 (Z : State) (d0 : Addr) (d1 : Addr) (arr : Addr) (g0 : Nat → Int32) (gb : Nat → Int32) (h0 : Heap) (n0 : Nat) (v : Option Value) (h : Heap) (L : List Loc) : Prop := v = some (.ref d0) ∧ Fr n0 L ∧ Keep h0 h [d0] ∧ Exa Z h d0 "com/example/ulinzi/ulinzi/protocol/ProtocolWriter" ∧ ∃ arr : Addr, h0.size ≤ arr ∧ n0 ≤ arr ∧ Fld Z h d0 "com/example/ulinzi/ulinzi/protocol/ProtocolWriter" "bytes" "[B" (.ref arr) ∧ Fld Z h d0 "com/example/ulinzi/ulinzi/protocol/ProtocolWriter" "size" "I" (.int (316 : Int32)) ∧ own_IA .byte Z h arr (512 : Int32) (own_copy gb (own_copy g0 (fun _ => (0 : Int32)) (0 : Int32).toNatClampNeg (0 : Int32).toNatClampNeg (own_min (256 : Int32) (512 : Int32)).toNatClampNeg) (0 : Int32).toNatClampNeg (16 : Int32).toNatClampNeg (300 : Int32).toNatClampNeg)
set_option maxRecDepth 65536 in
set_option maxHeartbeats 40000000 in
theorem rm13 (l : Launch) (Z : State) (a0 : Array Value) (hw : ∀ d ∈ tables_1, d.before a0 Z = true) (ws : List Jvm.Cond) (d0 : Addr) (d1 : Addr) (arr : Addr) (g0 : Nat → Int32) (gb : Nat → Int32) (h0 : Heap) (n0 : Nat) (Z0 : n0 ≤ h0.size) (g_d0 : n0 ≤ d0) (g_arr : n0 ≤ arr) (E_d0 : Exa Z h0 d0 "com/example/ulinzi/ulinzi/protocol/ProtocolWriter") (F_b : Fld Z h0 d0 "com/example/ulinzi/ulinzi/protocol/ProtocolWriter" "bytes" "[B" (.ref arr)) (F_s : Fld Z h0 d0 "com/example/ulinzi/ulinzi/protocol/ProtocolWriter" "size" "I" (.int (16 : Int32))) (B_arr : own_IA .byte Z h0 arr (256 : Int32) g0) (ne_arr : arr ≠ d0) (B_v : own_IA .byte Z h0 d1 (300 : Int32) gb) (ne_d1 : d1 ≠ d0) (ne_d1a : d1 ≠ arr) :
    MetFree l (⟨"com/example/ulinzi/ulinzi/protocol/ProtocolWriter", "writeRaw", "([B)Lcom/example/ulinzi/ulinzi/protocol/ProtocolWriter;"⟩ : MethodName) (head1 (Jvm.Cond.code (⟨"com/example/ulinzi/ulinzi/protocol/ProtocolWriter", "writeRaw", "([B)Lcom/example/ulinzi/ulinzi/protocol/ProtocolWriter;"⟩ : MethodName) prog_89_method_26_code 2 (some (.object "com/example/ulinzi/ulinzi/protocol/ProtocolWriter")) :: ws) ({ frames := 3, cells := 1, slots := 512, locals := 46 } : Room)) (fun a U => a = #[(.ref d0), (.ref d1)] ∧ Z.Warmed39 U.vm ∧ U.heap = h0) (fun _ _ _ _ _ => True) (fun _ U o U' => ∃ v L, o = .returned v ∧ Q13 Z d0 d1 arr g0 gb h0 n0 v U'.heap L ∧ FrameEnd U o U' L ({ frames := 3, cells := 1, slots := 512, locals := 46 } : Room).cells ({ frames := 3, cells := 1, slots := 512, locals := 46 } : Room).slots) := by
  refine MetFree.of_bodySF (plainFor_of_name pn_com_example_ulinzi_ulinzi_protocol_ProtocolWriter) hisR ?_
  intro p e s m args below meth c s₁ Bd hml0 hP hK
  obtain ⟨rfl, hZ, hh⟩ := hP
  have hx := Bd.exec
  have hby := Bd.bytes
  have hlk : meth.locks = false := Bd.notSynchronized
  have hml : c.maxLocals = 2 := hml0
  have hown : s.vm.findClass "com/example/ulinzi/ulinzi/protocol/ProtocolWriter" = some m.cls := findClass_of_methodNamed Bd.named
  have hnm := (name_of_methodNamed Bd.named Bd.method).1
  have X0 : Stand p l e ({ frames := 3, cells := 1, slots := 512, locals := 46 } : Room) s m #[(.ref d0), (.ref d1)] below meth c s₁ [] 0 0 := Stand.of_body Bd
  have e0 : s₁.heap = h0 := by rw [← hh, Bd.state]; rfl
  have N0 := Fr.nil n0
  have K0 : Keep h0 h0 [d0] := Keep.refl h0 _
  show Wp p e below (Out s (Q13 Z d0 d1 arr g0 gb h0 n0) ({ frames := 3, cells := 1, slots := 512, locals := 46 } : Room).cells ({ frames := 3, cells := 1, slots := 512, locals := 46 } : Room).slots) (s₁.setTop (entryFrame m #[(.ref d0), (.ref d1)] 2))
  rw [ef_13_00]
  show Wp p e below _ (s₁.setTop (mkF m 0 #[.val (.ref d0), .val (.ref d1)] []))
  refine Wp.step (fun t k => XS.aloadN X0.here hx rfl (hb hby d13_0) rfl rfl k) ?_
  show Wp p e below _ (s₁.setTop (mkF m 1 #[.val (.ref d0), .val (.ref d1)] [(.ref d0)]))
  refine Wp.step (fun t k => XS.aloadN X0.here hx rfl (hb hby d13_1) rfl rfl k) ?_
  show Wp p e below _ (s₁.setTop (mkF m 2 #[.val (.ref d0), .val (.ref d1)] [(.ref d1), (.ref d0)]))
  obtain ⟨cl1, Ar1, Sz1, Nn1, -⟩ := id B_v
  refine Wp.step (X0.arraylength hx (by rw [e0]; exact Ar1.1) (State.isArrayOf_alike hZ.alike Ar1.2.1) (g := (mkF m 2 #[.val (.ref d0), .val (.ref d1)] [(.ref d1), (.ref d0)])) rfl rfl (hb hby d13_2)) ?_
  rw [len_of Sz1 Nn1]
  show Wp p e below _ (s₁.setTop (mkF m 3 #[.val (.ref d0), .val (.ref d1)] [(.int (300 : Int32)), (.ref d0)]))
  obtain ⟨cq2, q2, q2'⟩ := E_d0.cell
  obtain ⟨_, _, ⟨T2, L2, k2, n2⟩, -, X2, ⟨Lc2, hQ2, l2, y2, z2⟩, st2⟩ := X0.privateBack hx (y := (⟨"com/example/ulinzi/ulinzi/protocol/ProtocolWriter", "ensure", "(I)V"⟩ : MethodName)) hown (mvT hZ (hw _ (List.mem_of_getElem? (i := 36) rfl))) (mvT hZ (hw _ (List.mem_of_getElem? (i := 37) rfl))) (own_selP hZ (hw _ (List.mem_of_getElem? (i := 2) rfl)) (hw _ (List.mem_of_getElem? (i := 38) rfl)) (hw _ (List.mem_of_getElem? (i := 37) rfl)) (by decide)) (Cond.privateMethod_at (mvP hZ (hw _ (List.mem_of_getElem? (i := 38) rfl)) (args := #[]))) (mvT hZ (hw _ (List.mem_of_getElem? (i := 39) rfl))) (by decide) (backOf (W := 0) (rm7_1 l Z a0 hw [] d0 (300 : Int32) arr g0 h0 n0 (Nat.le_trans Z0 K0.1) g_d0 g_arr E_d0 F_b F_s B_arr ne_arr rfl) hZ (hw _ (List.mem_of_getElem? (i := 39) rfl)) (hw _ (List.mem_of_getElem? (i := 3) rfl)) (by decide) (by decide)) (g := (mkF m 3 #[.val (.ref d0), .val (.ref d1)] [(.int (300 : Int32)), (.ref d0)])) rfl (by rw [hml]; rfl) (Steps.refl _) (a := d0) (by rw [e0]; exact q2) q2' (argsL := [(.int (300 : Int32))]) (rest := []) (lenOf pd_28I29V rfl) rfl (by show 2 * 0 + _ ≤ _; exact Nat.le_of_eq rfl) (hb hby d13_3) (fun _ _ => ⟨rfl, e0, (by decide : 0 + 1 ≤ _), (by decide : 0 + 512 ≤ _)⟩)
  dsimp only [Pt.U, Pt.locs, Pt.cells, Pt.slots] at X2 l2 y2 z2 st2 hQ2
  subst l2 y2 z2
  obtain ⟨h2, e2⟩ : ∃ z, T2.heap = z := ⟨_, rfl⟩
  rw [e2] at hQ2
  obtain ⟨rfl, N2q, Kc2, E_2, n2arr, sa2, g_n2arr, Fb2, Fs2, B2⟩ := hQ2
  have N2 := Fr.app N0 N2q
  have ne_arr_n2arr : arr ≠ n2arr := Nat.ne_of_lt (Nat.lt_of_lt_of_le B_arr.lt sa2)
  have ne_d0_n2arr : d0 ≠ n2arr := Nat.ne_of_lt (Nat.lt_of_lt_of_le E_d0.lt sa2)
  have ne_d1_n2arr : d1 ≠ n2arr := Nat.ne_of_lt (Nat.lt_of_lt_of_le B_v.lt sa2)
  have sz_n2arr : h0.size ≤ n2arr := Nat.le_trans K0.1 sa2
  have c3 := E_d0.keep Kc2
  have B4 := B_arr.keep Kc2 (ninS ne_arr nin0)
  have B5 := B_v.keep Kc2 (ninS ne_d1 nin0)
  have K2 := K0.trans Kc2 (allS (Or.inl (List.mem_of_getElem? (i := 0) rfl)) all0)
  refine Wp.go st2 ?_
  show Wp p e below _ (T2.setTop (mkF m 6 #[.val (.ref d0), .val (.ref d1)] []))
  refine Wp.step (fun t k => XS.aloadN X2.here hx rfl (hb hby d13_6) rfl rfl k) ?_
  show Wp p e below _ (T2.setTop (mkF m 7 #[.val (.ref d0), .val (.ref d1)] [(.ref d1)]))
  refine Wp.step (fun t k => XS.iconst X2.here hx rfl (hb hby d13_7) k) ?_
  show Wp p e below _ (T2.setTop (mkF m 8 #[.val (.ref d0), .val (.ref d1)] [(.int (0 : Int32)), (.ref d1)]))
  refine Wp.step (fun t k => XS.aloadN X2.here hx rfl (hb hby d13_8) rfl rfl k) ?_
  show Wp p e below _ (T2.setTop (mkF m 9 #[.val (.ref d0), .val (.ref d1)] [(.ref d0), (.int (0 : Int32)), (.ref d1)]))
  obtain ⟨T6, X6, e6, st6⟩ := getF X2 hx hZ hown (host := "") (Or.inl (hw _ (List.mem_of_getElem? (i := 10) rfl))) Via.refl e2 Fb2 (g := (mkF m 9 #[.val (.ref d0), .val (.ref d1)] [(.ref d0), (.int (0 : Int32)), (.ref d1)])) rfl rfl (hb hby d13_9)
  refine Wp.step st6 ?_
  show Wp p e below _ (T6.setTop (mkF m 12 #[.val (.ref d0), .val (.ref d1)] [(.ref n2arr), (.int (0 : Int32)), (.ref d1)]))
  refine Wp.step (fun t k => XS.aloadN X6.here hx rfl (hb hby d13_12) rfl rfl k) ?_
  show Wp p e below _ (T6.setTop (mkF m 13 #[.val (.ref d0), .val (.ref d1)] [(.ref d0), (.ref n2arr), (.int (0 : Int32)), (.ref d1)]))
  obtain ⟨T7, X7, e7, st7⟩ := getF X6 hx hZ hown (host := "") (Or.inl (hw _ (List.mem_of_getElem? (i := 17) rfl))) Via.refl e6 Fs2 (g := (mkF m 13 #[.val (.ref d0), .val (.ref d1)] [(.ref d0), (.ref n2arr), (.int (0 : Int32)), (.ref d1)])) rfl rfl (hb hby d13_13)
  refine Wp.step st7 ?_
  show Wp p e below _ (T7.setTop (mkF m 16 #[.val (.ref d0), .val (.ref d1)] [(.int (16 : Int32)), (.ref n2arr), (.int (0 : Int32)), (.ref d1)]))
  refine Wp.step (fun t k => XS.aloadN X7.here hx rfl (hb hby d13_16) rfl rfl k) ?_
  show Wp p e below _ (T7.setTop (mkF m 17 #[.val (.ref d0), .val (.ref d1)] [(.ref d1), (.int (16 : Int32)), (.ref n2arr), (.int (0 : Int32)), (.ref d1)]))
  obtain ⟨cl8, Ar8, Sz8, Nn8, -⟩ := id B5
  refine Wp.step (X7.arraylength hx (by rw [e7]; exact Ar8.1) (State.isArrayOf_alike hZ.alike Ar8.2.1) (g := (mkF m 17 #[.val (.ref d0), .val (.ref d1)] [(.ref d1), (.int (16 : Int32)), (.ref n2arr), (.int (0 : Int32)), (.ref d1)])) rfl rfl (hb hby d13_17)) ?_
  rw [len_of Sz8 Nn8]
  show Wp p e below _ (T7.setTop (mkF m 18 #[.val (.ref d0), .val (.ref d1)] [(.int (300 : Int32)), (.int (16 : Int32)), (.ref n2arr), (.int (0 : Int32)), (.ref d1)]))
  obtain ⟨T9, h9, L9, X9, e9, N9, Kc9, B9, st9⟩ := own_cpI X7 hx hZ hown (hw _ (List.mem_of_getElem? (i := 72) rfl)) (hw _ (List.mem_of_getElem? (i := 30) rfl)) (hw _ (List.mem_of_getElem? (i := 28) rfl)) (hw _ (List.mem_of_getElem? (i := 29) rfl)) e7 B5 B2 rfl (by decide) (by decide) (by decide) (by decide) (by decide) N2 g_n2arr (g := (mkF m 18 #[.val (.ref d0), .val (.ref d1)] [(.int (300 : Int32)), (.int (16 : Int32)), (.ref n2arr), (.int (0 : Int32)), (.ref d1)])) rfl (by rw [hml]; rfl) rfl (hb hby d13_18) (by decide) (W := 0) (by show 2 * 0 + _ ≤ _; exact Nat.le_of_eq rfl) (by decide)
  have c10 := E_2.keep Kc9
  have B11 := B4.keep Kc9 (ninS ne_arr_n2arr nin0)
  have B12 := B5.keep Kc9 (ninS ne_d1_n2arr nin0)
  have c13 := Fb2.keep Kc9 (ninS ne_d0_n2arr nin0)
  have c14 := Fs2.keep Kc9 (ninS ne_d0_n2arr nin0)
  have K9 := K2.trans Kc9 (allS (Or.inr sz_n2arr) all0)
  refine Wp.step st9 ?_
  show Wp p e below _ (T9.setTop (mkF m 21 #[.val (.ref d0), .val (.ref d1)] []))
  refine Wp.step (fun t k => XS.aloadN X9.here hx rfl (hb hby d13_21) rfl rfl k) ?_
  show Wp p e below _ (T9.setTop (mkF m 22 #[.val (.ref d0), .val (.ref d1)] [(.ref d0)]))
  refine Wp.step (fun t k => XS.dup X9.here hx rfl (hb hby d13_22) rfl rfl k) ?_
  show Wp p e below _ (T9.setTop (mkF m 23 #[.val (.ref d0), .val (.ref d1)] [(.ref d0), (.ref d0)]))
  obtain ⟨T15, X15, e15, st15⟩ := getF X9 hx hZ hown (host := "") (Or.inl (hw _ (List.mem_of_getElem? (i := 17) rfl))) Via.refl e9 c14 (g := (mkF m 23 #[.val (.ref d0), .val (.ref d1)] [(.ref d0), (.ref d0)])) rfl rfl (hb hby d13_23)
  refine Wp.step st15 ?_
  show Wp p e below _ (T15.setTop (mkF m 26 #[.val (.ref d0), .val (.ref d1)] [(.int (16 : Int32)), (.ref d0)]))
  refine Wp.step (fun t k => XS.aloadN X15.here hx rfl (hb hby d13_26) rfl rfl k) ?_
  show Wp p e below _ (T15.setTop (mkF m 27 #[.val (.ref d0), .val (.ref d1)] [(.ref d1), (.int (16 : Int32)), (.ref d0)]))
  obtain ⟨cl16, Ar16, Sz16, Nn16, -⟩ := id B12
  refine Wp.step (X15.arraylength hx (by rw [e15]; exact Ar16.1) (State.isArrayOf_alike hZ.alike Ar16.2.1) (g := (mkF m 27 #[.val (.ref d0), .val (.ref d1)] [(.ref d1), (.int (16 : Int32)), (.ref d0)])) rfl rfl (hb hby d13_27)) ?_
  rw [len_of Sz16 Nn16]
  show Wp p e below _ (T15.setTop (mkF m 28 #[.val (.ref d0), .val (.ref d1)] [(.int (300 : Int32)), (.int (16 : Int32)), (.ref d0)]))
  refine Wp.step (fun t k => XS.iadd X15.here hx rfl (hb hby d13_28) rfl k) ?_
  show Wp p e below _ (T15.setTop (mkF m 29 #[.val (.ref d0), .val (.ref d1)] [(.int (316 : Int32)), (.ref d0)]))
  obtain ⟨T17, h17, X17, e17, W17, st17⟩ := putF X15 hx hZ hown (host := "") (Or.inl (hw _ (List.mem_of_getElem? (i := 17) rfl))) Via.refl e15 c14 c10 (Or.inl (hw _ (List.mem_of_getElem? (i := 18) rfl))) (hw _ (List.mem_of_getElem? (i := 2) rfl)) (ty := .int) (by decide) rfl rfl (g := (mkF m 29 #[.val (.ref d0), .val (.ref d1)] [(.int (316 : Int32)), (.ref d0)])) rfl rfl (hb hby d13_29)
  have c18 := c10.wr W17
  have B19 := B11.other W17 ne_arr
  have B20 := B12.other W17 ne_d1
  have c21 := c13.other W17 (Or.inr (slot_ne (Or.inl (hw _ (List.mem_of_getElem? (i := 11) rfl))) (Or.inl (hw _ (List.mem_of_getElem? (i := 18) rfl))) (by decide) (t := (.array .byte)) (t' := .int) (by decide) (by decide)))
  have B22 := B9.other W17 (Ne.symm ne_d0_n2arr)
  have c23 := c14.same W17
  have K24 := K9.wr W17 (Or.inl (List.mem_of_getElem? (i := 0) rfl))
  have N17 := Fr.snoc X17 N9 g_d0
  refine Wp.step st17 ?_
  show Wp p e below _ (T17.setTop (mkF m 32 #[.val (.ref d0), .val (.ref d1)] []))
  refine Wp.step (fun t k => XS.aloadN X17.here hx rfl (hb hby d13_32) rfl rfl k) ?_
  show Wp p e below _ (T17.setTop (mkF m 33 #[.val (.ref d0), .val (.ref d1)] [(.ref d0)]))
  refine Wp.retA X17 hx Bd.returns rfl (hb hby d13_33) hlk ?_ (by decide) (by decide)
  show Q13 Z d0 d1 arr g0 gb h0 n0 (some (.ref d0)) T17.heap _
  rw [e17]
  exact ⟨rfl, N17, K24, c18, n2arr, sz_n2arr, g_n2arr, c21, c23, B22⟩
theorem pd_285bB29Lcom2fexample2fulinzi2fulinzi2fprotocol2fProtocolWriter3b : parseMethodDescriptor "([B)Lcom/example/ulinzi/ulinzi/protocol/ProtocolWriter;" = some ⟨[(.array .byte)], some (.object "com/example/ulinzi/ulinzi/protocol/ProtocolWriter")⟩ := by decide +kernel
theorem d12_0 : decode prog_89_method_16_code 0 = .ok (.aload_n 0, 1) := by decide +kernel
theorem d12_1 : decode prog_89_method_16_code 1 = .ok (.aload_n 1, 1) := by decide +kernel
theorem d12_2 : decode prog_89_method_16_code 2 = .ok (.arraylength, 1) := by decide +kernel
theorem d12_3 : decode prog_89_method_16_code 3 = .ok (.invokevirtual 21, 3) := by decide +kernel
theorem d12_6 : decode prog_89_method_16_code 6 = .ok (.pop, 1) := by decide +kernel
theorem d12_7 : decode prog_89_method_16_code 7 = .ok (.aload_n 0, 1) := by decide +kernel
theorem d12_8 : decode prog_89_method_16_code 8 = .ok (.aload_n 1, 1) := by decide +kernel
theorem d12_9 : decode prog_89_method_16_code 9 = .ok (.invokevirtual 64, 3) := by decide +kernel
theorem d12_12 : decode prog_89_method_16_code 12 = .ok (.areturn, 1) := by decide +kernel
theorem ef_12_00 (m : MethodId) (x0 : Addr) (x1 : Addr) : entryFrame m #[(.ref x0), (.ref x1)] 2 = mkF m 0 #[.val (.ref x0), .val (.ref x1)] [] := by first | (simp [entryFrame, mkF, argsToLocals, Value.category]; done) | rfl
def Q12 (Z : State) (d0 : Addr) (d1 : Addr) (arr : Addr) (g0 : Nat → Int32) (gb : Nat → Int32) (h0 : Heap) (n0 : Nat) (v : Option Value) (h : Heap) (L : List Loc) : Prop := v = some (.ref d0) ∧ Fr n0 L ∧ Keep h0 h [d0, arr] ∧ Exa Z h d0 "com/example/ulinzi/ulinzi/protocol/ProtocolWriter" ∧ ∃ ar2 : Addr, h0.size ≤ ar2 ∧ n0 ≤ ar2 ∧ Fld Z h d0 "com/example/ulinzi/ulinzi/protocol/ProtocolWriter" "bytes" "[B" (.ref ar2) ∧ Fld Z h d0 "com/example/ulinzi/ulinzi/protocol/ProtocolWriter" "size" "I" (.int (316 : Int32)) ∧ own_IA .byte Z h ar2 (512 : Int32) (own_copy gb (own_copy (own_w4 g0 (12 : Int32) (300 : Int32)) (fun _ => (0 : Int32)) (0 : Int32).toNatClampNeg (0 : Int32).toNatClampNeg (own_min (256 : Int32) (512 : Int32)).toNatClampNeg) (0 : Int32).toNatClampNeg (16 : Int32).toNatClampNeg (300 : Int32).toNatClampNeg)
set_option maxRecDepth 65536 in
set_option maxHeartbeats 40000000 in
theorem rm12 (l : Launch) (Z : State) (a0 : Array Value) (hw : ∀ d ∈ tables_1, d.before a0 Z = true) (ws : List Jvm.Cond) (d0 : Addr) (d1 : Addr) (arr : Addr) (g0 : Nat → Int32) (gb : Nat → Int32) (h0 : Heap) (n0 : Nat) (Z0 : n0 ≤ h0.size) (g_d0 : n0 ≤ d0) (g_arr : n0 ≤ arr) (E_d0 : Exa Z h0 d0 "com/example/ulinzi/ulinzi/protocol/ProtocolWriter") (F_b : Fld Z h0 d0 "com/example/ulinzi/ulinzi/protocol/ProtocolWriter" "bytes" "[B" (.ref arr)) (F_s : Fld Z h0 d0 "com/example/ulinzi/ulinzi/protocol/ProtocolWriter" "size" "I" (.int (12 : Int32))) (B_arr : own_IA .byte Z h0 arr (256 : Int32) g0) (ne_arr : arr ≠ d0) (B_v : own_IA .byte Z h0 d1 (300 : Int32) gb) (ne_d1 : d1 ≠ d0) (ne_d1a : d1 ≠ arr) :
    MetFree l (⟨"com/example/ulinzi/ulinzi/protocol/ProtocolWriter", "writeBytes", "([B)Lcom/example/ulinzi/ulinzi/protocol/ProtocolWriter;"⟩ : MethodName) (head1 (Jvm.Cond.code (⟨"com/example/ulinzi/ulinzi/protocol/ProtocolWriter", "writeBytes", "([B)Lcom/example/ulinzi/ulinzi/protocol/ProtocolWriter;"⟩ : MethodName) prog_89_method_16_code 2 (some (.object "com/example/ulinzi/ulinzi/protocol/ProtocolWriter")) :: ws) ({ frames := 4, cells := 1, slots := 512, locals := 59 } : Room)) (fun a U => a = #[(.ref d0), (.ref d1)] ∧ Z.Warmed39 U.vm ∧ U.heap = h0) (fun _ _ _ _ _ => True) (fun _ U o U' => ∃ v L, o = .returned v ∧ Q12 Z d0 d1 arr g0 gb h0 n0 v U'.heap L ∧ FrameEnd U o U' L ({ frames := 4, cells := 1, slots := 512, locals := 59 } : Room).cells ({ frames := 4, cells := 1, slots := 512, locals := 59 } : Room).slots) := by
  refine MetFree.of_bodySF (plainFor_of_name pn_com_example_ulinzi_ulinzi_protocol_ProtocolWriter) hisR ?_
  intro p e s m args below meth c s₁ Bd hml0 hP hK
  obtain ⟨rfl, hZ, hh⟩ := hP
  have hx := Bd.exec
  have hby := Bd.bytes
  have hlk : meth.locks = false := Bd.notSynchronized
  have hml : c.maxLocals = 2 := hml0
  have hown : s.vm.findClass "com/example/ulinzi/ulinzi/protocol/ProtocolWriter" = some m.cls := findClass_of_methodNamed Bd.named
  have hnm := (name_of_methodNamed Bd.named Bd.method).1
  have X0 : Stand p l e ({ frames := 4, cells := 1, slots := 512, locals := 59 } : Room) s m #[(.ref d0), (.ref d1)] below meth c s₁ [] 0 0 := Stand.of_body Bd
  have e0 : s₁.heap = h0 := by rw [← hh, Bd.state]; rfl
  have N0 := Fr.nil n0
  have K0 : Keep h0 h0 [d0, arr] := Keep.refl h0 _
  show Wp p e below (Out s (Q12 Z d0 d1 arr g0 gb h0 n0) ({ frames := 4, cells := 1, slots := 512, locals := 59 } : Room).cells ({ frames := 4, cells := 1, slots := 512, locals := 59 } : Room).slots) (s₁.setTop (entryFrame m #[(.ref d0), (.ref d1)] 2))
  rw [ef_12_00]
  show Wp p e below _ (s₁.setTop (mkF m 0 #[.val (.ref d0), .val (.ref d1)] []))
  refine Wp.step (fun t k => XS.aloadN X0.here hx rfl (hb hby d12_0) rfl rfl k) ?_
  show Wp p e below _ (s₁.setTop (mkF m 1 #[.val (.ref d0), .val (.ref d1)] [(.ref d0)]))
  refine Wp.step (fun t k => XS.aloadN X0.here hx rfl (hb hby d12_1) rfl rfl k) ?_
  show Wp p e below _ (s₁.setTop (mkF m 2 #[.val (.ref d0), .val (.ref d1)] [(.ref d1), (.ref d0)]))
  obtain ⟨cl1, Ar1, Sz1, Nn1, -⟩ := id B_v
  refine Wp.step (X0.arraylength hx (by rw [e0]; exact Ar1.1) (State.isArrayOf_alike hZ.alike Ar1.2.1) (g := (mkF m 2 #[.val (.ref d0), .val (.ref d1)] [(.ref d1), (.ref d0)])) rfl rfl (hb hby d12_2)) ?_
  rw [len_of Sz1 Nn1]
  show Wp p e below _ (s₁.setTop (mkF m 3 #[.val (.ref d0), .val (.ref d1)] [(.int (300 : Int32)), (.ref d0)]))
  obtain ⟨cq2, kq2, q2a, q2b, q2c⟩ := isOf hZ e0 E_d0
  obtain ⟨_, _, ⟨T2, L2, k2, n2⟩, -, X2, ⟨Lc2, hQ2, l2, y2, z2⟩, st2⟩ := X0.virtualBack hx (y := (⟨"com/example/ulinzi/ulinzi/protocol/ProtocolWriter", "writeInt32", "(I)Lcom/example/ulinzi/ulinzi/protocol/ProtocolWriter;"⟩ : MethodName)) (z := (⟨"com/example/ulinzi/ulinzi/protocol/ProtocolWriter", "writeInt32", "(I)Lcom/example/ulinzi/ulinzi/protocol/ProtocolWriter;"⟩ : MethodName)) hown (mvT hZ (hw _ (List.mem_of_getElem? (i := 45) rfl))) (mvT hZ (hw _ (List.mem_of_getElem? (i := 32) rfl))) (notFace_of_selects (args := #[]) (mvT hZ (hw _ (List.mem_of_getElem? (i := 34) rfl)))) (mvT hZ (hw _ (List.mem_of_getElem? (i := 34) rfl))) (mvT hZ (hw _ (List.mem_of_getElem? (i := 33) rfl))) (by decide) (backOf (W := 0) (rm6 l Z a0 hw [] d0 (300 : Int32) arr (12 : Int32) (256 : Int32) g0 (16 : Int32) h0 n0 (Nat.le_trans Z0 K0.1) g_d0 g_arr E_d0 F_b F_s B_arr ne_arr (by decide) (by decide) (by decide) (by decide) (by decide) (by decide)) hZ (hw _ (List.mem_of_getElem? (i := 35) rfl)) (hw _ (List.mem_of_getElem? (i := 3) rfl)) (by decide) (by decide)) q2a q2c (g := (mkF m 3 #[.val (.ref d0), .val (.ref d1)] [(.int (300 : Int32)), (.ref d0)])) rfl (by rw [hml]; rfl) (Steps.refl _) (argsL := [(.int (300 : Int32))]) (rest := []) (lenOf pd_28I29Lcom2fexample2fulinzi2fulinzi2fprotocol2fProtocolWriter3b rfl) rfl (by show 2 * 0 + _ ≤ _; exact Nat.le_of_eq rfl) (hb hby d12_3) (fun _ _ => ⟨rfl, e0, (by decide : 0 + 0 ≤ _), (by decide : 0 + 0 ≤ _)⟩)
  dsimp only [Pt.U, Pt.locs, Pt.cells, Pt.slots] at X2 l2 y2 z2 st2 hQ2
  subst l2 y2 z2
  obtain ⟨h2, e2⟩ : ∃ z, T2.heap = z := ⟨_, rfl⟩
  rw [e2] at hQ2
  obtain ⟨rfl, N2q, Kc2, E_2, Fb2, Fs2, B2⟩ := hQ2
  have N2 := Fr.app N0 N2q
  have c3 := E_d0.keep Kc2
  have B5 := B_v.keep Kc2 (ninS ne_d1 (ninS ne_d1a nin0))
  have K2 := K0.trans Kc2 (allS (Or.inl (List.mem_of_getElem? (i := 0) rfl)) (allS (Or.inl (List.mem_of_getElem? (i := 1) rfl)) all0))
  refine Wp.go st2 ?_
  show Wp p e below _ (T2.setTop (mkF m 6 #[.val (.ref d0), .val (.ref d1)] [(.ref d0)]))
  refine Wp.step (fun t k => XS.pop X2.here hx rfl (hb hby d12_6) rfl rfl k) ?_
  show Wp p e below _ (T2.setTop (mkF m 7 #[.val (.ref d0), .val (.ref d1)] []))
  refine Wp.step (fun t k => XS.aloadN X2.here hx rfl (hb hby d12_7) rfl rfl k) ?_
  show Wp p e below _ (T2.setTop (mkF m 8 #[.val (.ref d0), .val (.ref d1)] [(.ref d0)]))
  refine Wp.step (fun t k => XS.aloadN X2.here hx rfl (hb hby d12_8) rfl rfl k) ?_
  show Wp p e below _ (T2.setTop (mkF m 9 #[.val (.ref d0), .val (.ref d1)] [(.ref d1), (.ref d0)]))
  obtain ⟨cq6, q6, q6'⟩ := E_2.cell
  obtain ⟨_, _, ⟨T6, L6, k6, n6⟩, -, X6, ⟨Lc6, hQ6, l6, y6, z6⟩, st6⟩ := X2.privateBack hx (y := (⟨"com/example/ulinzi/ulinzi/protocol/ProtocolWriter", "writeRaw", "([B)Lcom/example/ulinzi/ulinzi/protocol/ProtocolWriter;"⟩ : MethodName)) hown (mvT hZ (hw _ (List.mem_of_getElem? (i := 65) rfl))) (mvT hZ (hw _ (List.mem_of_getElem? (i := 66) rfl))) (own_selP hZ (hw _ (List.mem_of_getElem? (i := 2) rfl)) (hw _ (List.mem_of_getElem? (i := 67) rfl)) (hw _ (List.mem_of_getElem? (i := 66) rfl)) (by decide)) (Cond.privateMethod_at (mvP hZ (hw _ (List.mem_of_getElem? (i := 67) rfl)) (args := #[]))) (mvT hZ (hw _ (List.mem_of_getElem? (i := 68) rfl))) (by decide) (backOf (W := 0) (rm13 l Z a0 hw [] d0 d1 arr (own_w4 g0 (12 : Int32) (300 : Int32)) gb h2 n0 (Nat.le_trans Z0 K2.1) g_d0 g_arr E_2 Fb2 Fs2 B2 ne_arr B5 ne_d1 ne_d1a) hZ (hw _ (List.mem_of_getElem? (i := 68) rfl)) (hw _ (List.mem_of_getElem? (i := 3) rfl)) (by decide) (by decide)) (g := (mkF m 9 #[.val (.ref d0), .val (.ref d1)] [(.ref d1), (.ref d0)])) rfl (by rw [hml]; rfl) (Steps.refl _) (a := d0) (by rw [e2]; exact q6) q6' (argsL := [(.ref d1)]) (rest := []) (lenOf pd_285bB29Lcom2fexample2fulinzi2fulinzi2fprotocol2fProtocolWriter3b rfl) rfl (by show 2 * 0 + _ ≤ _; exact Nat.le_of_eq rfl) (hb hby d12_9) (fun _ _ => ⟨rfl, e2, (by decide : 0 + 1 ≤ _), (by decide : 0 + 512 ≤ _)⟩)
  dsimp only [Pt.U, Pt.locs, Pt.cells, Pt.slots] at X6 l6 y6 z6 st6 hQ6
  subst l6 y6 z6
  obtain ⟨h6, e6⟩ : ∃ z, T6.heap = z := ⟨_, rfl⟩
  rw [e6] at hQ6
  obtain ⟨rfl, N6q, Kc6, E_6, n6arr, sa6, g_n6arr, Fb6, Fs6, B6⟩ := hQ6
  have N6 := Fr.app N2 N6q
  have ne_arr_n6arr : arr ≠ n6arr := Nat.ne_of_lt (Nat.lt_of_lt_of_le B2.lt sa6)
  have ne_d0_n6arr : d0 ≠ n6arr := Nat.ne_of_lt (Nat.lt_of_lt_of_le E_2.lt sa6)
  have ne_d1_n6arr : d1 ≠ n6arr := Nat.ne_of_lt (Nat.lt_of_lt_of_le B5.lt sa6)
  have sz_n6arr : h0.size ≤ n6arr := Nat.le_trans K2.1 sa6
  have c7 := E_2.keep Kc6
  have B8 := B5.keep Kc6 (ninS ne_d1 nin0)
  have B9 := B2.keep Kc6 (ninS ne_arr nin0)
  have K6 := K2.trans Kc6 (allS (Or.inl (List.mem_of_getElem? (i := 0) rfl)) all0)
  refine Wp.go st6 ?_
  show Wp p e below _ (T6.setTop (mkF m 12 #[.val (.ref d0), .val (.ref d1)] [(.ref d0)]))
  refine Wp.retA X6 hx Bd.returns rfl (hb hby d12_12) hlk ?_ (by decide) (by decide)
  show Q12 Z d0 d1 arr g0 gb h0 n0 (some (.ref d0)) T6.heap _
  rw [e6]
  exact ⟨rfl, N6, K6, E_6, n6arr, sz_n6arr, g_n6arr, Fb6, Fs6, B6⟩
theorem d3_0 : decode prog_89_method_24_code 0 = .ok (.aload_n 0, 1) := by decide +kernel
theorem d3_1 : decode prog_89_method_24_code 1 = .ok (.getfield 7, 3) := by decide +kernel
theorem d3_4 : decode prog_89_method_24_code 4 = .ok (.aload_n 0, 1) := by decide +kernel
theorem d3_5 : decode prog_89_method_24_code 5 = .ok (.getfield 17, 3) := by decide +kernel
theorem d3_8 : decode prog_89_method_24_code 8 = .ok (.invokestatic 106, 3) := by decide +kernel
theorem d3_11 : decode prog_89_method_24_code 11 = .ok (.areturn, 1) := by decide +kernel
theorem ef_3_0 (m : MethodId) (x0 : Addr) : entryFrame m #[(.ref x0)] 1 = mkF m 0 #[.val (.ref x0)] [] := by first | (simp [entryFrame, mkF, argsToLocals, Value.category]; done) | rfl
def Q3 (Z : State) (d0 : Addr) (arr : Addr) (sz : Int32) (cap : Int32) (g0 : Nat → Int32) (h0 : Heap) (n0 : Nat) (v : Option Value) (h : Heap) (L : List Loc) : Prop := ∃ b0 : Addr, v = some (.ref b0) ∧ Fr n0 L ∧ Keep h0 h [] ∧ h0.size ≤ b0 ∧ n0 ≤ b0 ∧ own_IA .byte Z h b0 sz (own_copy g0 (fun _ => (0 : Int32)) (0 : Int32).toNatClampNeg (0 : Int32).toNatClampNeg (own_min cap sz).toNatClampNeg)
set_option maxRecDepth 65536 in
set_option maxHeartbeats 40000000 in
theorem rm3 (l : Launch) (Z : State) (a0 : Array Value) (hw : ∀ d ∈ tables_1, d.before a0 Z = true) (ws : List Jvm.Cond) (d0 : Addr) (arr : Addr) (sz : Int32) (cap : Int32) (g0 : Nat → Int32) (h0 : Heap) (n0 : Nat) (Z0 : n0 ≤ h0.size) (E_d0 : Exa Z h0 d0 "com/example/ulinzi/ulinzi/protocol/ProtocolWriter") (F_b : Fld Z h0 d0 "com/example/ulinzi/ulinzi/protocol/ProtocolWriter" "bytes" "[B" (.ref arr)) (F_s : Fld Z h0 d0 "com/example/ulinzi/ulinzi/protocol/ProtocolWriter" "size" "I" (.int sz)) (B_arr : own_IA .byte Z h0 arr cap g0) (ne_arr : arr ≠ d0) (hne : ¬ sz = cap) (hnn : ¬ sz < 0) (hcap : sz.toNatClampNeg ≤ 512) (hm0 : ¬ (own_min cap sz) < 0) (hm1 : (0 : Int32).toNatClampNeg + (own_min cap sz).toNatClampNeg ≤ cap.toNatClampNeg) (hm2 : (0 : Int32).toNatClampNeg + (own_min cap sz).toNatClampNeg ≤ sz.toNatClampNeg) :
    MetFree l (⟨"com/example/ulinzi/ulinzi/protocol/ProtocolWriter", "toByteArray", "()[B"⟩ : MethodName) (head1 (Jvm.Cond.code (⟨"com/example/ulinzi/ulinzi/protocol/ProtocolWriter", "toByteArray", "()[B"⟩ : MethodName) prog_89_method_24_code 1 (some (.array .byte)) :: ws) ({ frames := 2, cells := 1, slots := 512, locals := 32 } : Room)) (fun a U => a = #[(.ref d0)] ∧ Z.Warmed39 U.vm ∧ U.heap = h0) (fun _ _ _ _ _ => True) (fun _ U o U' => ∃ v L, o = .returned v ∧ Q3 Z d0 arr sz cap g0 h0 n0 v U'.heap L ∧ FrameEnd U o U' L ({ frames := 2, cells := 1, slots := 512, locals := 32 } : Room).cells ({ frames := 2, cells := 1, slots := 512, locals := 32 } : Room).slots) := by
  refine MetFree.of_bodySF (plainFor_of_name pn_com_example_ulinzi_ulinzi_protocol_ProtocolWriter) hisR ?_
  intro p e s m args below meth c s₁ Bd hml0 hP hK
  obtain ⟨rfl, hZ, hh⟩ := hP
  have hx := Bd.exec
  have hby := Bd.bytes
  have hlk : meth.locks = false := Bd.notSynchronized
  have hml : c.maxLocals = 1 := hml0
  have hown : s.vm.findClass "com/example/ulinzi/ulinzi/protocol/ProtocolWriter" = some m.cls := findClass_of_methodNamed Bd.named
  have hnm := (name_of_methodNamed Bd.named Bd.method).1
  have X0 : Stand p l e ({ frames := 2, cells := 1, slots := 512, locals := 32 } : Room) s m #[(.ref d0)] below meth c s₁ [] 0 0 := Stand.of_body Bd
  have e0 : s₁.heap = h0 := by rw [← hh, Bd.state]; rfl
  have N0 := Fr.nil n0
  have K0 : Keep h0 h0 [] := Keep.refl h0 _
  show Wp p e below (Out s (Q3 Z d0 arr sz cap g0 h0 n0) ({ frames := 2, cells := 1, slots := 512, locals := 32 } : Room).cells ({ frames := 2, cells := 1, slots := 512, locals := 32 } : Room).slots) (s₁.setTop (entryFrame m #[(.ref d0)] 1))
  rw [ef_3_0]
  show Wp p e below _ (s₁.setTop (mkF m 0 #[.val (.ref d0)] []))
  refine Wp.step (fun t k => XS.aloadN X0.here hx rfl (hb hby d3_0) rfl rfl k) ?_
  show Wp p e below _ (s₁.setTop (mkF m 1 #[.val (.ref d0)] [(.ref d0)]))
  obtain ⟨T1, X1, e1, st1⟩ := getF X0 hx hZ hown (host := "") (Or.inl (hw _ (List.mem_of_getElem? (i := 10) rfl))) Via.refl e0 F_b (g := (mkF m 1 #[.val (.ref d0)] [(.ref d0)])) rfl rfl (hb hby d3_1)
  refine Wp.step st1 ?_
  show Wp p e below _ (T1.setTop (mkF m 4 #[.val (.ref d0)] [(.ref arr)]))
  refine Wp.step (fun t k => XS.aloadN X1.here hx rfl (hb hby d3_4) rfl rfl k) ?_
  show Wp p e below _ (T1.setTop (mkF m 5 #[.val (.ref d0)] [(.ref d0), (.ref arr)]))
  obtain ⟨T2, X2, e2, st2⟩ := getF X1 hx hZ hown (host := "") (Or.inl (hw _ (List.mem_of_getElem? (i := 17) rfl))) Via.refl e1 F_s (g := (mkF m 5 #[.val (.ref d0)] [(.ref d0), (.ref arr)])) rfl rfl (hb hby d3_5)
  refine Wp.step st2 ?_
  show Wp p e below _ (T2.setTop (mkF m 8 #[.val (.ref d0)] [(.int sz), (.ref arr)]))
  obtain ⟨_, _, ⟨T3, L3, k3, n3⟩, -, X3, ⟨Lc3, hQ3, l3, y3, z3⟩, st3⟩ := Jvm.LawKit.callS X2 hx (y := (⟨"java/util/Arrays", "copyOf", "([BI)[B"⟩ : MethodName)) hown (mvT hZ (hw _ (List.mem_of_getElem? (i := 19) rfl))) (mvT hZ (hw _ (List.mem_of_getElem? (i := 20) rfl))) (mvT hZ (hw _ (List.mem_of_getElem? (i := 21) rfl))) (mvT hZ (hw _ (List.mem_of_getElem? (i := 22) rfl))) (by decide) (backOf (W := 0) (rm4 l Z a0 hw [] arr sz cap g0 h0 n0 (Nat.le_trans Z0 K0.1) B_arr hne hnn hcap hm0 hm1 hm2) hZ (hw _ (List.mem_of_getElem? (i := 22) rfl)) (hw _ (List.mem_of_getElem? (i := 21) rfl)) (by decide) (by decide)) (g := (mkF m 8 #[.val (.ref d0)] [(.int sz), (.ref arr)])) rfl (by rw [hml]; rfl) (argsL := [(.ref arr), (.int sz)]) (rest := []) (lenOf pd_285bBI295bB rfl) rfl (by show 2 * 0 + _ ≤ _; exact Nat.le_of_eq rfl) (hb hby d3_8) (fun _ _ => ⟨rfl, e2, (by decide : 0 + 1 ≤ _), (by decide : 0 + 512 ≤ _)⟩)
  dsimp only [Pt.U, Pt.locs, Pt.cells, Pt.slots] at X3 l3 y3 z3 st3 hQ3
  subst l3 y3 z3
  obtain ⟨h3, e3⟩ : ∃ z, T3.heap = z := ⟨_, rfl⟩
  rw [e3] at hQ3
  obtain ⟨r3, rfl, N3q, Kc3, szr3, g_r3, B_r3⟩ := hQ3
  have N3 := Fr.app N0 N3q
  have ne_arr_r3 : arr ≠ r3 := Nat.ne_of_lt (Nat.lt_of_lt_of_le B_arr.lt szr3)
  have ne_d0_r3 : d0 ≠ r3 := Nat.ne_of_lt (Nat.lt_of_lt_of_le E_d0.lt szr3)
  have c4 := E_d0.keep Kc3
  have c5 := F_b.keep Kc3 nin0
  have c6 := F_s.keep Kc3 nin0
  have B7 := B_arr.keep Kc3 nin0
  have sz_r3 : h0.size ≤ r3 := Nat.le_trans K0.1 szr3
  have K3 := K0.trans Kc3 all0
  refine Wp.step st3 ?_
  show Wp p e below _ (T3.setTop (mkF m 11 #[.val (.ref d0)] [(.ref r3)]))
  refine Wp.retA X3 hx Bd.returns rfl (hb hby d3_11) hlk ?_ (by decide) (by decide)
  show Q3 Z d0 arr sz cap g0 h0 n0 (some (.ref r3)) T3.heap _
  rw [e3]
  exact ⟨r3, rfl, N3, K3, sz_r3, g_r3, B_r3⟩
theorem d11_0 : decode method_3_code 0 = .ok (.aload_n 0, 1) := by decide +kernel
theorem d11_1 : decode method_3_code 1 = .ok (.iload_n 1, 1) := by decide +kernel
theorem d11_2 : decode method_3_code 2 = .ok (.baload, 1) := by decide +kernel
theorem d11_3 : decode method_3_code 3 = .ok (.iload_n 2, 1) := by decide +kernel
theorem d11_4 : decode method_3_code 4 = .ok (.bipush 24, 2) := by decide +kernel
theorem d11_6 : decode method_3_code 6 = .ok (.iushr, 1) := by decide +kernel
theorem d11_7 : decode method_3_code 7 = .ok (.i2b, 1) := by decide +kernel
theorem d11_8 : decode method_3_code 8 = .ok (.if_icmp .ne 43, 3) := by decide +kernel
theorem d11_11 : decode method_3_code 11 = .ok (.aload_n 0, 1) := by decide +kernel
theorem d11_12 : decode method_3_code 12 = .ok (.iload_n 1, 1) := by decide +kernel
theorem d11_13 : decode method_3_code 13 = .ok (.iconst 1, 1) := by decide +kernel
theorem d11_14 : decode method_3_code 14 = .ok (.iadd, 1) := by decide +kernel
theorem d11_15 : decode method_3_code 15 = .ok (.baload, 1) := by decide +kernel
theorem d11_16 : decode method_3_code 16 = .ok (.iload_n 2, 1) := by decide +kernel
theorem d11_17 : decode method_3_code 17 = .ok (.bipush 16, 2) := by decide +kernel
theorem d11_19 : decode method_3_code 19 = .ok (.iushr, 1) := by decide +kernel
theorem d11_20 : decode method_3_code 20 = .ok (.i2b, 1) := by decide +kernel
theorem d11_21 : decode method_3_code 21 = .ok (.if_icmp .ne 30, 3) := by decide +kernel
theorem d11_24 : decode method_3_code 24 = .ok (.aload_n 0, 1) := by decide +kernel
theorem d11_25 : decode method_3_code 25 = .ok (.iload_n 1, 1) := by decide +kernel
theorem d11_26 : decode method_3_code 26 = .ok (.iconst 2, 1) := by decide +kernel
theorem d11_27 : decode method_3_code 27 = .ok (.iadd, 1) := by decide +kernel
theorem d11_28 : decode method_3_code 28 = .ok (.baload, 1) := by decide +kernel
theorem d11_29 : decode method_3_code 29 = .ok (.iload_n 2, 1) := by decide +kernel
theorem d11_30 : decode method_3_code 30 = .ok (.bipush 8, 2) := by decide +kernel
theorem d11_32 : decode method_3_code 32 = .ok (.iushr, 1) := by decide +kernel
theorem d11_33 : decode method_3_code 33 = .ok (.i2b, 1) := by decide +kernel
theorem d11_34 : decode method_3_code 34 = .ok (.if_icmp .ne 17, 3) := by decide +kernel
theorem d11_37 : decode method_3_code 37 = .ok (.aload_n 0, 1) := by decide +kernel
theorem d11_38 : decode method_3_code 38 = .ok (.iload_n 1, 1) := by decide +kernel
theorem d11_39 : decode method_3_code 39 = .ok (.iconst 3, 1) := by decide +kernel
theorem d11_40 : decode method_3_code 40 = .ok (.iadd, 1) := by decide +kernel
theorem d11_41 : decode method_3_code 41 = .ok (.baload, 1) := by decide +kernel
theorem d11_42 : decode method_3_code 42 = .ok (.iload_n 2, 1) := by decide +kernel
theorem d11_43 : decode method_3_code 43 = .ok (.i2b, 1) := by decide +kernel
theorem d11_44 : decode method_3_code 44 = .ok (.if_icmp .ne 7, 3) := by decide +kernel
theorem d11_47 : decode method_3_code 47 = .ok (.iconst 1, 1) := by decide +kernel
theorem d11_48 : decode method_3_code 48 = .ok (.goto 4, 3) := by decide +kernel
theorem d11_52 : decode method_3_code 52 = .ok (.ireturn, 1) := by decide +kernel
theorem pn_com_example_ulinzi_ulinzi_protocol_ProtocolWriterToByteArrayPinLaw : plainName "com/example/ulinzi/ulinzi/protocol/ProtocolWriterToByteArrayPinLaw" = true := by first | (simp [plainName, overriddenIn]; done) | decide +kernel
theorem ef_11_000 (m : MethodId) (x0 : Addr) (x1 : Int32) (x2 : Int32) : entryFrame m #[(.ref x0), (.int x1), (.int x2)] 3 = mkF m 0 #[.val (.ref x0), .val (.int x1), .val (.int x2)] [] := by first | (simp [entryFrame, mkF, argsToLocals, Value.category]; done) | rfl
def Q11 (Z : State) (d1 : Addr) (u0 : Int32) (u1 : Int32) (z0 : Int32) (g0 : Nat → Int32) (h0 : Heap) (n0 : Nat) (v : Option Value) (h : Heap) (L : List Loc) : Prop := v = some (.int 1) ∧ Fr n0 L ∧ h = h0
set_option maxRecDepth 65536 in
set_option maxHeartbeats 40000000 in
theorem rm11 (l : Launch) (Z : State) (a0 : Array Value) (hw : ∀ d ∈ tables_1, d.before a0 Z = true) (ws : List Jvm.Cond) (d1 : Addr) (u0 : Int32) (u1 : Int32) (z0 : Int32) (g0 : Nat → Int32) (h0 : Heap) (n0 : Nat) (Z0 : n0 ≤ h0.size) (B_a : own_IA .byte Z h0 d1 z0 g0) (i0 : ¬ u0 < 0 ∧ u0 < z0) (i1 : ¬ (u0 + (1 : Int32)) < 0 ∧ (u0 + (1 : Int32)) < z0) (i2 : ¬ (u0 + (2 : Int32)) < 0 ∧ (u0 + (2 : Int32)) < z0) (i3 : ¬ (u0 + (3 : Int32)) < 0 ∧ (u0 + (3 : Int32)) < z0) (q0 : g0 (u0).toNatClampNeg = (((u1.toUInt32 >>> ((24 : Int32) &&& 31).toUInt32).toInt32).toInt8.toInt32)) (q1 : g0 ((u0 + (1 : Int32))).toNatClampNeg = (((u1.toUInt32 >>> ((16 : Int32) &&& 31).toUInt32).toInt32).toInt8.toInt32)) (q2 : g0 ((u0 + (2 : Int32))).toNatClampNeg = (((u1.toUInt32 >>> ((8 : Int32) &&& 31).toUInt32).toInt32).toInt8.toInt32)) (q3 : g0 ((u0 + (3 : Int32))).toNatClampNeg = (u1.toInt8.toInt32)) :
    MetFree l (⟨"com/example/ulinzi/ulinzi/protocol/ProtocolWriterToByteArrayPinLaw", "int32At", "([BII)Z"⟩ : MethodName) (head1 (Jvm.Cond.code (⟨"com/example/ulinzi/ulinzi/protocol/ProtocolWriterToByteArrayPinLaw", "int32At", "([BII)Z"⟩ : MethodName) method_3_code 3 (some .boolean) :: ws) ({ frames := 0, cells := 0, slots := 0, locals := 0 } : Room)) (fun a U => a = #[(.ref d1), (.int u0), (.int u1)] ∧ Z.Warmed39 U.vm ∧ U.heap = h0) (fun _ _ _ _ _ => True) (fun _ U o U' => ∃ v L, o = .returned v ∧ Q11 Z d1 u0 u1 z0 g0 h0 n0 v U'.heap L ∧ FrameEnd U o U' L ({ frames := 0, cells := 0, slots := 0, locals := 0 } : Room).cells ({ frames := 0, cells := 0, slots := 0, locals := 0 } : Room).slots) := by
  refine MetFree.of_bodySF (plainFor_of_name pn_com_example_ulinzi_ulinzi_protocol_ProtocolWriterToByteArrayPinLaw) hisR ?_
  intro p e s m args below meth c s₁ Bd hml0 hP hK
  obtain ⟨rfl, hZ, hh⟩ := hP
  have hx := Bd.exec
  have hby := Bd.bytes
  have hlk : meth.locks = false := Bd.notSynchronized
  have hml : c.maxLocals = 3 := hml0
  have hown : s.vm.findClass "com/example/ulinzi/ulinzi/protocol/ProtocolWriterToByteArrayPinLaw" = some m.cls := findClass_of_methodNamed Bd.named
  have hnm := (name_of_methodNamed Bd.named Bd.method).1
  have X0 : Stand p l e ({ frames := 0, cells := 0, slots := 0, locals := 0 } : Room) s m #[(.ref d1), (.int u0), (.int u1)] below meth c s₁ [] 0 0 := Stand.of_body Bd
  have e0 : s₁.heap = h0 := by rw [← hh, Bd.state]; rfl
  have N0 := Fr.nil n0
  have K0 : Keep h0 h0 [] := Keep.refl h0 _
  show Wp p e below (Out s (Q11 Z d1 u0 u1 z0 g0 h0 n0) ({ frames := 0, cells := 0, slots := 0, locals := 0 } : Room).cells ({ frames := 0, cells := 0, slots := 0, locals := 0 } : Room).slots) (s₁.setTop (entryFrame m #[(.ref d1), (.int u0), (.int u1)] 3))
  rw [ef_11_000]
  show Wp p e below _ (s₁.setTop (mkF m 0 #[.val (.ref d1), .val (.int u0), .val (.int u1)] []))
  refine Wp.step (fun t k => XS.aloadN X0.here hx rfl (hb hby d11_0) rfl rfl k) ?_
  show Wp p e below _ (s₁.setTop (mkF m 1 #[.val (.ref d1), .val (.int u0), .val (.int u1)] [(.ref d1)]))
  refine Wp.step (fun t k => XS.iloadN X0.here hx rfl (hb hby d11_1) rfl k) ?_
  show Wp p e below _ (s₁.setTop (mkF m 2 #[.val (.ref d1), .val (.int u0), .val (.int u1)] [(.int u0), (.ref d1)]))
  obtain ⟨cl1, Ar1, Sz1, Nn1, El1⟩ := id B_a
  have hin1 : ¬ (u0 < 0 ∨ cl1.slots.size ≤ (u0).toNatClampNeg) := inb_of Sz1 i0
  have hat1 : cl1.slots[(u0).toNatClampNeg]? = some (.int (g0 (u0).toNatClampNeg)) := (El1 _ (by have q := Nat.lt_of_not_le fun q => hin1 (Or.inr q); rw [Sz1] at q; exact q)).1
  refine Wp.step (X0.baloadBytes hx (j := u0) (v := (.int (g0 (u0).toNatClampNeg))) (by rw [e0]; exact Ar1.1) (State.isArrayOf_alike hZ.alike Ar1.2.1) Ar1.2.2 hin1 hat1 (g := (mkF m 2 #[.val (.ref d1), .val (.int u0), .val (.int u1)] [(.int u0), (.ref d1)])) rfl rfl (hb hby d11_2)) ?_
  show Wp p e below _ (s₁.setTop (mkF m 3 #[.val (.ref d1), .val (.int u0), .val (.int u1)] [(.int (g0 (u0).toNatClampNeg))]))
  refine Wp.step (fun t k => XS.iloadN X0.here hx rfl (hb hby d11_3) rfl k) ?_
  show Wp p e below _ (s₁.setTop (mkF m 4 #[.val (.ref d1), .val (.int u0), .val (.int u1)] [(.int u1), (.int (g0 (u0).toNatClampNeg))]))
  refine Wp.step (fun t k => XS.bipush X0.here hx rfl (hb hby d11_4) k) ?_
  show Wp p e below _ (s₁.setTop (mkF m 6 #[.val (.ref d1), .val (.int u0), .val (.int u1)] [(.int (24 : Int32)), (.int u1), (.int (g0 (u0).toNatClampNeg))]))
  refine Wp.step (fun t k => XS.iushr X0.here hx rfl (hb hby d11_6) rfl k) ?_
  show Wp p e below _ (s₁.setTop (mkF m 7 #[.val (.ref d1), .val (.int u0), .val (.int u1)] [(.int ((u1.toUInt32 >>> ((24 : Int32) &&& 31).toUInt32).toInt32)), (.int (g0 (u0).toNatClampNeg))]))
  refine Wp.step (fun t k => XS.i2b X0.here hx rfl (hb hby d11_7) rfl k) ?_
  show Wp p e below _ (s₁.setTop (mkF m 8 #[.val (.ref d1), .val (.int u0), .val (.int u1)] [(.int (((u1.toUInt32 >>> ((24 : Int32) &&& 31).toUInt32).toInt32).toInt8.toInt32)), (.int (g0 (u0).toNatClampNeg))]))
  refine Wp.step (fun t k => XS.icmpNo X0.here hx rfl (hb hby d11_8) rfl (teq (show (g0 (u0).toNatClampNeg) = (((u1.toUInt32 >>> ((24 : Int32) &&& 31).toUInt32).toInt32).toInt8.toInt32) from q0)).2 k) ?_
  show Wp p e below _ (s₁.setTop (mkF m 11 #[.val (.ref d1), .val (.int u0), .val (.int u1)] []))
  refine Wp.step (fun t k => XS.aloadN X0.here hx rfl (hb hby d11_11) rfl rfl k) ?_
  show Wp p e below _ (s₁.setTop (mkF m 12 #[.val (.ref d1), .val (.int u0), .val (.int u1)] [(.ref d1)]))
  refine Wp.step (fun t k => XS.iloadN X0.here hx rfl (hb hby d11_12) rfl k) ?_
  show Wp p e below _ (s₁.setTop (mkF m 13 #[.val (.ref d1), .val (.int u0), .val (.int u1)] [(.int u0), (.ref d1)]))
  refine Wp.step (fun t k => XS.iconst X0.here hx rfl (hb hby d11_13) k) ?_
  show Wp p e below _ (s₁.setTop (mkF m 14 #[.val (.ref d1), .val (.int u0), .val (.int u1)] [(.int (1 : Int32)), (.int u0), (.ref d1)]))
  refine Wp.step (fun t k => XS.iadd X0.here hx rfl (hb hby d11_14) rfl k) ?_
  show Wp p e below _ (s₁.setTop (mkF m 15 #[.val (.ref d1), .val (.int u0), .val (.int u1)] [(.int (u0 + (1 : Int32))), (.ref d1)]))
  obtain ⟨cl3, Ar3, Sz3, Nn3, El3⟩ := id B_a
  have hin3 : ¬ ((u0 + (1 : Int32)) < 0 ∨ cl3.slots.size ≤ ((u0 + (1 : Int32))).toNatClampNeg) := inb_of Sz3 i1
  have hat3 : cl3.slots[((u0 + (1 : Int32))).toNatClampNeg]? = some (.int (g0 ((u0 + (1 : Int32))).toNatClampNeg)) := (El3 _ (by have q := Nat.lt_of_not_le fun q => hin3 (Or.inr q); rw [Sz3] at q; exact q)).1
  refine Wp.step (X0.baloadBytes hx (j := (u0 + (1 : Int32))) (v := (.int (g0 ((u0 + (1 : Int32))).toNatClampNeg))) (by rw [e0]; exact Ar3.1) (State.isArrayOf_alike hZ.alike Ar3.2.1) Ar3.2.2 hin3 hat3 (g := (mkF m 15 #[.val (.ref d1), .val (.int u0), .val (.int u1)] [(.int (u0 + (1 : Int32))), (.ref d1)])) rfl rfl (hb hby d11_15)) ?_
  show Wp p e below _ (s₁.setTop (mkF m 16 #[.val (.ref d1), .val (.int u0), .val (.int u1)] [(.int (g0 ((u0 + (1 : Int32))).toNatClampNeg))]))
  refine Wp.step (fun t k => XS.iloadN X0.here hx rfl (hb hby d11_16) rfl k) ?_
  show Wp p e below _ (s₁.setTop (mkF m 17 #[.val (.ref d1), .val (.int u0), .val (.int u1)] [(.int u1), (.int (g0 ((u0 + (1 : Int32))).toNatClampNeg))]))
  refine Wp.step (fun t k => XS.bipush X0.here hx rfl (hb hby d11_17) k) ?_
  show Wp p e below _ (s₁.setTop (mkF m 19 #[.val (.ref d1), .val (.int u0), .val (.int u1)] [(.int (16 : Int32)), (.int u1), (.int (g0 ((u0 + (1 : Int32))).toNatClampNeg))]))
  refine Wp.step (fun t k => XS.iushr X0.here hx rfl (hb hby d11_19) rfl k) ?_
  show Wp p e below _ (s₁.setTop (mkF m 20 #[.val (.ref d1), .val (.int u0), .val (.int u1)] [(.int ((u1.toUInt32 >>> ((16 : Int32) &&& 31).toUInt32).toInt32)), (.int (g0 ((u0 + (1 : Int32))).toNatClampNeg))]))
  refine Wp.step (fun t k => XS.i2b X0.here hx rfl (hb hby d11_20) rfl k) ?_
  show Wp p e below _ (s₁.setTop (mkF m 21 #[.val (.ref d1), .val (.int u0), .val (.int u1)] [(.int (((u1.toUInt32 >>> ((16 : Int32) &&& 31).toUInt32).toInt32).toInt8.toInt32)), (.int (g0 ((u0 + (1 : Int32))).toNatClampNeg))]))
  refine Wp.step (fun t k => XS.icmpNo X0.here hx rfl (hb hby d11_21) rfl (teq (show (g0 ((u0 + (1 : Int32))).toNatClampNeg) = (((u1.toUInt32 >>> ((16 : Int32) &&& 31).toUInt32).toInt32).toInt8.toInt32) from q1)).2 k) ?_
  show Wp p e below _ (s₁.setTop (mkF m 24 #[.val (.ref d1), .val (.int u0), .val (.int u1)] []))
  refine Wp.step (fun t k => XS.aloadN X0.here hx rfl (hb hby d11_24) rfl rfl k) ?_
  show Wp p e below _ (s₁.setTop (mkF m 25 #[.val (.ref d1), .val (.int u0), .val (.int u1)] [(.ref d1)]))
  refine Wp.step (fun t k => XS.iloadN X0.here hx rfl (hb hby d11_25) rfl k) ?_
  show Wp p e below _ (s₁.setTop (mkF m 26 #[.val (.ref d1), .val (.int u0), .val (.int u1)] [(.int u0), (.ref d1)]))
  refine Wp.step (fun t k => XS.iconst X0.here hx rfl (hb hby d11_26) k) ?_
  show Wp p e below _ (s₁.setTop (mkF m 27 #[.val (.ref d1), .val (.int u0), .val (.int u1)] [(.int (2 : Int32)), (.int u0), (.ref d1)]))
  refine Wp.step (fun t k => XS.iadd X0.here hx rfl (hb hby d11_27) rfl k) ?_
  show Wp p e below _ (s₁.setTop (mkF m 28 #[.val (.ref d1), .val (.int u0), .val (.int u1)] [(.int (u0 + (2 : Int32))), (.ref d1)]))
  obtain ⟨cl5, Ar5, Sz5, Nn5, El5⟩ := id B_a
  have hin5 : ¬ ((u0 + (2 : Int32)) < 0 ∨ cl5.slots.size ≤ ((u0 + (2 : Int32))).toNatClampNeg) := inb_of Sz5 i2
  have hat5 : cl5.slots[((u0 + (2 : Int32))).toNatClampNeg]? = some (.int (g0 ((u0 + (2 : Int32))).toNatClampNeg)) := (El5 _ (by have q := Nat.lt_of_not_le fun q => hin5 (Or.inr q); rw [Sz5] at q; exact q)).1
  refine Wp.step (X0.baloadBytes hx (j := (u0 + (2 : Int32))) (v := (.int (g0 ((u0 + (2 : Int32))).toNatClampNeg))) (by rw [e0]; exact Ar5.1) (State.isArrayOf_alike hZ.alike Ar5.2.1) Ar5.2.2 hin5 hat5 (g := (mkF m 28 #[.val (.ref d1), .val (.int u0), .val (.int u1)] [(.int (u0 + (2 : Int32))), (.ref d1)])) rfl rfl (hb hby d11_28)) ?_
  show Wp p e below _ (s₁.setTop (mkF m 29 #[.val (.ref d1), .val (.int u0), .val (.int u1)] [(.int (g0 ((u0 + (2 : Int32))).toNatClampNeg))]))
  refine Wp.step (fun t k => XS.iloadN X0.here hx rfl (hb hby d11_29) rfl k) ?_
  show Wp p e below _ (s₁.setTop (mkF m 30 #[.val (.ref d1), .val (.int u0), .val (.int u1)] [(.int u1), (.int (g0 ((u0 + (2 : Int32))).toNatClampNeg))]))
  refine Wp.step (fun t k => XS.bipush X0.here hx rfl (hb hby d11_30) k) ?_
  show Wp p e below _ (s₁.setTop (mkF m 32 #[.val (.ref d1), .val (.int u0), .val (.int u1)] [(.int (8 : Int32)), (.int u1), (.int (g0 ((u0 + (2 : Int32))).toNatClampNeg))]))
  refine Wp.step (fun t k => XS.iushr X0.here hx rfl (hb hby d11_32) rfl k) ?_
  show Wp p e below _ (s₁.setTop (mkF m 33 #[.val (.ref d1), .val (.int u0), .val (.int u1)] [(.int ((u1.toUInt32 >>> ((8 : Int32) &&& 31).toUInt32).toInt32)), (.int (g0 ((u0 + (2 : Int32))).toNatClampNeg))]))
  refine Wp.step (fun t k => XS.i2b X0.here hx rfl (hb hby d11_33) rfl k) ?_
  show Wp p e below _ (s₁.setTop (mkF m 34 #[.val (.ref d1), .val (.int u0), .val (.int u1)] [(.int (((u1.toUInt32 >>> ((8 : Int32) &&& 31).toUInt32).toInt32).toInt8.toInt32)), (.int (g0 ((u0 + (2 : Int32))).toNatClampNeg))]))
  refine Wp.step (fun t k => XS.icmpNo X0.here hx rfl (hb hby d11_34) rfl (teq (show (g0 ((u0 + (2 : Int32))).toNatClampNeg) = (((u1.toUInt32 >>> ((8 : Int32) &&& 31).toUInt32).toInt32).toInt8.toInt32) from q2)).2 k) ?_
  show Wp p e below _ (s₁.setTop (mkF m 37 #[.val (.ref d1), .val (.int u0), .val (.int u1)] []))
  refine Wp.step (fun t k => XS.aloadN X0.here hx rfl (hb hby d11_37) rfl rfl k) ?_
  show Wp p e below _ (s₁.setTop (mkF m 38 #[.val (.ref d1), .val (.int u0), .val (.int u1)] [(.ref d1)]))
  refine Wp.step (fun t k => XS.iloadN X0.here hx rfl (hb hby d11_38) rfl k) ?_
  show Wp p e below _ (s₁.setTop (mkF m 39 #[.val (.ref d1), .val (.int u0), .val (.int u1)] [(.int u0), (.ref d1)]))
  refine Wp.step (fun t k => XS.iconst X0.here hx rfl (hb hby d11_39) k) ?_
  show Wp p e below _ (s₁.setTop (mkF m 40 #[.val (.ref d1), .val (.int u0), .val (.int u1)] [(.int (3 : Int32)), (.int u0), (.ref d1)]))
  refine Wp.step (fun t k => XS.iadd X0.here hx rfl (hb hby d11_40) rfl k) ?_
  show Wp p e below _ (s₁.setTop (mkF m 41 #[.val (.ref d1), .val (.int u0), .val (.int u1)] [(.int (u0 + (3 : Int32))), (.ref d1)]))
  obtain ⟨cl7, Ar7, Sz7, Nn7, El7⟩ := id B_a
  have hin7 : ¬ ((u0 + (3 : Int32)) < 0 ∨ cl7.slots.size ≤ ((u0 + (3 : Int32))).toNatClampNeg) := inb_of Sz7 i3
  have hat7 : cl7.slots[((u0 + (3 : Int32))).toNatClampNeg]? = some (.int (g0 ((u0 + (3 : Int32))).toNatClampNeg)) := (El7 _ (by have q := Nat.lt_of_not_le fun q => hin7 (Or.inr q); rw [Sz7] at q; exact q)).1
  refine Wp.step (X0.baloadBytes hx (j := (u0 + (3 : Int32))) (v := (.int (g0 ((u0 + (3 : Int32))).toNatClampNeg))) (by rw [e0]; exact Ar7.1) (State.isArrayOf_alike hZ.alike Ar7.2.1) Ar7.2.2 hin7 hat7 (g := (mkF m 41 #[.val (.ref d1), .val (.int u0), .val (.int u1)] [(.int (u0 + (3 : Int32))), (.ref d1)])) rfl rfl (hb hby d11_41)) ?_
  show Wp p e below _ (s₁.setTop (mkF m 42 #[.val (.ref d1), .val (.int u0), .val (.int u1)] [(.int (g0 ((u0 + (3 : Int32))).toNatClampNeg))]))
  refine Wp.step (fun t k => XS.iloadN X0.here hx rfl (hb hby d11_42) rfl k) ?_
  show Wp p e below _ (s₁.setTop (mkF m 43 #[.val (.ref d1), .val (.int u0), .val (.int u1)] [(.int u1), (.int (g0 ((u0 + (3 : Int32))).toNatClampNeg))]))
  refine Wp.step (fun t k => XS.i2b X0.here hx rfl (hb hby d11_43) rfl k) ?_
  show Wp p e below _ (s₁.setTop (mkF m 44 #[.val (.ref d1), .val (.int u0), .val (.int u1)] [(.int (u1.toInt8.toInt32)), (.int (g0 ((u0 + (3 : Int32))).toNatClampNeg))]))
  refine Wp.step (fun t k => XS.icmpNo X0.here hx rfl (hb hby d11_44) rfl (teq (show (g0 ((u0 + (3 : Int32))).toNatClampNeg) = (u1.toInt8.toInt32) from q3)).2 k) ?_
  show Wp p e below _ (s₁.setTop (mkF m 47 #[.val (.ref d1), .val (.int u0), .val (.int u1)] []))
  refine Wp.step (fun t k => XS.iconst X0.here hx rfl (hb hby d11_47) k) ?_
  show Wp p e below _ (s₁.setTop (mkF m 48 #[.val (.ref d1), .val (.int u0), .val (.int u1)] [(.int (1 : Int32))]))
  refine Wp.step (fun t k => XS.goto X0.here hx rfl (pc0 := 48) (pc' := 52) rfl (hb hby d11_48) (by decide) (by decide) k) ?_
  show Wp p e below _ (s₁.setTop (mkF m 52 #[.val (.ref d1), .val (.int u0), .val (.int u1)] [(.int (1 : Int32))]))
  refine Wp.retN X0 hx (t := .boolean) Bd.returns (by simp) (hb hby d11_52) hlk ?_ (by decide) (by decide)
  show Q11 Z d1 u0 u1 z0 g0 h0 n0 (some (.int (nar .boolean (1 : Int32)))) s₁.heap _
  rw [e0]
  exact ⟨rfl, N0, rfl⟩
theorem d10_0 : decode prog_89_method_23_code 0 = .ok (.aload_n 0, 1) := by decide +kernel
theorem d10_1 : decode prog_89_method_23_code 1 = .ok (.getfield 17, 3) := by decide +kernel
theorem d10_4 : decode prog_89_method_23_code 4 = .ok (.ireturn, 1) := by decide +kernel
theorem ef_10_0 (m : MethodId) (x0 : Addr) : entryFrame m #[(.ref x0)] 1 = mkF m 0 #[.val (.ref x0)] [] := by first | (simp [entryFrame, mkF, argsToLocals, Value.category]; done) | rfl
def Q10 (Z : State) (d0 : Addr) (f0 : Int32) (h0 : Heap) (n0 : Nat) (v : Option Value) (h : Heap) (L : List Loc) : Prop := v = some (.int f0) ∧ Fr n0 L ∧ h = h0
set_option maxRecDepth 65536 in
set_option maxHeartbeats 40000000 in
theorem rm10 (l : Launch) (Z : State) (a0 : Array Value) (hw : ∀ d ∈ tables_1, d.before a0 Z = true) (ws : List Jvm.Cond) (d0 : Addr) (f0 : Int32) (h0 : Heap) (n0 : Nat) (Z0 : n0 ≤ h0.size) (F_f : Fld Z h0 d0 "com/example/ulinzi/ulinzi/protocol/ProtocolWriter" "size" "I" (.int f0)) :
    MetFree l (⟨"com/example/ulinzi/ulinzi/protocol/ProtocolWriter", "size", "()I"⟩ : MethodName) (head1 (Jvm.Cond.code (⟨"com/example/ulinzi/ulinzi/protocol/ProtocolWriter", "size", "()I"⟩ : MethodName) prog_89_method_23_code 1 (some .int) :: ws) ({ frames := 0, cells := 0, slots := 0, locals := 0 } : Room)) (fun a U => a = #[(.ref d0)] ∧ Z.Warmed39 U.vm ∧ U.heap = h0) (fun _ _ _ _ _ => True) (fun _ U o U' => ∃ v L, o = .returned v ∧ Q10 Z d0 f0 h0 n0 v U'.heap L ∧ FrameEnd U o U' L ({ frames := 0, cells := 0, slots := 0, locals := 0 } : Room).cells ({ frames := 0, cells := 0, slots := 0, locals := 0 } : Room).slots) := by
  refine MetFree.of_bodySF (plainFor_of_name pn_com_example_ulinzi_ulinzi_protocol_ProtocolWriter) hisR ?_
  intro p e s m args below meth c s₁ Bd hml0 hP hK
  obtain ⟨rfl, hZ, hh⟩ := hP
  have hx := Bd.exec
  have hby := Bd.bytes
  have hlk : meth.locks = false := Bd.notSynchronized
  have hml : c.maxLocals = 1 := hml0
  have hown : s.vm.findClass "com/example/ulinzi/ulinzi/protocol/ProtocolWriter" = some m.cls := findClass_of_methodNamed Bd.named
  have hnm := (name_of_methodNamed Bd.named Bd.method).1
  have X0 : Stand p l e ({ frames := 0, cells := 0, slots := 0, locals := 0 } : Room) s m #[(.ref d0)] below meth c s₁ [] 0 0 := Stand.of_body Bd
  have e0 : s₁.heap = h0 := by rw [← hh, Bd.state]; rfl
  have N0 := Fr.nil n0
  have K0 : Keep h0 h0 [] := Keep.refl h0 _
  show Wp p e below (Out s (Q10 Z d0 f0 h0 n0) ({ frames := 0, cells := 0, slots := 0, locals := 0 } : Room).cells ({ frames := 0, cells := 0, slots := 0, locals := 0 } : Room).slots) (s₁.setTop (entryFrame m #[(.ref d0)] 1))
  rw [ef_10_0]
  show Wp p e below _ (s₁.setTop (mkF m 0 #[.val (.ref d0)] []))
  refine Wp.step (fun t k => XS.aloadN X0.here hx rfl (hb hby d10_0) rfl rfl k) ?_
  show Wp p e below _ (s₁.setTop (mkF m 1 #[.val (.ref d0)] [(.ref d0)]))
  obtain ⟨T1, X1, e1, st1⟩ := getF X0 hx hZ hown (host := "") (Or.inl (hw _ (List.mem_of_getElem? (i := 17) rfl))) Via.refl e0 F_f (g := (mkF m 1 #[.val (.ref d0)] [(.ref d0)])) rfl rfl (hb hby d10_1)
  refine Wp.step st1 ?_
  show Wp p e below _ (T1.setTop (mkF m 4 #[.val (.ref d0)] [(.int f0)]))
  refine Wp.retI X1 hx Bd.returns (hb hby d10_4) hlk ?_ (by decide) (by decide)
  show Q10 Z d0 f0 h0 n0 (some (.int f0)) T1.heap _
  rw [e1]
  exact ⟨rfl, N0, rfl⟩
theorem pd_2829V : parseMethodDescriptor "()V" = some ⟨[], none⟩ := by decide +kernel
theorem pd_28295bB : parseMethodDescriptor "()[B" = some ⟨[], some (.array .byte)⟩ := by decide +kernel
theorem pd_28J29Lcom2fexample2fulinzi2fulinzi2fprotocol2fProtocolWriter3b : parseMethodDescriptor "(J)Lcom/example/ulinzi/ulinzi/protocol/ProtocolWriter;" = some ⟨[.long], some (.object "com/example/ulinzi/ulinzi/protocol/ProtocolWriter")⟩ := by decide +kernel
theorem pd_2829I : parseMethodDescriptor "()I" = some ⟨[], some .int⟩ := by decide +kernel
theorem pd_285bBII29Z : parseMethodDescriptor "([BII)Z" = some ⟨[(.array .byte), .int, .int], some .boolean⟩ := by decide +kernel
theorem ef_0_0000 (m : MethodId) (x0 : Int32) (x1 : Int64) (x2 : Int32) (x3 : Int32) : entryFrame m #[(.int x0), (.long x1), (.int x2), (.int x3)] maxLocals = mkF m 0 #[.val (.int x0), .val (.long x1), .second, .val (.int x2), .val (.int x3), .unset, .unset, .unset, .unset, .unset, .unset, .unset, .unset] [] := by first | (simp [entryFrame, mkF, argsToLocals, Value.category, maxLocals]; done) | rfl
def Q0 (Z : State) (p0 : Int32) (q1 : Int64) (p3 : Int32) (p4 : Int32) (h0 : Heap) (n0 : Nat) (v : Option Value) (h : Heap) (L : List Loc) : Prop := v = some (.int 1) ∧ Fr n0 L
set_option maxRecDepth 65536 in
set_option maxHeartbeats 40000000 in
theorem rm0 (l : Launch) (Z : State) (a0 : Array Value) (hw : ∀ d ∈ tables_1, d.before a0 Z = true) (ws : List Jvm.Cond) (p0 : Int32) (q1 : Int64) (p3 : Int32) (p4 : Int32) (h0 : Heap) (n0 : Nat) (Z0 : n0 ≤ h0.size) :
    MetFree l x (head1 (Jvm.Cond.code x code maxLocals ret :: ws) room_1) (fun a U => a = #[(.int p0), (.long q1), (.int p3), (.int p4)] ∧ Z.Warmed39 U.vm ∧ U.heap = h0) (fun _ _ _ _ _ => True) (fun _ U o U' => ∃ v L, o = .returned v ∧ Q0 Z p0 q1 p3 p4 h0 n0 v U'.heap L ∧ FrameEnd U o U' L room_1.cells room_1.slots) := by
  refine MetFree.of_bodySF (plainFor_of_name pn_com_example_ulinzi_ulinzi_protocol_ProtocolWriterToByteArrayPinLaw) hisR ?_
  intro p e s m args below meth c s₁ Bd hml0 hP hK
  obtain ⟨rfl, hZ, hh⟩ := hP
  have hx := Bd.exec
  have hby := Bd.bytes
  have hlk : meth.locks = false := Bd.notSynchronized
  have hml : c.maxLocals = 13 := hml0
  have hown : s.vm.findClass "com/example/ulinzi/ulinzi/protocol/ProtocolWriterToByteArrayPinLaw" = some m.cls := findClass_of_methodNamed Bd.named
  have hnm := (name_of_methodNamed Bd.named Bd.method).1
  have X0 : Stand p l e room_1 s m #[(.int p0), (.long q1), (.int p3), (.int p4)] below meth c s₁ [] 0 0 := Stand.of_body Bd
  have e0 : s₁.heap = h0 := by rw [← hh, Bd.state]; rfl
  have N0 := Fr.nil n0
  have K0 : Keep h0 h0 [] := Keep.refl h0 _
  show Wp p e below (Out s (Q0 Z p0 q1 p3 p4 h0 n0) room_1.cells room_1.slots) (s₁.setTop (entryFrame m #[(.int p0), (.long q1), (.int p3), (.int p4)] maxLocals))
  rw [ef_0_0000]
  show Wp p e below _ (s₁.setTop (mkF m 0 #[.val (.int p0), .val (.long q1), .second, .val (.int p3), .val (.int p4), .unset, .unset, .unset, .unset, .unset, .unset, .unset, .unset] []))
  refine Wp.step (fun t k => XS.iload X0.here hx rfl (hb hby at_0) rfl k) ?_
  show Wp p e below _ (s₁.setTop (mkF m 2 #[.val (.int p0), .val (.long q1), .second, .val (.int p3), .val (.int p4), .unset, .unset, .unset, .unset, .unset, .unset, .unset, .unset] [(.int p4)]))
  refine Wp.step (fun t k => XS.iconst X0.here hx rfl (hb hby at_2) k) ?_
  show Wp p e below _ (s₁.setTop (mkF m 3 #[.val (.int p0), .val (.long q1), .second, .val (.int p3), .val (.int p4), .unset, .unset, .unset, .unset, .unset, .unset, .unset, .unset] [(.int (1 : Int32)), (.int p4)]))
  refine Wp.step (fun t k => XS.iand X0.here hx rfl (hb hby at_3) rfl k) ?_
  show Wp p e below _ (s₁.setTop (mkF m 4 #[.val (.int p0), .val (.long q1), .second, .val (.int p3), .val (.int p4), .unset, .unset, .unset, .unset, .unset, .unset, .unset, .unset] [(.int (p4 &&& (1 : Int32)))]))
  by_cases hc1 : (p4 &&& (1 : Int32)) = (0 : Int32)
  · refine Wp.step (fun t k => XS.ifYes X0.here hx rfl (pc0 := 4) (pc' := 11) rfl (hb hby at_4) rfl ((if0 _ _).trans (teq hc1).1) (by decide) (by decide) k) ?_
    show Wp p e below _ (s₁.setTop (mkF m 11 #[.val (.int p0), .val (.long q1), .second, .val (.int p3), .val (.int p4), .unset, .unset, .unset, .unset, .unset, .unset, .unset, .unset] []))
    refine Wp.step (fun t k => XS.iconst X0.here hx rfl (hb hby at_11) k) ?_
    show Wp p e below _ (s₁.setTop (mkF m 12 #[.val (.int p0), .val (.long q1), .second, .val (.int p3), .val (.int p4), .unset, .unset, .unset, .unset, .unset, .unset, .unset, .unset] [(.int (0 : Int32))]))
    refine Wp.step (fun t k => XS.istore X0.here hx rfl (hb hby at_12) rfl (l' := #[.val (.int p0), .val (.long q1), .second, .val (.int p3), .val (.int p4), .val (.int (0 : Int32)), .unset, .unset, .unset, .unset, .unset, .unset, .unset]) rfl k) ?_
    show Wp p e below _ (s₁.setTop (mkF m 14 #[.val (.int p0), .val (.long q1), .second, .val (.int p3), .val (.int p4), .val (.int (0 : Int32)), .unset, .unset, .unset, .unset, .unset, .unset, .unset] []))
    refine Wp.step (fun t k => XS.sipush X0.here hx rfl (hb hby at_14) k) ?_
    show Wp p e below _ (s₁.setTop (mkF m 17 #[.val (.int p0), .val (.long q1), .second, .val (.int p3), .val (.int p4), .val (.int (0 : Int32)), .unset, .unset, .unset, .unset, .unset, .unset, .unset] [(.int (300 : Int32))]))
    obtain ⟨T2, h2, k2, X2, e2, E2, A2, st2⟩ := newP X0 hx hZ (hw _ (List.mem_of_getElem? (i := 0) rfl)) e0 (g := (mkF m 17 #[.val (.int p0), .val (.long q1), .second, .val (.int p3), .val (.int p4), .val (.int (0 : Int32)), .unset, .unset, .unset, .unset, .unset, .unset, .unset] [(.int (300 : Int32))])) rfl (hb hby at_17) rfl (by decide) (cap := 300) (by decide) (by decide) (by decide) (by decide)
    obtain ⟨b2, g2⟩ : ∃ z, z = h0.size := ⟨_, rfl⟩
    rw [← g2] at A2 st2
    have g_b2 : n0 ≤ b2 := Nat.le_trans (Nat.le_trans Z0 K0.1) (Nat.le_of_eq g2.symm)
    have sz_b2 : h0.size ≤ b2 := Nat.le_trans K0.1 (Nat.le_of_eq g2.symm)
    have K3 := K0.ext E2
    have Z2 : (newA k2 .byte (300 : Int32)).slots.size = ((300 : Int32)).toNatClampNeg := sz_new _ _ _
    have nn2 : ¬ (300 : Int32) < 0 := (by decide)
    refine Wp.step st2 ?_
    have B2 := own_IA.new A2 nn2 rfl
    show Wp p e below _ (T2.setTop (mkF m 19 #[.val (.int p0), .val (.long q1), .second, .val (.int p3), .val (.int p4), .val (.int (0 : Int32)), .unset, .unset, .unset, .unset, .unset, .unset, .unset] [(.ref b2)]))
    refine Wp.step (fun t k => XS.astore X2.here hx rfl (hb hby at_19) rfl rfl (l' := #[.val (.int p0), .val (.long q1), .second, .val (.int p3), .val (.int p4), .val (.int (0 : Int32)), .val (.ref b2), .unset, .unset, .unset, .unset, .unset, .unset]) rfl k) ?_
    show Wp p e below _ (T2.setTop (mkF m 21 #[.val (.int p0), .val (.long q1), .second, .val (.int p3), .val (.int p4), .val (.int (0 : Int32)), .val (.ref b2), .unset, .unset, .unset, .unset, .unset, .unset] []))
    refine Wp.step (fun t k => XS.aload X2.here hx rfl (hb hby at_21) rfl rfl k) ?_
    show Wp p e below _ (T2.setTop (mkF m 23 #[.val (.int p0), .val (.long q1), .second, .val (.int p3), .val (.int p4), .val (.int (0 : Int32)), .val (.ref b2), .unset, .unset, .unset, .unset, .unset, .unset] [(.ref b2)]))
    refine Wp.step (fun t k => XS.iconst X2.here hx rfl (hb hby at_23) k) ?_
    show Wp p e below _ (T2.setTop (mkF m 24 #[.val (.int p0), .val (.long q1), .second, .val (.int p3), .val (.int p4), .val (.int (0 : Int32)), .val (.ref b2), .unset, .unset, .unset, .unset, .unset, .unset] [(.int (0 : Int32)), (.ref b2)]))
    refine Wp.step (fun t k => XS.iloadN X2.here hx rfl (hb hby at_24) rfl k) ?_
    show Wp p e below _ (T2.setTop (mkF m 25 #[.val (.int p0), .val (.long q1), .second, .val (.int p3), .val (.int p4), .val (.int (0 : Int32)), .val (.ref b2), .unset, .unset, .unset, .unset, .unset, .unset] [(.int p3), (.int (0 : Int32)), (.ref b2)]))
    refine Wp.step (fun t k => XS.i2b X2.here hx rfl (hb hby at_25) rfl k) ?_
    show Wp p e below _ (T2.setTop (mkF m 26 #[.val (.int p0), .val (.long q1), .second, .val (.int p3), .val (.int p4), .val (.int (0 : Int32)), .val (.ref b2), .unset, .unset, .unset, .unset, .unset, .unset] [(.int (p3.toInt8.toInt32)), (.int (0 : Int32)), (.ref b2)]))
    obtain ⟨cl4, Ar4, Sz4, Nn4, El4⟩ := id B2
    have hin4 : ¬ ((0 : Int32) < 0 ∨ cl4.slots.size ≤ ((0 : Int32)).toNatClampNeg) := inb_of Sz4 ⟨by decide, by decide⟩
    obtain ⟨T4, h4, X4, e4, W4, st4⟩ := stB X2 hx hZ e2 Ar4 (j := (0 : Int32)) hin4 (g := (mkF m 26 #[.val (.int p0), .val (.long q1), .second, .val (.int p3), .val (.int p4), .val (.int (0 : Int32)), .val (.ref b2), .unset, .unset, .unset, .unset, .unset, .unset] [(.int (p3.toInt8.toInt32)), (.int (0 : Int32)), (.ref b2)])) rfl rfl (hb hby at_26)
    have K5 := K3.wr W4 (Or.inr sz_b2)
    have N4 := Fr.snoc X4 N0 g_b2
    have B4 := own_IA.set Ar4 Sz4 Nn4 El4 W4 (fits_nar_byte _)
    rw [own_narb] at B4
    refine Wp.step st4 ?_
    show Wp p e below _ (T4.setTop (mkF m 27 #[.val (.int p0), .val (.long q1), .second, .val (.int p3), .val (.int p4), .val (.int (0 : Int32)), .val (.ref b2), .unset, .unset, .unset, .unset, .unset, .unset] []))
    refine Wp.step (fun t k => XS.aload X4.here hx rfl (hb hby at_27) rfl rfl k) ?_
    show Wp p e below _ (T4.setTop (mkF m 29 #[.val (.int p0), .val (.long q1), .second, .val (.int p3), .val (.int p4), .val (.int (0 : Int32)), .val (.ref b2), .unset, .unset, .unset, .unset, .unset, .unset] [(.ref b2)]))
    refine Wp.step (fun t k => XS.sipush X4.here hx rfl (hb hby at_29) k) ?_
    show Wp p e below _ (T4.setTop (mkF m 32 #[.val (.int p0), .val (.long q1), .second, .val (.int p3), .val (.int p4), .val (.int (0 : Int32)), .val (.ref b2), .unset, .unset, .unset, .unset, .unset, .unset] [(.int (299 : Int32)), (.ref b2)]))
    refine Wp.step (fun t k => XS.iloadN X4.here hx rfl (hb hby at_32) rfl k) ?_
    show Wp p e below _ (T4.setTop (mkF m 33 #[.val (.int p0), .val (.long q1), .second, .val (.int p3), .val (.int p4), .val (.int (0 : Int32)), .val (.ref b2), .unset, .unset, .unset, .unset, .unset, .unset] [(.int p3), (.int (299 : Int32)), (.ref b2)]))
    refine Wp.step (fun t k => XS.bipush X4.here hx rfl (hb hby at_33) k) ?_
    show Wp p e below _ (T4.setTop (mkF m 35 #[.val (.int p0), .val (.long q1), .second, .val (.int p3), .val (.int p4), .val (.int (0 : Int32)), .val (.ref b2), .unset, .unset, .unset, .unset, .unset, .unset] [(.int (8 : Int32)), (.int p3), (.int (299 : Int32)), (.ref b2)]))
    refine Wp.step (fun t k => XS.ishr X4.here hx rfl (hb hby at_35) rfl k) ?_
    show Wp p e below _ (T4.setTop (mkF m 36 #[.val (.int p0), .val (.long q1), .second, .val (.int p3), .val (.int p4), .val (.int (0 : Int32)), .val (.ref b2), .unset, .unset, .unset, .unset, .unset, .unset] [(.int (p3 >>> ((8 : Int32) &&& 31))), (.int (299 : Int32)), (.ref b2)]))
    refine Wp.step (fun t k => XS.i2b X4.here hx rfl (hb hby at_36) rfl k) ?_
    show Wp p e below _ (T4.setTop (mkF m 37 #[.val (.int p0), .val (.long q1), .second, .val (.int p3), .val (.int p4), .val (.int (0 : Int32)), .val (.ref b2), .unset, .unset, .unset, .unset, .unset, .unset] [(.int ((p3 >>> ((8 : Int32) &&& 31)).toInt8.toInt32)), (.int (299 : Int32)), (.ref b2)]))
    obtain ⟨cl6, Ar6, Sz6, Nn6, El6⟩ := id B4
    have hin6 : ¬ ((299 : Int32) < 0 ∨ cl6.slots.size ≤ ((299 : Int32)).toNatClampNeg) := inb_of Sz6 ⟨by decide, by decide⟩
    obtain ⟨T6, h6, X6, e6, W6, st6⟩ := stB X4 hx hZ e4 Ar6 (j := (299 : Int32)) hin6 (g := (mkF m 37 #[.val (.int p0), .val (.long q1), .second, .val (.int p3), .val (.int p4), .val (.int (0 : Int32)), .val (.ref b2), .unset, .unset, .unset, .unset, .unset, .unset] [(.int ((p3 >>> ((8 : Int32) &&& 31)).toInt8.toInt32)), (.int (299 : Int32)), (.ref b2)])) rfl rfl (hb hby at_37)
    have K7 := K5.wr W6 (Or.inr sz_b2)
    have N6 := Fr.snoc X6 N4 g_b2
    have B6 := own_IA.set Ar6 Sz6 Nn6 El6 W6 (fits_nar_byte _)
    rw [own_narb] at B6
    refine Wp.step st6 ?_
    show Wp p e below _ (T6.setTop (mkF m 38 #[.val (.int p0), .val (.long q1), .second, .val (.int p3), .val (.int p4), .val (.int (0 : Int32)), .val (.ref b2), .unset, .unset, .unset, .unset, .unset, .unset] []))
    obtain ⟨T8, h8, X8, e8, E8, A8, D8, -, st8⟩ := newO X6 hx hZ hown (hw _ (List.mem_of_getElem? (i := 1) rfl)) (hw _ (List.mem_of_getElem? (i := 2) rfl)) (hw _ (List.mem_of_getElem? (i := 3) rfl)) e6 (g := (mkF m 38 #[.val (.int p0), .val (.long q1), .second, .val (.int p3), .val (.int p4), .val (.int (0 : Int32)), .val (.ref b2), .unset, .unset, .unset, .unset, .unset, .unset] [])) rfl (hb hby at_38) (by decide) (by decide)
    obtain ⟨b8, g8⟩ : ∃ z, z = h6.size := ⟨_, rfl⟩
    rw [← g8] at A8 D8 st8
    have g_b8 : n0 ≤ b8 := Nat.le_trans (Nat.le_trans Z0 K7.1) (Nat.le_of_eq g8.symm)
    have sz_b8 : h0.size ≤ b8 := Nat.le_trans K7.1 (Nat.le_of_eq g8.symm)
    have ne_b2_b8 : b2 ≠ b8 := Nat.ne_of_lt (Nat.lt_of_lt_of_le B6.lt (Nat.le_of_eq g8.symm))
    have B9 := B6.ext E8
    have K10 := K7.ext E8
    have c11 : Fld Z h8 b8 "com/example/ulinzi/ulinzi/protocol/ProtocolWriter" "bytes" "[B" .null := D8 (Or.inl (hw _ (List.mem_of_getElem? (i := 11) rfl))) (ty := (.array .byte)) (by decide)
    have c12 : Fld Z h8 b8 "com/example/ulinzi/ulinzi/protocol/ProtocolWriter" "size" "I" (.int (0 : Int32)) := D8 (Or.inl (hw _ (List.mem_of_getElem? (i := 18) rfl))) (ty := .int) (by decide)
    refine Wp.step st8 ?_
    show Wp p e below _ (T8.setTop (mkF m 41 #[.val (.int p0), .val (.long q1), .second, .val (.int p3), .val (.int p4), .val (.int (0 : Int32)), .val (.ref b2), .unset, .unset, .unset, .unset, .unset, .unset] [(.ref b8)]))
    refine Wp.step (fun t k => XS.dup X8.here hx rfl (hb hby at_41) rfl rfl k) ?_
    show Wp p e below _ (T8.setTop (mkF m 42 #[.val (.int p0), .val (.long q1), .second, .val (.int p3), .val (.int p4), .val (.int (0 : Int32)), .val (.ref b2), .unset, .unset, .unset, .unset, .unset, .unset] [(.ref b8), (.ref b8)]))
    obtain ⟨_, _, ⟨T13, L13, k13, n13⟩, -, X13, ⟨Lc13, hQ13, l13, y13, z13⟩, st13⟩ := X8.specialBack hx (y := (⟨"com/example/ulinzi/ulinzi/protocol/ProtocolWriter", "<init>", "()V"⟩ : MethodName)) rfl hown (mvT hZ (hw _ (List.mem_of_getElem? (i := 4) rfl))) (mvT hZ (hw _ (List.mem_of_getElem? (i := 5) rfl))) (mvT hZ (hw _ (List.mem_of_getElem? (i := 6) rfl))) (by decide) (backOf (W := 1) (rm1 l Z a0 hw [] b8 h8 n0 (Nat.le_trans Z0 K10.1) g_b8 A8 c12 c11) hZ (hw _ (List.mem_of_getElem? (i := 6) rfl)) (hw _ (List.mem_of_getElem? (i := 3) rfl)) (by decide) (by decide)) (g := (mkF m 42 #[.val (.int p0), .val (.long q1), .second, .val (.int p3), .val (.int p4), .val (.int (0 : Int32)), .val (.ref b2), .unset, .unset, .unset, .unset, .unset, .unset] [(.ref b8), (.ref b8)])) rfl (by rw [hml]; rfl) (Steps.refl _) (a := b8) (argsL := []) (rest := [(.ref b8)]) (lenOf pd_2829V rfl) rfl (by show 2 * 0 + _ ≤ _; exact Nat.le_of_eq rfl) (hb hby at_42) (fun _ _ => ⟨rfl, e8, (by decide : 2 + 1 ≤ _), (by decide : 302 + 256 ≤ _)⟩)
    dsimp only [Pt.U, Pt.locs, Pt.cells, Pt.slots] at X13 l13 y13 z13 st13 hQ13
    subst l13 y13 z13
    obtain ⟨h13, e13⟩ : ∃ z, T13.heap = z := ⟨_, rfl⟩
    rw [e13] at hQ13
    obtain ⟨rfl, N13q, Kc13, E_13, n13arr, sa13, g_n13arr, Fb13, Fs13, B13⟩ := hQ13
    have N13 := Fr.app N6 N13q
    have ne_b2_n13arr : b2 ≠ n13arr := Nat.ne_of_lt (Nat.lt_of_lt_of_le B9.lt sa13)
    have ne_b8_n13arr : b8 ≠ n13arr := Nat.ne_of_lt (Nat.lt_of_lt_of_le A8.lt sa13)
    have sz_n13arr : h0.size ≤ n13arr := Nat.le_trans K10.1 sa13
    have B14 := B9.keep Kc13 (ninS ne_b2_b8 nin0)
    have c15 := A8.keep Kc13
    have K13 := K10.trans Kc13 (allS (Or.inr sz_b8) all0)
    refine Wp.go st13 ?_
    show Wp p e below _ (T13.setTop (mkF m 45 #[.val (.int p0), .val (.long q1), .second, .val (.int p3), .val (.int p4), .val (.int (0 : Int32)), .val (.ref b2), .unset, .unset, .unset, .unset, .unset, .unset] [(.ref b8)]))
    refine Wp.step (fun t k => XS.astore X13.here hx rfl (hb hby at_45) rfl rfl (l' := #[.val (.int p0), .val (.long q1), .second, .val (.int p3), .val (.int p4), .val (.int (0 : Int32)), .val (.ref b2), .val (.ref b8), .unset, .unset, .unset, .unset, .unset]) rfl k) ?_
    show Wp p e below _ (T13.setTop (mkF m 47 #[.val (.int p0), .val (.long q1), .second, .val (.int p3), .val (.int p4), .val (.int (0 : Int32)), .val (.ref b2), .val (.ref b8), .unset, .unset, .unset, .unset, .unset] []))
    refine Wp.step (fun t k => XS.aload X13.here hx rfl (hb hby at_47) rfl rfl k) ?_
    show Wp p e below _ (T13.setTop (mkF m 49 #[.val (.int p0), .val (.long q1), .second, .val (.int p3), .val (.int p4), .val (.int (0 : Int32)), .val (.ref b2), .val (.ref b8), .unset, .unset, .unset, .unset, .unset] [(.ref b8)]))
    obtain ⟨cq16, kq16, q16a, q16b, q16c⟩ := isOf hZ e13 E_13
    obtain ⟨_, _, ⟨T16, L16, k16, n16⟩, -, X16, ⟨Lc16, hQ16, l16, y16, z16⟩, st16⟩ := X13.virtualBack hx (y := (⟨"com/example/ulinzi/ulinzi/protocol/ProtocolWriter", "toByteArray", "()[B"⟩ : MethodName)) (z := (⟨"com/example/ulinzi/ulinzi/protocol/ProtocolWriter", "toByteArray", "()[B"⟩ : MethodName)) hown (mvT hZ (hw _ (List.mem_of_getElem? (i := 12) rfl))) (mvT hZ (hw _ (List.mem_of_getElem? (i := 13) rfl))) (notFace_of_selects (args := #[]) (mvT hZ (hw _ (List.mem_of_getElem? (i := 15) rfl)))) (mvT hZ (hw _ (List.mem_of_getElem? (i := 15) rfl))) (mvT hZ (hw _ (List.mem_of_getElem? (i := 14) rfl))) (by decide) (backOf (W := 0) (rm3 l Z a0 hw [] b8 n13arr (0 : Int32) (256 : Int32) (fun _ => (0 : Int32)) h13 n0 (Nat.le_trans Z0 K13.1) E_13 Fb13 Fs13 B13 (Ne.symm ne_b8_n13arr) (by decide) (by decide) (by decide) (by decide) (by decide) (by decide)) hZ (hw _ (List.mem_of_getElem? (i := 16) rfl)) (hw _ (List.mem_of_getElem? (i := 3) rfl)) (by decide) (by decide)) q16a q16c (g := (mkF m 49 #[.val (.int p0), .val (.long q1), .second, .val (.int p3), .val (.int p4), .val (.int (0 : Int32)), .val (.ref b2), .val (.ref b8), .unset, .unset, .unset, .unset, .unset] [(.ref b8)])) rfl (by rw [hml]; rfl) (Steps.refl _) (argsL := []) (rest := []) (lenOf pd_28295bB rfl) rfl (by show 2 * 0 + _ ≤ _; exact Nat.le_of_eq rfl) (hb hby at_49) (fun _ _ => ⟨rfl, e13, (by decide : 3 + 1 ≤ _), (by decide : 558 + 512 ≤ _)⟩)
    dsimp only [Pt.U, Pt.locs, Pt.cells, Pt.slots] at X16 l16 y16 z16 st16 hQ16
    subst l16 y16 z16
    obtain ⟨h16, e16⟩ : ∃ z, T16.heap = z := ⟨_, rfl⟩
    rw [e16] at hQ16
    obtain ⟨r16, rfl, N16q, Kc16, szr16, g_r16, B_r16⟩ := hQ16
    have N16 := Fr.app N13 N16q
    have ne_b2_r16 : b2 ≠ r16 := Nat.ne_of_lt (Nat.lt_of_lt_of_le B14.lt szr16)
    have ne_b8_r16 : b8 ≠ r16 := Nat.ne_of_lt (Nat.lt_of_lt_of_le E_13.lt szr16)
    have ne_n13arr_r16 : n13arr ≠ r16 := Nat.ne_of_lt (Nat.lt_of_lt_of_le B13.lt szr16)
    have B17 := B14.keep Kc16 nin0
    have c18 := E_13.keep Kc16
    have c19 := Fb13.keep Kc16 nin0
    have c20 := Fs13.keep Kc16 nin0
    have B21 := B13.keep Kc16 nin0
    have sz_r16 : h0.size ≤ r16 := Nat.le_trans K13.1 szr16
    have K16 := K13.trans Kc16 all0
    refine Wp.go st16 ?_
    show Wp p e below _ (T16.setTop (mkF m 52 #[.val (.int p0), .val (.long q1), .second, .val (.int p3), .val (.int p4), .val (.int (0 : Int32)), .val (.ref b2), .val (.ref b8), .unset, .unset, .unset, .unset, .unset] [(.ref r16)]))
    refine Wp.step (fun t k => XS.astore X16.here hx rfl (hb hby at_52) rfl rfl (l' := #[.val (.int p0), .val (.long q1), .second, .val (.int p3), .val (.int p4), .val (.int (0 : Int32)), .val (.ref b2), .val (.ref b8), .val (.ref r16), .unset, .unset, .unset, .unset]) rfl k) ?_
    show Wp p e below _ (T16.setTop (mkF m 54 #[.val (.int p0), .val (.long q1), .second, .val (.int p3), .val (.int p4), .val (.int (0 : Int32)), .val (.ref b2), .val (.ref b8), .val (.ref r16), .unset, .unset, .unset, .unset] []))
    refine Wp.step (fun t k => XS.aload X16.here hx rfl (hb hby at_54) rfl rfl k) ?_
    show Wp p e below _ (T16.setTop (mkF m 56 #[.val (.int p0), .val (.long q1), .second, .val (.int p3), .val (.int p4), .val (.int (0 : Int32)), .val (.ref b2), .val (.ref b8), .val (.ref r16), .unset, .unset, .unset, .unset] [(.ref r16)]))
    obtain ⟨cl22, Ar22, Sz22, Nn22, -⟩ := id B_r16
    refine Wp.step (X16.arraylength hx (by rw [e16]; exact Ar22.1) (State.isArrayOf_alike hZ.alike Ar22.2.1) (g := (mkF m 56 #[.val (.int p0), .val (.long q1), .second, .val (.int p3), .val (.int p4), .val (.int (0 : Int32)), .val (.ref b2), .val (.ref b8), .val (.ref r16), .unset, .unset, .unset, .unset] [(.ref r16)])) rfl rfl (hb hby at_56)) ?_
    rw [len_of Sz22 Nn22]
    show Wp p e below _ (T16.setTop (mkF m 57 #[.val (.int p0), .val (.long q1), .second, .val (.int p3), .val (.int p4), .val (.int (0 : Int32)), .val (.ref b2), .val (.ref b8), .val (.ref r16), .unset, .unset, .unset, .unset] [(.int (0 : Int32))]))
    refine Wp.step (fun t k => XS.ifYes X16.here hx rfl (pc0 := 57) (pc' := 62) rfl (hb hby at_57) rfl ((if0 _ _).trans (teq (show (0 : Int32) = (0 : Int32) by decide)).1) (by decide) (by decide) k) ?_
    show Wp p e below _ (T16.setTop (mkF m 62 #[.val (.int p0), .val (.long q1), .second, .val (.int p3), .val (.int p4), .val (.int (0 : Int32)), .val (.ref b2), .val (.ref b8), .val (.ref r16), .unset, .unset, .unset, .unset] []))
    obtain ⟨T24, h24, X24, e24, E24, A24, D24, -, st24⟩ := newO X16 hx hZ hown (hw _ (List.mem_of_getElem? (i := 1) rfl)) (hw _ (List.mem_of_getElem? (i := 2) rfl)) (hw _ (List.mem_of_getElem? (i := 3) rfl)) e16 (g := (mkF m 62 #[.val (.int p0), .val (.long q1), .second, .val (.int p3), .val (.int p4), .val (.int (0 : Int32)), .val (.ref b2), .val (.ref b8), .val (.ref r16), .unset, .unset, .unset, .unset] [])) rfl (hb hby at_62) (by decide) (by decide)
    obtain ⟨b24, g24⟩ : ∃ z, z = h16.size := ⟨_, rfl⟩
    rw [← g24] at A24 D24 st24
    have g_b24 : n0 ≤ b24 := Nat.le_trans (Nat.le_trans Z0 K16.1) (Nat.le_of_eq g24.symm)
    have sz_b24 : h0.size ≤ b24 := Nat.le_trans K16.1 (Nat.le_of_eq g24.symm)
    have ne_b2_b24 : b2 ≠ b24 := Nat.ne_of_lt (Nat.lt_of_lt_of_le B17.lt (Nat.le_of_eq g24.symm))
    have B25 := B17.ext E24
    have K26 := K16.ext E24
    have c27 : Fld Z h24 b24 "com/example/ulinzi/ulinzi/protocol/ProtocolWriter" "bytes" "[B" .null := D24 (Or.inl (hw _ (List.mem_of_getElem? (i := 11) rfl))) (ty := (.array .byte)) (by decide)
    have c28 : Fld Z h24 b24 "com/example/ulinzi/ulinzi/protocol/ProtocolWriter" "size" "I" (.int (0 : Int32)) := D24 (Or.inl (hw _ (List.mem_of_getElem? (i := 18) rfl))) (ty := .int) (by decide)
    refine Wp.step st24 ?_
    show Wp p e below _ (T24.setTop (mkF m 65 #[.val (.int p0), .val (.long q1), .second, .val (.int p3), .val (.int p4), .val (.int (0 : Int32)), .val (.ref b2), .val (.ref b8), .val (.ref r16), .unset, .unset, .unset, .unset] [(.ref b24)]))
    refine Wp.step (fun t k => XS.dup X24.here hx rfl (hb hby at_65) rfl rfl k) ?_
    show Wp p e below _ (T24.setTop (mkF m 66 #[.val (.int p0), .val (.long q1), .second, .val (.int p3), .val (.int p4), .val (.int (0 : Int32)), .val (.ref b2), .val (.ref b8), .val (.ref r16), .unset, .unset, .unset, .unset] [(.ref b24), (.ref b24)]))
    obtain ⟨_, _, ⟨T29, L29, k29, n29⟩, -, X29, ⟨Lc29, hQ29, l29, y29, z29⟩, st29⟩ := X24.specialBack hx (y := (⟨"com/example/ulinzi/ulinzi/protocol/ProtocolWriter", "<init>", "()V"⟩ : MethodName)) rfl hown (mvT hZ (hw _ (List.mem_of_getElem? (i := 4) rfl))) (mvT hZ (hw _ (List.mem_of_getElem? (i := 5) rfl))) (mvT hZ (hw _ (List.mem_of_getElem? (i := 6) rfl))) (by decide) (backOf (W := 1) (rm1 l Z a0 hw [] b24 h24 n0 (Nat.le_trans Z0 K26.1) g_b24 A24 c28 c27) hZ (hw _ (List.mem_of_getElem? (i := 6) rfl)) (hw _ (List.mem_of_getElem? (i := 3) rfl)) (by decide) (by decide)) (g := (mkF m 66 #[.val (.int p0), .val (.long q1), .second, .val (.int p3), .val (.int p4), .val (.int (0 : Int32)), .val (.ref b2), .val (.ref b8), .val (.ref r16), .unset, .unset, .unset, .unset] [(.ref b24), (.ref b24)])) rfl (by rw [hml]; rfl) (Steps.refl _) (a := b24) (argsL := []) (rest := [(.ref b24)]) (lenOf pd_2829V rfl) rfl (by show 2 * 0 + _ ≤ _; exact Nat.le_of_eq rfl) (hb hby at_66) (fun _ _ => ⟨rfl, e24, (by decide : 5 + 1 ≤ _), (by decide : 1072 + 256 ≤ _)⟩)
    dsimp only [Pt.U, Pt.locs, Pt.cells, Pt.slots] at X29 l29 y29 z29 st29 hQ29
    subst l29 y29 z29
    obtain ⟨h29, e29⟩ : ∃ z, T29.heap = z := ⟨_, rfl⟩
    rw [e29] at hQ29
    obtain ⟨rfl, N29q, Kc29, E_29, n29arr, sa29, g_n29arr, Fb29, Fs29, B29⟩ := hQ29
    have N29 := Fr.app N16 N29q
    have ne_b2_n29arr : b2 ≠ n29arr := Nat.ne_of_lt (Nat.lt_of_lt_of_le B25.lt sa29)
    have ne_b24_n29arr : b24 ≠ n29arr := Nat.ne_of_lt (Nat.lt_of_lt_of_le A24.lt sa29)
    have sz_n29arr : h0.size ≤ n29arr := Nat.le_trans K26.1 sa29
    have B30 := B25.keep Kc29 (ninS ne_b2_b24 nin0)
    have c31 := A24.keep Kc29
    have K29 := K26.trans Kc29 (allS (Or.inr sz_b24) all0)
    refine Wp.go st29 ?_
    show Wp p e below _ (T29.setTop (mkF m 69 #[.val (.int p0), .val (.long q1), .second, .val (.int p3), .val (.int p4), .val (.int (0 : Int32)), .val (.ref b2), .val (.ref b8), .val (.ref r16), .unset, .unset, .unset, .unset] [(.ref b24)]))
    refine Wp.step (fun t k => XS.astore X29.here hx rfl (hb hby at_69) rfl rfl (l' := #[.val (.int p0), .val (.long q1), .second, .val (.int p3), .val (.int p4), .val (.int (0 : Int32)), .val (.ref b2), .val (.ref b8), .val (.ref r16), .val (.ref b24), .unset, .unset, .unset]) rfl k) ?_
    show Wp p e below _ (T29.setTop (mkF m 71 #[.val (.int p0), .val (.long q1), .second, .val (.int p3), .val (.int p4), .val (.int (0 : Int32)), .val (.ref b2), .val (.ref b8), .val (.ref r16), .val (.ref b24), .unset, .unset, .unset] []))
    refine Wp.step (fun t k => XS.aload X29.here hx rfl (hb hby at_71) rfl rfl k) ?_
    show Wp p e below _ (T29.setTop (mkF m 73 #[.val (.int p0), .val (.long q1), .second, .val (.int p3), .val (.int p4), .val (.int (0 : Int32)), .val (.ref b2), .val (.ref b8), .val (.ref r16), .val (.ref b24), .unset, .unset, .unset] [(.ref b24)]))
    refine Wp.step (fun t k => XS.iloadN X29.here hx rfl (hb hby at_73) rfl k) ?_
    show Wp p e below _ (T29.setTop (mkF m 74 #[.val (.int p0), .val (.long q1), .second, .val (.int p3), .val (.int p4), .val (.int (0 : Int32)), .val (.ref b2), .val (.ref b8), .val (.ref r16), .val (.ref b24), .unset, .unset, .unset] [(.int p0), (.ref b24)]))
    obtain ⟨cq32, kq32, q32a, q32b, q32c⟩ := isOf hZ e29 E_29
    obtain ⟨_, _, ⟨T32, L32, k32, n32⟩, -, X32, ⟨Lc32, hQ32, l32, y32, z32⟩, st32⟩ := X29.virtualBack hx (y := (⟨"com/example/ulinzi/ulinzi/protocol/ProtocolWriter", "writeInt32", "(I)Lcom/example/ulinzi/ulinzi/protocol/ProtocolWriter;"⟩ : MethodName)) (z := (⟨"com/example/ulinzi/ulinzi/protocol/ProtocolWriter", "writeInt32", "(I)Lcom/example/ulinzi/ulinzi/protocol/ProtocolWriter;"⟩ : MethodName)) hown (mvT hZ (hw _ (List.mem_of_getElem? (i := 31) rfl))) (mvT hZ (hw _ (List.mem_of_getElem? (i := 32) rfl))) (notFace_of_selects (args := #[]) (mvT hZ (hw _ (List.mem_of_getElem? (i := 34) rfl)))) (mvT hZ (hw _ (List.mem_of_getElem? (i := 34) rfl))) (mvT hZ (hw _ (List.mem_of_getElem? (i := 33) rfl))) (by decide) (backOf (W := 0) (rm6 l Z a0 hw [] b24 p0 n29arr (0 : Int32) (256 : Int32) (fun _ => (0 : Int32)) (4 : Int32) h29 n0 (Nat.le_trans Z0 K29.1) g_b24 g_n29arr E_29 Fb29 Fs29 B29 (Ne.symm ne_b24_n29arr) (by decide) (by decide) (by decide) (by decide) (by decide) (by decide)) hZ (hw _ (List.mem_of_getElem? (i := 35) rfl)) (hw _ (List.mem_of_getElem? (i := 3) rfl)) (by decide) (by decide)) q32a q32c (g := (mkF m 74 #[.val (.int p0), .val (.long q1), .second, .val (.int p3), .val (.int p4), .val (.int (0 : Int32)), .val (.ref b2), .val (.ref b8), .val (.ref r16), .val (.ref b24), .unset, .unset, .unset] [(.int p0), (.ref b24)])) rfl (by rw [hml]; rfl) (Steps.refl _) (argsL := [(.int p0)]) (rest := []) (lenOf pd_28I29Lcom2fexample2fulinzi2fulinzi2fprotocol2fProtocolWriter3b rfl) rfl (by show 2 * 0 + _ ≤ _; exact Nat.le_of_eq rfl) (hb hby at_74) (fun _ _ => ⟨rfl, e29, (by decide : 6 + 0 ≤ _), (by decide : 1328 + 0 ≤ _)⟩)
    dsimp only [Pt.U, Pt.locs, Pt.cells, Pt.slots] at X32 l32 y32 z32 st32 hQ32
    subst l32 y32 z32
    obtain ⟨h32, e32⟩ : ∃ z, T32.heap = z := ⟨_, rfl⟩
    rw [e32] at hQ32
    obtain ⟨rfl, N32q, Kc32, E_32, Fb32, Fs32, B32⟩ := hQ32
    have N32 := Fr.app N29 N32q
    have B33 := B30.keep Kc32 (ninS ne_b2_b24 (ninS ne_b2_n29arr nin0))
    have c34 := E_29.keep Kc32
    have K32 := K29.trans Kc32 (allS (Or.inr sz_b24) (allS (Or.inr sz_n29arr) all0))
    refine Wp.go st32 ?_
    show Wp p e below _ (T32.setTop (mkF m 77 #[.val (.int p0), .val (.long q1), .second, .val (.int p3), .val (.int p4), .val (.int (0 : Int32)), .val (.ref b2), .val (.ref b8), .val (.ref r16), .val (.ref b24), .unset, .unset, .unset] [(.ref b24)]))
    refine Wp.step (fun t k => XS.pop X32.here hx rfl (hb hby at_77) rfl rfl k) ?_
    show Wp p e below _ (T32.setTop (mkF m 78 #[.val (.int p0), .val (.long q1), .second, .val (.int p3), .val (.int p4), .val (.int (0 : Int32)), .val (.ref b2), .val (.ref b8), .val (.ref r16), .val (.ref b24), .unset, .unset, .unset] []))
    refine Wp.step (fun t k => XS.aload X32.here hx rfl (hb hby at_78) rfl rfl k) ?_
    show Wp p e below _ (T32.setTop (mkF m 80 #[.val (.int p0), .val (.long q1), .second, .val (.int p3), .val (.int p4), .val (.int (0 : Int32)), .val (.ref b2), .val (.ref b8), .val (.ref r16), .val (.ref b24), .unset, .unset, .unset] [(.ref b24)]))
    refine Wp.step (fun t k => XS.lloadN X32.here hx rfl (hb hby at_80) rfl k) ?_
    show Wp p e below _ (T32.setTop (mkF m 81 #[.val (.int p0), .val (.long q1), .second, .val (.int p3), .val (.int p4), .val (.int (0 : Int32)), .val (.ref b2), .val (.ref b8), .val (.ref r16), .val (.ref b24), .unset, .unset, .unset] [(.long q1), (.ref b24)]))
    obtain ⟨cq36, kq36, q36a, q36b, q36c⟩ := isOf hZ e32 E_32
    obtain ⟨_, _, ⟨T36, L36, k36, n36⟩, -, X36, ⟨Lc36, hQ36, l36, y36, z36⟩, st36⟩ := X32.virtualBack hx (y := (⟨"com/example/ulinzi/ulinzi/protocol/ProtocolWriter", "writeInt64", "(J)Lcom/example/ulinzi/ulinzi/protocol/ProtocolWriter;"⟩ : MethodName)) (z := (⟨"com/example/ulinzi/ulinzi/protocol/ProtocolWriter", "writeInt64", "(J)Lcom/example/ulinzi/ulinzi/protocol/ProtocolWriter;"⟩ : MethodName)) hown (mvT hZ (hw _ (List.mem_of_getElem? (i := 40) rfl))) (mvT hZ (hw _ (List.mem_of_getElem? (i := 41) rfl))) (notFace_of_selects (args := #[]) (mvT hZ (hw _ (List.mem_of_getElem? (i := 43) rfl)))) (mvT hZ (hw _ (List.mem_of_getElem? (i := 43) rfl))) (mvT hZ (hw _ (List.mem_of_getElem? (i := 42) rfl))) (by decide) (backOf (W := 0) (rm8 l Z a0 hw [] b24 q1 n29arr (own_w4 (fun _ => (0 : Int32)) (0 : Int32) p0) h32 n0 (Nat.le_trans Z0 K32.1) g_b24 g_n29arr E_32 Fb32 Fs32 B32 (Ne.symm ne_b24_n29arr)) hZ (hw _ (List.mem_of_getElem? (i := 44) rfl)) (hw _ (List.mem_of_getElem? (i := 3) rfl)) (by decide) (by decide)) q36a q36c (g := (mkF m 81 #[.val (.int p0), .val (.long q1), .second, .val (.int p3), .val (.int p4), .val (.int (0 : Int32)), .val (.ref b2), .val (.ref b8), .val (.ref r16), .val (.ref b24), .unset, .unset, .unset] [(.long q1), (.ref b24)])) rfl (by rw [hml]; rfl) (Steps.refl _) (argsL := [(.long q1)]) (rest := []) (lenOf pd_28J29Lcom2fexample2fulinzi2fulinzi2fprotocol2fProtocolWriter3b rfl) rfl (by show 2 * 0 + _ ≤ _; exact Nat.le_of_eq rfl) (hb hby at_81) (fun _ _ => ⟨rfl, e32, (by decide : 6 + 0 ≤ _), (by decide : 1328 + 0 ≤ _)⟩)
    dsimp only [Pt.U, Pt.locs, Pt.cells, Pt.slots] at X36 l36 y36 z36 st36 hQ36
    subst l36 y36 z36
    obtain ⟨h36, e36⟩ : ∃ z, T36.heap = z := ⟨_, rfl⟩
    rw [e36] at hQ36
    obtain ⟨rfl, N36q, Kc36, E_36, Fb36, Fs36, B36⟩ := hQ36
    have N36 := Fr.app N32 N36q
    have B37 := B33.keep Kc36 (ninS ne_b2_b24 (ninS ne_b2_n29arr nin0))
    have c38 := E_32.keep Kc36
    have K36 := K32.trans Kc36 (allS (Or.inr sz_b24) (allS (Or.inr sz_n29arr) all0))
    refine Wp.go st36 ?_
    show Wp p e below _ (T36.setTop (mkF m 84 #[.val (.int p0), .val (.long q1), .second, .val (.int p3), .val (.int p4), .val (.int (0 : Int32)), .val (.ref b2), .val (.ref b8), .val (.ref r16), .val (.ref b24), .unset, .unset, .unset] [(.ref b24)]))
    refine Wp.step (fun t k => XS.pop X36.here hx rfl (hb hby at_84) rfl rfl k) ?_
    show Wp p e below _ (T36.setTop (mkF m 85 #[.val (.int p0), .val (.long q1), .second, .val (.int p3), .val (.int p4), .val (.int (0 : Int32)), .val (.ref b2), .val (.ref b8), .val (.ref r16), .val (.ref b24), .unset, .unset, .unset] []))
    refine Wp.step (fun t k => XS.iload X36.here hx rfl (hb hby at_85) rfl k) ?_
    show Wp p e below _ (T36.setTop (mkF m 87 #[.val (.int p0), .val (.long q1), .second, .val (.int p3), .val (.int p4), .val (.int (0 : Int32)), .val (.ref b2), .val (.ref b8), .val (.ref r16), .val (.ref b24), .unset, .unset, .unset] [(.int (0 : Int32))]))
    refine Wp.step (fun t k => XS.ifYes X36.here hx rfl (pc0 := 87) (pc' := 98) rfl (hb hby at_87) rfl ((if0 _ _).trans (teq (show (0 : Int32) = (0 : Int32) by decide)).1) (by decide) (by decide) k) ?_
    show Wp p e below _ (T36.setTop (mkF m 98 #[.val (.int p0), .val (.long q1), .second, .val (.int p3), .val (.int p4), .val (.int (0 : Int32)), .val (.ref b2), .val (.ref b8), .val (.ref r16), .val (.ref b24), .unset, .unset, .unset] []))
    refine Wp.step (fun t k => XS.aload X36.here hx rfl (hb hby at_98) rfl rfl k) ?_
    show Wp p e below _ (T36.setTop (mkF m 100 #[.val (.int p0), .val (.long q1), .second, .val (.int p3), .val (.int p4), .val (.int (0 : Int32)), .val (.ref b2), .val (.ref b8), .val (.ref r16), .val (.ref b24), .unset, .unset, .unset] [(.ref b24)]))
    refine Wp.step (fun t k => XS.iloadN X36.here hx rfl (hb hby at_100) rfl k) ?_
    show Wp p e below _ (T36.setTop (mkF m 101 #[.val (.int p0), .val (.long q1), .second, .val (.int p3), .val (.int p4), .val (.int (0 : Int32)), .val (.ref b2), .val (.ref b8), .val (.ref r16), .val (.ref b24), .unset, .unset, .unset] [(.int p3), (.ref b24)]))
    obtain ⟨cq41, kq41, q41a, q41b, q41c⟩ := isOf hZ e36 E_36
    obtain ⟨_, _, ⟨T41, L41, k41, n41⟩, -, X41, ⟨Lc41, hQ41, l41, y41, z41⟩, st41⟩ := X36.virtualBack hx (y := (⟨"com/example/ulinzi/ulinzi/protocol/ProtocolWriter", "writeInt8", "(I)Lcom/example/ulinzi/ulinzi/protocol/ProtocolWriter;"⟩ : MethodName)) (z := (⟨"com/example/ulinzi/ulinzi/protocol/ProtocolWriter", "writeInt8", "(I)Lcom/example/ulinzi/ulinzi/protocol/ProtocolWriter;"⟩ : MethodName)) hown (mvT hZ (hw _ (List.mem_of_getElem? (i := 46) rfl))) (mvT hZ (hw _ (List.mem_of_getElem? (i := 47) rfl))) (notFace_of_selects (args := #[]) (mvT hZ (hw _ (List.mem_of_getElem? (i := 49) rfl)))) (mvT hZ (hw _ (List.mem_of_getElem? (i := 49) rfl))) (mvT hZ (hw _ (List.mem_of_getElem? (i := 48) rfl))) (by decide) (backOf (W := 0) (rm9 l Z a0 hw [] b24 p3 n29arr (12 : Int32) (256 : Int32) (own_w4 (own_w4 (own_w4 (fun _ => (0 : Int32)) (0 : Int32) p0) (4 : Int32) (q1 >>> ((32 : Int32) &&& 0x3f).toInt64).toInt32) (8 : Int32) q1.toInt32) (13 : Int32) h36 n0 (Nat.le_trans Z0 K36.1) g_b24 g_n29arr E_36 Fb36 Fs36 B36 (Ne.symm ne_b24_n29arr) (by decide) (by decide) (by decide)) hZ (hw _ (List.mem_of_getElem? (i := 50) rfl)) (hw _ (List.mem_of_getElem? (i := 3) rfl)) (by decide) (by decide)) q41a q41c (g := (mkF m 101 #[.val (.int p0), .val (.long q1), .second, .val (.int p3), .val (.int p4), .val (.int (0 : Int32)), .val (.ref b2), .val (.ref b8), .val (.ref r16), .val (.ref b24), .unset, .unset, .unset] [(.int p3), (.ref b24)])) rfl (by rw [hml]; rfl) (Steps.refl _) (argsL := [(.int p3)]) (rest := []) (lenOf pd_28I29Lcom2fexample2fulinzi2fulinzi2fprotocol2fProtocolWriter3b rfl) rfl (by show 2 * 0 + _ ≤ _; exact Nat.le_of_eq rfl) (hb hby at_101) (fun _ _ => ⟨rfl, e36, (by decide : 6 + 0 ≤ _), (by decide : 1328 + 0 ≤ _)⟩)
    dsimp only [Pt.U, Pt.locs, Pt.cells, Pt.slots] at X41 l41 y41 z41 st41 hQ41
    subst l41 y41 z41
    obtain ⟨h41, e41⟩ : ∃ z, T41.heap = z := ⟨_, rfl⟩
    rw [e41] at hQ41
    obtain ⟨rfl, N41q, Kc41, E_41, Fb41, Fs41, B41⟩ := hQ41
    have N41 := Fr.app N36 N41q
    have B42 := B37.keep Kc41 (ninS ne_b2_b24 (ninS ne_b2_n29arr nin0))
    have c43 := E_36.keep Kc41
    have K41 := K36.trans Kc41 (allS (Or.inr sz_b24) (allS (Or.inr sz_n29arr) all0))
    refine Wp.go st41 ?_
    show Wp p e below _ (T41.setTop (mkF m 104 #[.val (.int p0), .val (.long q1), .second, .val (.int p3), .val (.int p4), .val (.int (0 : Int32)), .val (.ref b2), .val (.ref b8), .val (.ref r16), .val (.ref b24), .unset, .unset, .unset] [(.ref b24)]))
    refine Wp.step (fun t k => XS.pop X41.here hx rfl (hb hby at_104) rfl rfl k) ?_
    show Wp p e below _ (T41.setTop (mkF m 105 #[.val (.int p0), .val (.long q1), .second, .val (.int p3), .val (.int p4), .val (.int (0 : Int32)), .val (.ref b2), .val (.ref b8), .val (.ref r16), .val (.ref b24), .unset, .unset, .unset] []))
    refine Wp.step (fun t k => XS.aload X41.here hx rfl (hb hby at_105) rfl rfl k) ?_
    show Wp p e below _ (T41.setTop (mkF m 107 #[.val (.int p0), .val (.long q1), .second, .val (.int p3), .val (.int p4), .val (.int (0 : Int32)), .val (.ref b2), .val (.ref b8), .val (.ref r16), .val (.ref b24), .unset, .unset, .unset] [(.ref b24)]))
    obtain ⟨cq45, kq45, q45a, q45b, q45c⟩ := isOf hZ e41 E_41
    obtain ⟨_, _, ⟨T45, L45, k45, n45⟩, -, X45, ⟨Lc45, hQ45, l45, y45, z45⟩, st45⟩ := X41.virtualBack hx (y := (⟨"com/example/ulinzi/ulinzi/protocol/ProtocolWriter", "toByteArray", "()[B"⟩ : MethodName)) (z := (⟨"com/example/ulinzi/ulinzi/protocol/ProtocolWriter", "toByteArray", "()[B"⟩ : MethodName)) hown (mvT hZ (hw _ (List.mem_of_getElem? (i := 12) rfl))) (mvT hZ (hw _ (List.mem_of_getElem? (i := 13) rfl))) (notFace_of_selects (args := #[]) (mvT hZ (hw _ (List.mem_of_getElem? (i := 15) rfl)))) (mvT hZ (hw _ (List.mem_of_getElem? (i := 15) rfl))) (mvT hZ (hw _ (List.mem_of_getElem? (i := 14) rfl))) (by decide) (backOf (W := 0) (rm3 l Z a0 hw [] b24 n29arr (13 : Int32) (256 : Int32) (own_w1 (own_w4 (own_w4 (own_w4 (fun _ => (0 : Int32)) (0 : Int32) p0) (4 : Int32) (q1 >>> ((32 : Int32) &&& 0x3f).toInt64).toInt32) (8 : Int32) q1.toInt32) (12 : Int32) p3) h41 n0 (Nat.le_trans Z0 K41.1) E_41 Fb41 Fs41 B41 (Ne.symm ne_b24_n29arr) (by decide) (by decide) (by decide) (by decide) (by decide) (by decide)) hZ (hw _ (List.mem_of_getElem? (i := 16) rfl)) (hw _ (List.mem_of_getElem? (i := 3) rfl)) (by decide) (by decide)) q45a q45c (g := (mkF m 107 #[.val (.int p0), .val (.long q1), .second, .val (.int p3), .val (.int p4), .val (.int (0 : Int32)), .val (.ref b2), .val (.ref b8), .val (.ref r16), .val (.ref b24), .unset, .unset, .unset] [(.ref b24)])) rfl (by rw [hml]; rfl) (Steps.refl _) (argsL := []) (rest := []) (lenOf pd_28295bB rfl) rfl (by show 2 * 0 + _ ≤ _; exact Nat.le_of_eq rfl) (hb hby at_107) (fun _ _ => ⟨rfl, e41, (by decide : 6 + 1 ≤ _), (by decide : 1328 + 512 ≤ _)⟩)
    dsimp only [Pt.U, Pt.locs, Pt.cells, Pt.slots] at X45 l45 y45 z45 st45 hQ45
    subst l45 y45 z45
    obtain ⟨h45, e45⟩ : ∃ z, T45.heap = z := ⟨_, rfl⟩
    rw [e45] at hQ45
    obtain ⟨r45, rfl, N45q, Kc45, szr45, g_r45, B_r45⟩ := hQ45
    have N45 := Fr.app N41 N45q
    have ne_b2_r45 : b2 ≠ r45 := Nat.ne_of_lt (Nat.lt_of_lt_of_le B42.lt szr45)
    have ne_b24_r45 : b24 ≠ r45 := Nat.ne_of_lt (Nat.lt_of_lt_of_le E_41.lt szr45)
    have ne_n29arr_r45 : n29arr ≠ r45 := Nat.ne_of_lt (Nat.lt_of_lt_of_le B41.lt szr45)
    have B46 := B42.keep Kc45 nin0
    have c47 := E_41.keep Kc45
    have c48 := Fb41.keep Kc45 nin0
    have c49 := Fs41.keep Kc45 nin0
    have B50 := B41.keep Kc45 nin0
    have sz_r45 : h0.size ≤ r45 := Nat.le_trans K41.1 szr45
    have K45 := K41.trans Kc45 all0
    refine Wp.go st45 ?_
    show Wp p e below _ (T45.setTop (mkF m 110 #[.val (.int p0), .val (.long q1), .second, .val (.int p3), .val (.int p4), .val (.int (0 : Int32)), .val (.ref b2), .val (.ref b8), .val (.ref r16), .val (.ref b24), .unset, .unset, .unset] [(.ref r45)]))
    refine Wp.step (fun t k => XS.astore X45.here hx rfl (hb hby at_110) rfl rfl (l' := #[.val (.int p0), .val (.long q1), .second, .val (.int p3), .val (.int p4), .val (.int (0 : Int32)), .val (.ref b2), .val (.ref b8), .val (.ref r16), .val (.ref b24), .val (.ref r45), .unset, .unset]) rfl k) ?_
    show Wp p e below _ (T45.setTop (mkF m 112 #[.val (.int p0), .val (.long q1), .second, .val (.int p3), .val (.int p4), .val (.int (0 : Int32)), .val (.ref b2), .val (.ref b8), .val (.ref r16), .val (.ref b24), .val (.ref r45), .unset, .unset] []))
    refine Wp.step (fun t k => XS.iload X45.here hx rfl (hb hby at_112) rfl k) ?_
    show Wp p e below _ (T45.setTop (mkF m 114 #[.val (.int p0), .val (.long q1), .second, .val (.int p3), .val (.int p4), .val (.int (0 : Int32)), .val (.ref b2), .val (.ref b8), .val (.ref r16), .val (.ref b24), .val (.ref r45), .unset, .unset] [(.int (0 : Int32))]))
    refine Wp.step (fun t k => XS.ifYes X45.here hx rfl (pc0 := 114) (pc' := 123) rfl (hb hby at_114) rfl ((if0 _ _).trans (teq (show (0 : Int32) = (0 : Int32) by decide)).1) (by decide) (by decide) k) ?_
    show Wp p e below _ (T45.setTop (mkF m 123 #[.val (.int p0), .val (.long q1), .second, .val (.int p3), .val (.int p4), .val (.int (0 : Int32)), .val (.ref b2), .val (.ref b8), .val (.ref r16), .val (.ref b24), .val (.ref r45), .unset, .unset] []))
    refine Wp.step (fun t k => XS.bipush X45.here hx rfl (hb hby at_123) k) ?_
    show Wp p e below _ (T45.setTop (mkF m 125 #[.val (.int p0), .val (.long q1), .second, .val (.int p3), .val (.int p4), .val (.int (0 : Int32)), .val (.ref b2), .val (.ref b8), .val (.ref r16), .val (.ref b24), .val (.ref r45), .unset, .unset] [(.int (13 : Int32))]))
    refine Wp.step (fun t k => XS.istore X45.here hx rfl (hb hby at_125) rfl (l' := #[.val (.int p0), .val (.long q1), .second, .val (.int p3), .val (.int p4), .val (.int (0 : Int32)), .val (.ref b2), .val (.ref b8), .val (.ref r16), .val (.ref b24), .val (.ref r45), .val (.int (13 : Int32)), .unset]) rfl k) ?_
    show Wp p e below _ (T45.setTop (mkF m 127 #[.val (.int p0), .val (.long q1), .second, .val (.int p3), .val (.int p4), .val (.int (0 : Int32)), .val (.ref b2), .val (.ref b8), .val (.ref r16), .val (.ref b24), .val (.ref r45), .val (.int (13 : Int32)), .unset] []))
    refine Wp.step (fun t k => XS.aload X45.here hx rfl (hb hby at_127) rfl rfl k) ?_
    show Wp p e below _ (T45.setTop (mkF m 129 #[.val (.int p0), .val (.long q1), .second, .val (.int p3), .val (.int p4), .val (.int (0 : Int32)), .val (.ref b2), .val (.ref b8), .val (.ref r16), .val (.ref b24), .val (.ref r45), .val (.int (13 : Int32)), .unset] [(.ref r45)]))
    obtain ⟨cl52, Ar52, Sz52, Nn52, -⟩ := id B_r45
    refine Wp.step (X45.arraylength hx (by rw [e45]; exact Ar52.1) (State.isArrayOf_alike hZ.alike Ar52.2.1) (g := (mkF m 129 #[.val (.int p0), .val (.long q1), .second, .val (.int p3), .val (.int p4), .val (.int (0 : Int32)), .val (.ref b2), .val (.ref b8), .val (.ref r16), .val (.ref b24), .val (.ref r45), .val (.int (13 : Int32)), .unset] [(.ref r45)])) rfl rfl (hb hby at_129)) ?_
    rw [len_of Sz52 Nn52]
    show Wp p e below _ (T45.setTop (mkF m 130 #[.val (.int p0), .val (.long q1), .second, .val (.int p3), .val (.int p4), .val (.int (0 : Int32)), .val (.ref b2), .val (.ref b8), .val (.ref r16), .val (.ref b24), .val (.ref r45), .val (.int (13 : Int32)), .unset] [(.int (13 : Int32))]))
    refine Wp.step (fun t k => XS.iload X45.here hx rfl (hb hby at_130) rfl k) ?_
    show Wp p e below _ (T45.setTop (mkF m 132 #[.val (.int p0), .val (.long q1), .second, .val (.int p3), .val (.int p4), .val (.int (0 : Int32)), .val (.ref b2), .val (.ref b8), .val (.ref r16), .val (.ref b24), .val (.ref r45), .val (.int (13 : Int32)), .unset] [(.int (13 : Int32)), (.int (13 : Int32))]))
    refine Wp.step (fun t k => XS.icmpNo X45.here hx rfl (hb hby at_132) rfl (teq (show (13 : Int32) = (13 : Int32) by decide)).2 k) ?_
    show Wp p e below _ (T45.setTop (mkF m 135 #[.val (.int p0), .val (.long q1), .second, .val (.int p3), .val (.int p4), .val (.int (0 : Int32)), .val (.ref b2), .val (.ref b8), .val (.ref r16), .val (.ref b24), .val (.ref r45), .val (.int (13 : Int32)), .unset] []))
    refine Wp.step (fun t k => XS.aload X45.here hx rfl (hb hby at_135) rfl rfl k) ?_
    show Wp p e below _ (T45.setTop (mkF m 137 #[.val (.int p0), .val (.long q1), .second, .val (.int p3), .val (.int p4), .val (.int (0 : Int32)), .val (.ref b2), .val (.ref b8), .val (.ref r16), .val (.ref b24), .val (.ref r45), .val (.int (13 : Int32)), .unset] [(.ref b24)]))
    obtain ⟨cq54, kq54, q54a, q54b, q54c⟩ := isOf hZ e45 c47
    obtain ⟨_, _, ⟨T54, L54, k54, n54⟩, -, X54, ⟨Lc54, hQ54, l54, y54, z54⟩, st54⟩ := X45.virtualBack hx (y := (⟨"com/example/ulinzi/ulinzi/protocol/ProtocolWriter", "size", "()I"⟩ : MethodName)) (z := (⟨"com/example/ulinzi/ulinzi/protocol/ProtocolWriter", "size", "()I"⟩ : MethodName)) hown (mvT hZ (hw _ (List.mem_of_getElem? (i := 51) rfl))) (mvT hZ (hw _ (List.mem_of_getElem? (i := 52) rfl))) (notFace_of_selects (args := #[]) (mvT hZ (hw _ (List.mem_of_getElem? (i := 54) rfl)))) (mvT hZ (hw _ (List.mem_of_getElem? (i := 54) rfl))) (mvT hZ (hw _ (List.mem_of_getElem? (i := 53) rfl))) (by decide) (backOf (W := 0) (rm10 l Z a0 hw [] b24 (13 : Int32) h45 n0 (Nat.le_trans Z0 K45.1) c49) hZ (hw _ (List.mem_of_getElem? (i := 55) rfl)) (hw _ (List.mem_of_getElem? (i := 3) rfl)) (by decide) (by decide)) q54a q54c (g := (mkF m 137 #[.val (.int p0), .val (.long q1), .second, .val (.int p3), .val (.int p4), .val (.int (0 : Int32)), .val (.ref b2), .val (.ref b8), .val (.ref r16), .val (.ref b24), .val (.ref r45), .val (.int (13 : Int32)), .unset] [(.ref b24)])) rfl (by rw [hml]; rfl) (Steps.refl _) (argsL := []) (rest := []) (lenOf pd_2829I rfl) rfl (by show 2 * 0 + _ ≤ _; exact Nat.le_of_eq rfl) (hb hby at_137) (fun _ _ => ⟨rfl, e45, (by decide : 7 + 0 ≤ _), (by decide : 1840 + 0 ≤ _)⟩)
    dsimp only [Pt.U, Pt.locs, Pt.cells, Pt.slots] at X54 l54 y54 z54 st54 hQ54
    subst l54 y54 z54
    obtain ⟨rfl, N54q, e54⟩ := hQ54
    have N54 := Fr.app N45 N54q
    refine Wp.go st54 ?_
    show Wp p e below _ (T54.setTop (mkF m 140 #[.val (.int p0), .val (.long q1), .second, .val (.int p3), .val (.int p4), .val (.int (0 : Int32)), .val (.ref b2), .val (.ref b8), .val (.ref r16), .val (.ref b24), .val (.ref r45), .val (.int (13 : Int32)), .unset] [(.int (13 : Int32))]))
    refine Wp.step (fun t k => XS.iload X54.here hx rfl (hb hby at_140) rfl k) ?_
    show Wp p e below _ (T54.setTop (mkF m 142 #[.val (.int p0), .val (.long q1), .second, .val (.int p3), .val (.int p4), .val (.int (0 : Int32)), .val (.ref b2), .val (.ref b8), .val (.ref r16), .val (.ref b24), .val (.ref r45), .val (.int (13 : Int32)), .unset] [(.int (13 : Int32)), (.int (13 : Int32))]))
    refine Wp.step (fun t k => XS.icmpYes X54.here hx rfl (pc0 := 142) (pc' := 147) rfl (hb hby at_142) rfl (teq (show (13 : Int32) = (13 : Int32) by decide)).1 (by decide) (by decide) k) ?_
    show Wp p e below _ (T54.setTop (mkF m 147 #[.val (.int p0), .val (.long q1), .second, .val (.int p3), .val (.int p4), .val (.int (0 : Int32)), .val (.ref b2), .val (.ref b8), .val (.ref r16), .val (.ref b24), .val (.ref r45), .val (.int (13 : Int32)), .unset] []))
    refine Wp.step (fun t k => XS.aload X54.here hx rfl (hb hby at_147) rfl rfl k) ?_
    show Wp p e below _ (T54.setTop (mkF m 149 #[.val (.int p0), .val (.long q1), .second, .val (.int p3), .val (.int p4), .val (.int (0 : Int32)), .val (.ref b2), .val (.ref b8), .val (.ref r16), .val (.ref b24), .val (.ref r45), .val (.int (13 : Int32)), .unset] [(.ref r45)]))
    refine Wp.step (fun t k => XS.iconst X54.here hx rfl (hb hby at_149) k) ?_
    show Wp p e below _ (T54.setTop (mkF m 150 #[.val (.int p0), .val (.long q1), .second, .val (.int p3), .val (.int p4), .val (.int (0 : Int32)), .val (.ref b2), .val (.ref b8), .val (.ref r16), .val (.ref b24), .val (.ref r45), .val (.int (13 : Int32)), .unset] [(.int (0 : Int32)), (.ref r45)]))
    refine Wp.step (fun t k => XS.iloadN X54.here hx rfl (hb hby at_150) rfl k) ?_
    show Wp p e below _ (T54.setTop (mkF m 151 #[.val (.int p0), .val (.long q1), .second, .val (.int p3), .val (.int p4), .val (.int (0 : Int32)), .val (.ref b2), .val (.ref b8), .val (.ref r16), .val (.ref b24), .val (.ref r45), .val (.int (13 : Int32)), .unset] [(.int p0), (.int (0 : Int32)), (.ref r45)]))
    obtain ⟨_, _, ⟨T56, L56, k56, n56⟩, -, X56, ⟨Lc56, hQ56, l56, y56, z56⟩, st56⟩ := Jvm.LawKit.callS X54 hx (y := (⟨"com/example/ulinzi/ulinzi/protocol/ProtocolWriterToByteArrayPinLaw", "int32At", "([BII)Z"⟩ : MethodName)) hown (mvT hZ (hw _ (List.mem_of_getElem? (i := 56) rfl))) (mvT hZ (hw _ (List.mem_of_getElem? (i := 57) rfl))) (mvT hZ (hw _ (List.mem_of_getElem? (i := 58) rfl))) (mvT hZ (hw _ (List.mem_of_getElem? (i := 59) rfl))) (by decide) (backOf (W := 0) (rm11 l Z a0 hw [] r45 (0 : Int32) p0 (13 : Int32) (own_copy (own_w1 (own_w4 (own_w4 (own_w4 (fun _ => (0 : Int32)) (0 : Int32) p0) (4 : Int32) (q1 >>> ((32 : Int32) &&& 0x3f).toInt64).toInt32) (8 : Int32) q1.toInt32) (12 : Int32) p3) (fun _ => (0 : Int32)) (0 : Int32).toNatClampNeg (0 : Int32).toNatClampNeg (own_min (256 : Int32) (13 : Int32)).toNatClampNeg) h45 n0 (Nat.le_trans Z0 K45.1) B_r45 ⟨by decide, by decide⟩ ⟨by decide, by decide⟩ ⟨by decide, by decide⟩ ⟨by decide, by decide⟩ ((show (own_copy (own_w1 (own_w4 (own_w4 (own_w4 (fun _ => (0 : Int32)) (0 : Int32) p0) (4 : Int32) (q1 >>> ((32 : Int32) &&& 0x3f).toInt64).toInt32) (8 : Int32) q1.toInt32) (12 : Int32) p3) (fun _ => (0 : Int32)) (0 : Int32).toNatClampNeg (0 : Int32).toNatClampNeg (own_min (256 : Int32) (13 : Int32)).toNatClampNeg) ((0 : Int32)).toNatClampNeg = ((p0 >>> ((24 : Int32) &&& 31)).toInt8.toInt32) from rfl).trans (own_sh _ 24 24 (by decide) (by decide) (by decide))) ((show (own_copy (own_w1 (own_w4 (own_w4 (own_w4 (fun _ => (0 : Int32)) (0 : Int32) p0) (4 : Int32) (q1 >>> ((32 : Int32) &&& 0x3f).toInt64).toInt32) (8 : Int32) q1.toInt32) (12 : Int32) p3) (fun _ => (0 : Int32)) (0 : Int32).toNatClampNeg (0 : Int32).toNatClampNeg (own_min (256 : Int32) (13 : Int32)).toNatClampNeg) (((0 : Int32) + (1 : Int32))).toNatClampNeg = ((p0 >>> ((16 : Int32) &&& 31)).toInt8.toInt32) from rfl).trans (own_sh _ 16 16 (by decide) (by decide) (by decide))) ((show (own_copy (own_w1 (own_w4 (own_w4 (own_w4 (fun _ => (0 : Int32)) (0 : Int32) p0) (4 : Int32) (q1 >>> ((32 : Int32) &&& 0x3f).toInt64).toInt32) (8 : Int32) q1.toInt32) (12 : Int32) p3) (fun _ => (0 : Int32)) (0 : Int32).toNatClampNeg (0 : Int32).toNatClampNeg (own_min (256 : Int32) (13 : Int32)).toNatClampNeg) (((0 : Int32) + (2 : Int32))).toNatClampNeg = ((p0 >>> ((8 : Int32) &&& 31)).toInt8.toInt32) from rfl).trans (own_sh _ 8 8 (by decide) (by decide) (by decide))) ((show (own_copy (own_w1 (own_w4 (own_w4 (own_w4 (fun _ => (0 : Int32)) (0 : Int32) p0) (4 : Int32) (q1 >>> ((32 : Int32) &&& 0x3f).toInt64).toInt32) (8 : Int32) q1.toInt32) (12 : Int32) p3) (fun _ => (0 : Int32)) (0 : Int32).toNatClampNeg (0 : Int32).toNatClampNeg (own_min (256 : Int32) (13 : Int32)).toNatClampNeg) (((0 : Int32) + (3 : Int32))).toNatClampNeg = (p0.toInt8.toInt32) from rfl).trans rfl)) hZ (hw _ (List.mem_of_getElem? (i := 59) rfl)) (hw _ (List.mem_of_getElem? (i := 58) rfl)) (by decide) (by decide)) (g := (mkF m 151 #[.val (.int p0), .val (.long q1), .second, .val (.int p3), .val (.int p4), .val (.int (0 : Int32)), .val (.ref b2), .val (.ref b8), .val (.ref r16), .val (.ref b24), .val (.ref r45), .val (.int (13 : Int32)), .unset] [(.int p0), (.int (0 : Int32)), (.ref r45)])) rfl (by rw [hml]; rfl) (argsL := [(.ref r45), (.int (0 : Int32)), (.int p0)]) (rest := []) (lenOf pd_285bBII29Z rfl) rfl (by show 2 * 0 + _ ≤ _; exact Nat.le_of_eq rfl) (hb hby at_151) (fun _ _ => ⟨rfl, e54, (by decide : 7 + 0 ≤ _), (by decide : 1840 + 0 ≤ _)⟩)
    dsimp only [Pt.U, Pt.locs, Pt.cells, Pt.slots] at X56 l56 y56 z56 st56 hQ56
    subst l56 y56 z56
    obtain ⟨rfl, N56q, e56⟩ := hQ56
    have N56 := Fr.app N54 N56q
    refine Wp.step st56 ?_
    show Wp p e below _ (T56.setTop (mkF m 154 #[.val (.int p0), .val (.long q1), .second, .val (.int p3), .val (.int p4), .val (.int (0 : Int32)), .val (.ref b2), .val (.ref b8), .val (.ref r16), .val (.ref b24), .val (.ref r45), .val (.int (13 : Int32)), .unset] [(.int (1 : Int32))]))
    refine Wp.step (fun t k => XS.ifYes X56.here hx rfl (pc0 := 154) (pc' := 159) rfl (hb hby at_154) rfl ((if0 _ _).trans (feq (show ¬ ((1 : Int32) = (0 : Int32)) by decide)).2) (by decide) (by decide) k) ?_
    show Wp p e below _ (T56.setTop (mkF m 159 #[.val (.int p0), .val (.long q1), .second, .val (.int p3), .val (.int p4), .val (.int (0 : Int32)), .val (.ref b2), .val (.ref b8), .val (.ref r16), .val (.ref b24), .val (.ref r45), .val (.int (13 : Int32)), .unset] []))
    refine Wp.step (fun t k => XS.aload X56.here hx rfl (hb hby at_159) rfl rfl k) ?_
    show Wp p e below _ (T56.setTop (mkF m 161 #[.val (.int p0), .val (.long q1), .second, .val (.int p3), .val (.int p4), .val (.int (0 : Int32)), .val (.ref b2), .val (.ref b8), .val (.ref r16), .val (.ref b24), .val (.ref r45), .val (.int (13 : Int32)), .unset] [(.ref r45)]))
    refine Wp.step (fun t k => XS.iconst X56.here hx rfl (hb hby at_161) k) ?_
    show Wp p e below _ (T56.setTop (mkF m 162 #[.val (.int p0), .val (.long q1), .second, .val (.int p3), .val (.int p4), .val (.int (0 : Int32)), .val (.ref b2), .val (.ref b8), .val (.ref r16), .val (.ref b24), .val (.ref r45), .val (.int (13 : Int32)), .unset] [(.int (4 : Int32)), (.ref r45)]))
    refine Wp.step (fun t k => XS.lloadN X56.here hx rfl (hb hby at_162) rfl k) ?_
    show Wp p e below _ (T56.setTop (mkF m 163 #[.val (.int p0), .val (.long q1), .second, .val (.int p3), .val (.int p4), .val (.int (0 : Int32)), .val (.ref b2), .val (.ref b8), .val (.ref r16), .val (.ref b24), .val (.ref r45), .val (.int (13 : Int32)), .unset] [(.long q1), (.int (4 : Int32)), (.ref r45)]))
    refine Wp.step (fun t k => XS.bipush X56.here hx rfl (hb hby at_163) k) ?_
    show Wp p e below _ (T56.setTop (mkF m 165 #[.val (.int p0), .val (.long q1), .second, .val (.int p3), .val (.int p4), .val (.int (0 : Int32)), .val (.ref b2), .val (.ref b8), .val (.ref r16), .val (.ref b24), .val (.ref r45), .val (.int (13 : Int32)), .unset] [(.int (32 : Int32)), (.long q1), (.int (4 : Int32)), (.ref r45)]))
    refine Wp.step (fun t k => XS.lushr X56.here hx rfl (hb hby at_165) rfl k) ?_
    show Wp p e below _ (T56.setTop (mkF m 166 #[.val (.int p0), .val (.long q1), .second, .val (.int p3), .val (.int p4), .val (.int (0 : Int32)), .val (.ref b2), .val (.ref b8), .val (.ref r16), .val (.ref b24), .val (.ref r45), .val (.int (13 : Int32)), .unset] [(.long ((q1.toUInt64 >>> ((32 : Int32) &&& 0x3f).toInt64.toUInt64).toInt64)), (.int (4 : Int32)), (.ref r45)]))
    refine Wp.step (fun t k => XS.l2i X56.here hx rfl (hb hby at_166) rfl k) ?_
    show Wp p e below _ (T56.setTop (mkF m 167 #[.val (.int p0), .val (.long q1), .second, .val (.int p3), .val (.int p4), .val (.int (0 : Int32)), .val (.ref b2), .val (.ref b8), .val (.ref r16), .val (.ref b24), .val (.ref r45), .val (.int (13 : Int32)), .unset] [(.int (((q1.toUInt64 >>> ((32 : Int32) &&& 0x3f).toInt64.toUInt64).toInt64).toInt32)), (.int (4 : Int32)), (.ref r45)]))
    obtain ⟨_, _, ⟨T58, L58, k58, n58⟩, -, X58, ⟨Lc58, hQ58, l58, y58, z58⟩, st58⟩ := Jvm.LawKit.callS X56 hx (y := (⟨"com/example/ulinzi/ulinzi/protocol/ProtocolWriterToByteArrayPinLaw", "int32At", "([BII)Z"⟩ : MethodName)) hown (mvT hZ (hw _ (List.mem_of_getElem? (i := 56) rfl))) (mvT hZ (hw _ (List.mem_of_getElem? (i := 57) rfl))) (mvT hZ (hw _ (List.mem_of_getElem? (i := 58) rfl))) (mvT hZ (hw _ (List.mem_of_getElem? (i := 59) rfl))) (by decide) (backOf (W := 0) (rm11 l Z a0 hw [] r45 (4 : Int32) (((q1.toUInt64 >>> ((32 : Int32) &&& 0x3f).toInt64.toUInt64).toInt64).toInt32) (13 : Int32) (own_copy (own_w1 (own_w4 (own_w4 (own_w4 (fun _ => (0 : Int32)) (0 : Int32) p0) (4 : Int32) (q1 >>> ((32 : Int32) &&& 0x3f).toInt64).toInt32) (8 : Int32) q1.toInt32) (12 : Int32) p3) (fun _ => (0 : Int32)) (0 : Int32).toNatClampNeg (0 : Int32).toNatClampNeg (own_min (256 : Int32) (13 : Int32)).toNatClampNeg) h45 n0 (Nat.le_trans Z0 K45.1) B_r45 ⟨by decide, by decide⟩ ⟨by decide, by decide⟩ ⟨by decide, by decide⟩ ⟨by decide, by decide⟩ ((show (own_copy (own_w1 (own_w4 (own_w4 (own_w4 (fun _ => (0 : Int32)) (0 : Int32) p0) (4 : Int32) (q1 >>> ((32 : Int32) &&& 0x3f).toInt64).toInt32) (8 : Int32) q1.toInt32) (12 : Int32) p3) (fun _ => (0 : Int32)) (0 : Int32).toNatClampNeg (0 : Int32).toNatClampNeg (own_min (256 : Int32) (13 : Int32)).toNatClampNeg) ((4 : Int32)).toNatClampNeg = (((q1 >>> ((32 : Int32) &&& 0x3f).toInt64).toInt32 >>> ((24 : Int32) &&& 31)).toInt8.toInt32) from rfl).trans (by rw [own_hi]; exact own_sh _ 24 24 (by decide) (by decide) (by decide))) ((show (own_copy (own_w1 (own_w4 (own_w4 (own_w4 (fun _ => (0 : Int32)) (0 : Int32) p0) (4 : Int32) (q1 >>> ((32 : Int32) &&& 0x3f).toInt64).toInt32) (8 : Int32) q1.toInt32) (12 : Int32) p3) (fun _ => (0 : Int32)) (0 : Int32).toNatClampNeg (0 : Int32).toNatClampNeg (own_min (256 : Int32) (13 : Int32)).toNatClampNeg) (((4 : Int32) + (1 : Int32))).toNatClampNeg = (((q1 >>> ((32 : Int32) &&& 0x3f).toInt64).toInt32 >>> ((16 : Int32) &&& 31)).toInt8.toInt32) from rfl).trans (by rw [own_hi]; exact own_sh _ 16 16 (by decide) (by decide) (by decide))) ((show (own_copy (own_w1 (own_w4 (own_w4 (own_w4 (fun _ => (0 : Int32)) (0 : Int32) p0) (4 : Int32) (q1 >>> ((32 : Int32) &&& 0x3f).toInt64).toInt32) (8 : Int32) q1.toInt32) (12 : Int32) p3) (fun _ => (0 : Int32)) (0 : Int32).toNatClampNeg (0 : Int32).toNatClampNeg (own_min (256 : Int32) (13 : Int32)).toNatClampNeg) (((4 : Int32) + (2 : Int32))).toNatClampNeg = (((q1 >>> ((32 : Int32) &&& 0x3f).toInt64).toInt32 >>> ((8 : Int32) &&& 31)).toInt8.toInt32) from rfl).trans (by rw [own_hi]; exact own_sh _ 8 8 (by decide) (by decide) (by decide))) ((show (own_copy (own_w1 (own_w4 (own_w4 (own_w4 (fun _ => (0 : Int32)) (0 : Int32) p0) (4 : Int32) (q1 >>> ((32 : Int32) &&& 0x3f).toInt64).toInt32) (8 : Int32) q1.toInt32) (12 : Int32) p3) (fun _ => (0 : Int32)) (0 : Int32).toNatClampNeg (0 : Int32).toNatClampNeg (own_min (256 : Int32) (13 : Int32)).toNatClampNeg) (((4 : Int32) + (3 : Int32))).toNatClampNeg = ((q1 >>> ((32 : Int32) &&& 0x3f).toInt64).toInt32.toInt8.toInt32) from rfl).trans (by rw [own_hi]))) hZ (hw _ (List.mem_of_getElem? (i := 59) rfl)) (hw _ (List.mem_of_getElem? (i := 58) rfl)) (by decide) (by decide)) (g := (mkF m 167 #[.val (.int p0), .val (.long q1), .second, .val (.int p3), .val (.int p4), .val (.int (0 : Int32)), .val (.ref b2), .val (.ref b8), .val (.ref r16), .val (.ref b24), .val (.ref r45), .val (.int (13 : Int32)), .unset] [(.int (((q1.toUInt64 >>> ((32 : Int32) &&& 0x3f).toInt64.toUInt64).toInt64).toInt32)), (.int (4 : Int32)), (.ref r45)])) rfl (by rw [hml]; rfl) (argsL := [(.ref r45), (.int (4 : Int32)), (.int (((q1.toUInt64 >>> ((32 : Int32) &&& 0x3f).toInt64.toUInt64).toInt64).toInt32))]) (rest := []) (lenOf pd_285bBII29Z rfl) rfl (by show 2 * 0 + _ ≤ _; exact Nat.le_of_eq rfl) (hb hby at_167) (fun _ _ => ⟨rfl, e56, (by decide : 7 + 0 ≤ _), (by decide : 1840 + 0 ≤ _)⟩)
    dsimp only [Pt.U, Pt.locs, Pt.cells, Pt.slots] at X58 l58 y58 z58 st58 hQ58
    subst l58 y58 z58
    obtain ⟨rfl, N58q, e58⟩ := hQ58
    have N58 := Fr.app N56 N58q
    refine Wp.step st58 ?_
    show Wp p e below _ (T58.setTop (mkF m 170 #[.val (.int p0), .val (.long q1), .second, .val (.int p3), .val (.int p4), .val (.int (0 : Int32)), .val (.ref b2), .val (.ref b8), .val (.ref r16), .val (.ref b24), .val (.ref r45), .val (.int (13 : Int32)), .unset] [(.int (1 : Int32))]))
    refine Wp.step (fun t k => XS.ifYes X58.here hx rfl (pc0 := 170) (pc' := 175) rfl (hb hby at_170) rfl ((if0 _ _).trans (feq (show ¬ ((1 : Int32) = (0 : Int32)) by decide)).2) (by decide) (by decide) k) ?_
    show Wp p e below _ (T58.setTop (mkF m 175 #[.val (.int p0), .val (.long q1), .second, .val (.int p3), .val (.int p4), .val (.int (0 : Int32)), .val (.ref b2), .val (.ref b8), .val (.ref r16), .val (.ref b24), .val (.ref r45), .val (.int (13 : Int32)), .unset] []))
    refine Wp.step (fun t k => XS.aload X58.here hx rfl (hb hby at_175) rfl rfl k) ?_
    show Wp p e below _ (T58.setTop (mkF m 177 #[.val (.int p0), .val (.long q1), .second, .val (.int p3), .val (.int p4), .val (.int (0 : Int32)), .val (.ref b2), .val (.ref b8), .val (.ref r16), .val (.ref b24), .val (.ref r45), .val (.int (13 : Int32)), .unset] [(.ref r45)]))
    refine Wp.step (fun t k => XS.bipush X58.here hx rfl (hb hby at_177) k) ?_
    show Wp p e below _ (T58.setTop (mkF m 179 #[.val (.int p0), .val (.long q1), .second, .val (.int p3), .val (.int p4), .val (.int (0 : Int32)), .val (.ref b2), .val (.ref b8), .val (.ref r16), .val (.ref b24), .val (.ref r45), .val (.int (13 : Int32)), .unset] [(.int (8 : Int32)), (.ref r45)]))
    refine Wp.step (fun t k => XS.lloadN X58.here hx rfl (hb hby at_179) rfl k) ?_
    show Wp p e below _ (T58.setTop (mkF m 180 #[.val (.int p0), .val (.long q1), .second, .val (.int p3), .val (.int p4), .val (.int (0 : Int32)), .val (.ref b2), .val (.ref b8), .val (.ref r16), .val (.ref b24), .val (.ref r45), .val (.int (13 : Int32)), .unset] [(.long q1), (.int (8 : Int32)), (.ref r45)]))
    refine Wp.step (fun t k => XS.l2i X58.here hx rfl (hb hby at_180) rfl k) ?_
    show Wp p e below _ (T58.setTop (mkF m 181 #[.val (.int p0), .val (.long q1), .second, .val (.int p3), .val (.int p4), .val (.int (0 : Int32)), .val (.ref b2), .val (.ref b8), .val (.ref r16), .val (.ref b24), .val (.ref r45), .val (.int (13 : Int32)), .unset] [(.int (q1.toInt32)), (.int (8 : Int32)), (.ref r45)]))
    obtain ⟨_, _, ⟨T60, L60, k60, n60⟩, -, X60, ⟨Lc60, hQ60, l60, y60, z60⟩, st60⟩ := Jvm.LawKit.callS X58 hx (y := (⟨"com/example/ulinzi/ulinzi/protocol/ProtocolWriterToByteArrayPinLaw", "int32At", "([BII)Z"⟩ : MethodName)) hown (mvT hZ (hw _ (List.mem_of_getElem? (i := 56) rfl))) (mvT hZ (hw _ (List.mem_of_getElem? (i := 57) rfl))) (mvT hZ (hw _ (List.mem_of_getElem? (i := 58) rfl))) (mvT hZ (hw _ (List.mem_of_getElem? (i := 59) rfl))) (by decide) (backOf (W := 0) (rm11 l Z a0 hw [] r45 (8 : Int32) (q1.toInt32) (13 : Int32) (own_copy (own_w1 (own_w4 (own_w4 (own_w4 (fun _ => (0 : Int32)) (0 : Int32) p0) (4 : Int32) (q1 >>> ((32 : Int32) &&& 0x3f).toInt64).toInt32) (8 : Int32) q1.toInt32) (12 : Int32) p3) (fun _ => (0 : Int32)) (0 : Int32).toNatClampNeg (0 : Int32).toNatClampNeg (own_min (256 : Int32) (13 : Int32)).toNatClampNeg) h45 n0 (Nat.le_trans Z0 K45.1) B_r45 ⟨by decide, by decide⟩ ⟨by decide, by decide⟩ ⟨by decide, by decide⟩ ⟨by decide, by decide⟩ ((show (own_copy (own_w1 (own_w4 (own_w4 (own_w4 (fun _ => (0 : Int32)) (0 : Int32) p0) (4 : Int32) (q1 >>> ((32 : Int32) &&& 0x3f).toInt64).toInt32) (8 : Int32) q1.toInt32) (12 : Int32) p3) (fun _ => (0 : Int32)) (0 : Int32).toNatClampNeg (0 : Int32).toNatClampNeg (own_min (256 : Int32) (13 : Int32)).toNatClampNeg) ((8 : Int32)).toNatClampNeg = (((q1.toInt32) >>> ((24 : Int32) &&& 31)).toInt8.toInt32) from rfl).trans (own_sh _ 24 24 (by decide) (by decide) (by decide))) ((show (own_copy (own_w1 (own_w4 (own_w4 (own_w4 (fun _ => (0 : Int32)) (0 : Int32) p0) (4 : Int32) (q1 >>> ((32 : Int32) &&& 0x3f).toInt64).toInt32) (8 : Int32) q1.toInt32) (12 : Int32) p3) (fun _ => (0 : Int32)) (0 : Int32).toNatClampNeg (0 : Int32).toNatClampNeg (own_min (256 : Int32) (13 : Int32)).toNatClampNeg) (((8 : Int32) + (1 : Int32))).toNatClampNeg = (((q1.toInt32) >>> ((16 : Int32) &&& 31)).toInt8.toInt32) from rfl).trans (own_sh _ 16 16 (by decide) (by decide) (by decide))) ((show (own_copy (own_w1 (own_w4 (own_w4 (own_w4 (fun _ => (0 : Int32)) (0 : Int32) p0) (4 : Int32) (q1 >>> ((32 : Int32) &&& 0x3f).toInt64).toInt32) (8 : Int32) q1.toInt32) (12 : Int32) p3) (fun _ => (0 : Int32)) (0 : Int32).toNatClampNeg (0 : Int32).toNatClampNeg (own_min (256 : Int32) (13 : Int32)).toNatClampNeg) (((8 : Int32) + (2 : Int32))).toNatClampNeg = (((q1.toInt32) >>> ((8 : Int32) &&& 31)).toInt8.toInt32) from rfl).trans (own_sh _ 8 8 (by decide) (by decide) (by decide))) ((show (own_copy (own_w1 (own_w4 (own_w4 (own_w4 (fun _ => (0 : Int32)) (0 : Int32) p0) (4 : Int32) (q1 >>> ((32 : Int32) &&& 0x3f).toInt64).toInt32) (8 : Int32) q1.toInt32) (12 : Int32) p3) (fun _ => (0 : Int32)) (0 : Int32).toNatClampNeg (0 : Int32).toNatClampNeg (own_min (256 : Int32) (13 : Int32)).toNatClampNeg) (((8 : Int32) + (3 : Int32))).toNatClampNeg = ((q1.toInt32).toInt8.toInt32) from rfl).trans rfl)) hZ (hw _ (List.mem_of_getElem? (i := 59) rfl)) (hw _ (List.mem_of_getElem? (i := 58) rfl)) (by decide) (by decide)) (g := (mkF m 181 #[.val (.int p0), .val (.long q1), .second, .val (.int p3), .val (.int p4), .val (.int (0 : Int32)), .val (.ref b2), .val (.ref b8), .val (.ref r16), .val (.ref b24), .val (.ref r45), .val (.int (13 : Int32)), .unset] [(.int (q1.toInt32)), (.int (8 : Int32)), (.ref r45)])) rfl (by rw [hml]; rfl) (argsL := [(.ref r45), (.int (8 : Int32)), (.int (q1.toInt32))]) (rest := []) (lenOf pd_285bBII29Z rfl) rfl (by show 2 * 0 + _ ≤ _; exact Nat.le_of_eq rfl) (hb hby at_181) (fun _ _ => ⟨rfl, e58, (by decide : 7 + 0 ≤ _), (by decide : 1840 + 0 ≤ _)⟩)
    dsimp only [Pt.U, Pt.locs, Pt.cells, Pt.slots] at X60 l60 y60 z60 st60 hQ60
    subst l60 y60 z60
    obtain ⟨rfl, N60q, e60⟩ := hQ60
    have N60 := Fr.app N58 N60q
    refine Wp.step st60 ?_
    show Wp p e below _ (T60.setTop (mkF m 184 #[.val (.int p0), .val (.long q1), .second, .val (.int p3), .val (.int p4), .val (.int (0 : Int32)), .val (.ref b2), .val (.ref b8), .val (.ref r16), .val (.ref b24), .val (.ref r45), .val (.int (13 : Int32)), .unset] [(.int (1 : Int32))]))
    refine Wp.step (fun t k => XS.ifYes X60.here hx rfl (pc0 := 184) (pc' := 189) rfl (hb hby at_184) rfl ((if0 _ _).trans (feq (show ¬ ((1 : Int32) = (0 : Int32)) by decide)).2) (by decide) (by decide) k) ?_
    show Wp p e below _ (T60.setTop (mkF m 189 #[.val (.int p0), .val (.long q1), .second, .val (.int p3), .val (.int p4), .val (.int (0 : Int32)), .val (.ref b2), .val (.ref b8), .val (.ref r16), .val (.ref b24), .val (.ref r45), .val (.int (13 : Int32)), .unset] []))
    refine Wp.step (fun t k => XS.iload X60.here hx rfl (hb hby at_189) rfl k) ?_
    show Wp p e below _ (T60.setTop (mkF m 191 #[.val (.int p0), .val (.long q1), .second, .val (.int p3), .val (.int p4), .val (.int (0 : Int32)), .val (.ref b2), .val (.ref b8), .val (.ref r16), .val (.ref b24), .val (.ref r45), .val (.int (13 : Int32)), .unset] [(.int (0 : Int32))]))
    refine Wp.step (fun t k => XS.ifYes X60.here hx rfl (pc0 := 191) (pc' := 252) rfl (hb hby at_191) rfl ((if0 _ _).trans (teq (show (0 : Int32) = (0 : Int32) by decide)).1) (by decide) (by decide) k) ?_
    show Wp p e below _ (T60.setTop (mkF m 252 #[.val (.int p0), .val (.long q1), .second, .val (.int p3), .val (.int p4), .val (.int (0 : Int32)), .val (.ref b2), .val (.ref b8), .val (.ref r16), .val (.ref b24), .val (.ref r45), .val (.int (13 : Int32)), .unset] []))
    refine Wp.step (fun t k => XS.aload X60.here hx rfl (hb hby at_252) rfl rfl k) ?_
    show Wp p e below _ (T60.setTop (mkF m 254 #[.val (.int p0), .val (.long q1), .second, .val (.int p3), .val (.int p4), .val (.int (0 : Int32)), .val (.ref b2), .val (.ref b8), .val (.ref r16), .val (.ref b24), .val (.ref r45), .val (.int (13 : Int32)), .unset] [(.ref r45)]))
    refine Wp.step (fun t k => XS.iload X60.here hx rfl (hb hby at_254) rfl k) ?_
    show Wp p e below _ (T60.setTop (mkF m 256 #[.val (.int p0), .val (.long q1), .second, .val (.int p3), .val (.int p4), .val (.int (0 : Int32)), .val (.ref b2), .val (.ref b8), .val (.ref r16), .val (.ref b24), .val (.ref r45), .val (.int (13 : Int32)), .unset] [(.int (13 : Int32)), (.ref r45)]))
    refine Wp.step (fun t k => XS.iconst X60.here hx rfl (hb hby at_256) k) ?_
    show Wp p e below _ (T60.setTop (mkF m 257 #[.val (.int p0), .val (.long q1), .second, .val (.int p3), .val (.int p4), .val (.int (0 : Int32)), .val (.ref b2), .val (.ref b8), .val (.ref r16), .val (.ref b24), .val (.ref r45), .val (.int (13 : Int32)), .unset] [(.int (1 : Int32)), (.int (13 : Int32)), (.ref r45)]))
    refine Wp.step (fun t k => XS.isub X60.here hx rfl (hb hby at_257) rfl k) ?_
    show Wp p e below _ (T60.setTop (mkF m 258 #[.val (.int p0), .val (.long q1), .second, .val (.int p3), .val (.int p4), .val (.int (0 : Int32)), .val (.ref b2), .val (.ref b8), .val (.ref r16), .val (.ref b24), .val (.ref r45), .val (.int (13 : Int32)), .unset] [(.int (12 : Int32)), (.ref r45)]))
    obtain ⟨cl63, Ar63, Sz63, Nn63, El63⟩ := id B_r45
    have hin63 : ¬ ((12 : Int32) < 0 ∨ cl63.slots.size ≤ ((12 : Int32)).toNatClampNeg) := inb_of Sz63 ⟨by decide, by decide⟩
    have hat63 : cl63.slots[((12 : Int32)).toNatClampNeg]? = some (.int ((own_copy (own_w1 (own_w4 (own_w4 (own_w4 (fun _ => (0 : Int32)) (0 : Int32) p0) (4 : Int32) (q1 >>> ((32 : Int32) &&& 0x3f).toInt64).toInt32) (8 : Int32) q1.toInt32) (12 : Int32) p3) (fun _ => (0 : Int32)) (0 : Int32).toNatClampNeg (0 : Int32).toNatClampNeg (own_min (256 : Int32) (13 : Int32)).toNatClampNeg) ((12 : Int32)).toNatClampNeg)) := (El63 _ (by have q := Nat.lt_of_not_le fun q => hin63 (Or.inr q); rw [Sz63] at q; exact q)).1
    rw [show ((own_copy (own_w1 (own_w4 (own_w4 (own_w4 (fun _ => (0 : Int32)) (0 : Int32) p0) (4 : Int32) (q1 >>> ((32 : Int32) &&& 0x3f).toInt64).toInt32) (8 : Int32) q1.toInt32) (12 : Int32) p3) (fun _ => (0 : Int32)) (0 : Int32).toNatClampNeg (0 : Int32).toNatClampNeg (own_min (256 : Int32) (13 : Int32)).toNatClampNeg) ((12 : Int32)).toNatClampNeg) = (p3.toInt8.toInt32) from rfl] at hat63
    refine Wp.step (X60.baloadBytes hx (j := (12 : Int32)) (v := (.int (p3.toInt8.toInt32))) (by rw [e60]; exact Ar63.1) (State.isArrayOf_alike hZ.alike Ar63.2.1) Ar63.2.2 hin63 hat63 (g := (mkF m 258 #[.val (.int p0), .val (.long q1), .second, .val (.int p3), .val (.int p4), .val (.int (0 : Int32)), .val (.ref b2), .val (.ref b8), .val (.ref r16), .val (.ref b24), .val (.ref r45), .val (.int (13 : Int32)), .unset] [(.int (12 : Int32)), (.ref r45)])) rfl rfl (hb hby at_258)) ?_
    show Wp p e below _ (T60.setTop (mkF m 259 #[.val (.int p0), .val (.long q1), .second, .val (.int p3), .val (.int p4), .val (.int (0 : Int32)), .val (.ref b2), .val (.ref b8), .val (.ref r16), .val (.ref b24), .val (.ref r45), .val (.int (13 : Int32)), .unset] [(.int (p3.toInt8.toInt32))]))
    refine Wp.step (fun t k => XS.iloadN X60.here hx rfl (hb hby at_259) rfl k) ?_
    show Wp p e below _ (T60.setTop (mkF m 260 #[.val (.int p0), .val (.long q1), .second, .val (.int p3), .val (.int p4), .val (.int (0 : Int32)), .val (.ref b2), .val (.ref b8), .val (.ref r16), .val (.ref b24), .val (.ref r45), .val (.int (13 : Int32)), .unset] [(.int p3), (.int (p3.toInt8.toInt32))]))
    refine Wp.step (fun t k => XS.i2b X60.here hx rfl (hb hby at_260) rfl k) ?_
    show Wp p e below _ (T60.setTop (mkF m 261 #[.val (.int p0), .val (.long q1), .second, .val (.int p3), .val (.int p4), .val (.int (0 : Int32)), .val (.ref b2), .val (.ref b8), .val (.ref r16), .val (.ref b24), .val (.ref r45), .val (.int (13 : Int32)), .unset] [(.int (p3.toInt8.toInt32)), (.int (p3.toInt8.toInt32))]))
    refine Wp.step (fun t k => XS.icmpYes X60.here hx rfl (pc0 := 261) (pc' := 266) rfl (hb hby at_261) rfl (teq (show (p3.toInt8.toInt32) = (p3.toInt8.toInt32) from rfl)).1 (by decide) (by decide) k) ?_
    show Wp p e below _ (T60.setTop (mkF m 266 #[.val (.int p0), .val (.long q1), .second, .val (.int p3), .val (.int p4), .val (.int (0 : Int32)), .val (.ref b2), .val (.ref b8), .val (.ref r16), .val (.ref b24), .val (.ref r45), .val (.int (13 : Int32)), .unset] []))
    refine Wp.step (fun t k => XS.aload X60.here hx rfl (hb hby at_266) rfl rfl k) ?_
    show Wp p e below _ (T60.setTop (mkF m 268 #[.val (.int p0), .val (.long q1), .second, .val (.int p3), .val (.int p4), .val (.int (0 : Int32)), .val (.ref b2), .val (.ref b8), .val (.ref r16), .val (.ref b24), .val (.ref r45), .val (.int (13 : Int32)), .unset] [(.ref r45)]))
    refine Wp.step (fun t k => XS.iconst X60.here hx rfl (hb hby at_268) k) ?_
    show Wp p e below _ (T60.setTop (mkF m 269 #[.val (.int p0), .val (.long q1), .second, .val (.int p3), .val (.int p4), .val (.int (0 : Int32)), .val (.ref b2), .val (.ref b8), .val (.ref r16), .val (.ref b24), .val (.ref r45), .val (.int (13 : Int32)), .unset] [(.int (0 : Int32)), (.ref r45)]))
    refine Wp.step (fun t k => XS.aload X60.here hx rfl (hb hby at_269) rfl rfl k) ?_
    show Wp p e below _ (T60.setTop (mkF m 271 #[.val (.int p0), .val (.long q1), .second, .val (.int p3), .val (.int p4), .val (.int (0 : Int32)), .val (.ref b2), .val (.ref b8), .val (.ref r16), .val (.ref b24), .val (.ref r45), .val (.int (13 : Int32)), .unset] [(.ref r45), (.int (0 : Int32)), (.ref r45)]))
    refine Wp.step (fun t k => XS.iconst X60.here hx rfl (hb hby at_271) k) ?_
    show Wp p e below _ (T60.setTop (mkF m 272 #[.val (.int p0), .val (.long q1), .second, .val (.int p3), .val (.int p4), .val (.int (0 : Int32)), .val (.ref b2), .val (.ref b8), .val (.ref r16), .val (.ref b24), .val (.ref r45), .val (.int (13 : Int32)), .unset] [(.int (0 : Int32)), (.ref r45), (.int (0 : Int32)), (.ref r45)]))
    obtain ⟨cl65, Ar65, Sz65, Nn65, El65⟩ := id B_r45
    have hin65 : ¬ ((0 : Int32) < 0 ∨ cl65.slots.size ≤ ((0 : Int32)).toNatClampNeg) := inb_of Sz65 ⟨by decide, by decide⟩
    have hat65 : cl65.slots[((0 : Int32)).toNatClampNeg]? = some (.int ((own_copy (own_w1 (own_w4 (own_w4 (own_w4 (fun _ => (0 : Int32)) (0 : Int32) p0) (4 : Int32) (q1 >>> ((32 : Int32) &&& 0x3f).toInt64).toInt32) (8 : Int32) q1.toInt32) (12 : Int32) p3) (fun _ => (0 : Int32)) (0 : Int32).toNatClampNeg (0 : Int32).toNatClampNeg (own_min (256 : Int32) (13 : Int32)).toNatClampNeg) ((0 : Int32)).toNatClampNeg)) := (El65 _ (by have q := Nat.lt_of_not_le fun q => hin65 (Or.inr q); rw [Sz65] at q; exact q)).1
    refine Wp.step (X60.baloadBytes hx (j := (0 : Int32)) (v := (.int ((own_copy (own_w1 (own_w4 (own_w4 (own_w4 (fun _ => (0 : Int32)) (0 : Int32) p0) (4 : Int32) (q1 >>> ((32 : Int32) &&& 0x3f).toInt64).toInt32) (8 : Int32) q1.toInt32) (12 : Int32) p3) (fun _ => (0 : Int32)) (0 : Int32).toNatClampNeg (0 : Int32).toNatClampNeg (own_min (256 : Int32) (13 : Int32)).toNatClampNeg) ((0 : Int32)).toNatClampNeg))) (by rw [e60]; exact Ar65.1) (State.isArrayOf_alike hZ.alike Ar65.2.1) Ar65.2.2 hin65 hat65 (g := (mkF m 272 #[.val (.int p0), .val (.long q1), .second, .val (.int p3), .val (.int p4), .val (.int (0 : Int32)), .val (.ref b2), .val (.ref b8), .val (.ref r16), .val (.ref b24), .val (.ref r45), .val (.int (13 : Int32)), .unset] [(.int (0 : Int32)), (.ref r45), (.int (0 : Int32)), (.ref r45)])) rfl rfl (hb hby at_272)) ?_
    show Wp p e below _ (T60.setTop (mkF m 273 #[.val (.int p0), .val (.long q1), .second, .val (.int p3), .val (.int p4), .val (.int (0 : Int32)), .val (.ref b2), .val (.ref b8), .val (.ref r16), .val (.ref b24), .val (.ref r45), .val (.int (13 : Int32)), .unset] [(.int ((own_copy (own_w1 (own_w4 (own_w4 (own_w4 (fun _ => (0 : Int32)) (0 : Int32) p0) (4 : Int32) (q1 >>> ((32 : Int32) &&& 0x3f).toInt64).toInt32) (8 : Int32) q1.toInt32) (12 : Int32) p3) (fun _ => (0 : Int32)) (0 : Int32).toNatClampNeg (0 : Int32).toNatClampNeg (own_min (256 : Int32) (13 : Int32)).toNatClampNeg) ((0 : Int32)).toNatClampNeg)), (.int (0 : Int32)), (.ref r45)]))
    refine Wp.step (fun t k => XS.iconst X60.here hx rfl (hb hby at_273) k) ?_
    show Wp p e below _ (T60.setTop (mkF m 274 #[.val (.int p0), .val (.long q1), .second, .val (.int p3), .val (.int p4), .val (.int (0 : Int32)), .val (.ref b2), .val (.ref b8), .val (.ref r16), .val (.ref b24), .val (.ref r45), .val (.int (13 : Int32)), .unset] [(.int (1 : Int32)), (.int ((own_copy (own_w1 (own_w4 (own_w4 (own_w4 (fun _ => (0 : Int32)) (0 : Int32) p0) (4 : Int32) (q1 >>> ((32 : Int32) &&& 0x3f).toInt64).toInt32) (8 : Int32) q1.toInt32) (12 : Int32) p3) (fun _ => (0 : Int32)) (0 : Int32).toNatClampNeg (0 : Int32).toNatClampNeg (own_min (256 : Int32) (13 : Int32)).toNatClampNeg) ((0 : Int32)).toNatClampNeg)), (.int (0 : Int32)), (.ref r45)]))
    refine Wp.step (fun t k => XS.ixor X60.here hx rfl (hb hby at_274) rfl k) ?_
    show Wp p e below _ (T60.setTop (mkF m 275 #[.val (.int p0), .val (.long q1), .second, .val (.int p3), .val (.int p4), .val (.int (0 : Int32)), .val (.ref b2), .val (.ref b8), .val (.ref r16), .val (.ref b24), .val (.ref r45), .val (.int (13 : Int32)), .unset] [(.int (((own_copy (own_w1 (own_w4 (own_w4 (own_w4 (fun _ => (0 : Int32)) (0 : Int32) p0) (4 : Int32) (q1 >>> ((32 : Int32) &&& 0x3f).toInt64).toInt32) (8 : Int32) q1.toInt32) (12 : Int32) p3) (fun _ => (0 : Int32)) (0 : Int32).toNatClampNeg (0 : Int32).toNatClampNeg (own_min (256 : Int32) (13 : Int32)).toNatClampNeg) ((0 : Int32)).toNatClampNeg) ^^^ (1 : Int32))), (.int (0 : Int32)), (.ref r45)]))
    refine Wp.step (fun t k => XS.i2b X60.here hx rfl (hb hby at_275) rfl k) ?_
    show Wp p e below _ (T60.setTop (mkF m 276 #[.val (.int p0), .val (.long q1), .second, .val (.int p3), .val (.int p4), .val (.int (0 : Int32)), .val (.ref b2), .val (.ref b8), .val (.ref r16), .val (.ref b24), .val (.ref r45), .val (.int (13 : Int32)), .unset] [(.int ((((own_copy (own_w1 (own_w4 (own_w4 (own_w4 (fun _ => (0 : Int32)) (0 : Int32) p0) (4 : Int32) (q1 >>> ((32 : Int32) &&& 0x3f).toInt64).toInt32) (8 : Int32) q1.toInt32) (12 : Int32) p3) (fun _ => (0 : Int32)) (0 : Int32).toNatClampNeg (0 : Int32).toNatClampNeg (own_min (256 : Int32) (13 : Int32)).toNatClampNeg) ((0 : Int32)).toNatClampNeg) ^^^ (1 : Int32)).toInt8.toInt32)), (.int (0 : Int32)), (.ref r45)]))
    obtain ⟨cl66, Ar66, Sz66, Nn66, El66⟩ := id B_r45
    have hin66 : ¬ ((0 : Int32) < 0 ∨ cl66.slots.size ≤ ((0 : Int32)).toNatClampNeg) := inb_of Sz66 ⟨by decide, by decide⟩
    obtain ⟨T66, h66, X66, e66, W66, st66⟩ := stB X60 hx hZ e60 Ar66 (j := (0 : Int32)) hin66 (g := (mkF m 276 #[.val (.int p0), .val (.long q1), .second, .val (.int p3), .val (.int p4), .val (.int (0 : Int32)), .val (.ref b2), .val (.ref b8), .val (.ref r16), .val (.ref b24), .val (.ref r45), .val (.int (13 : Int32)), .unset] [(.int ((((own_copy (own_w1 (own_w4 (own_w4 (own_w4 (fun _ => (0 : Int32)) (0 : Int32) p0) (4 : Int32) (q1 >>> ((32 : Int32) &&& 0x3f).toInt64).toInt32) (8 : Int32) q1.toInt32) (12 : Int32) p3) (fun _ => (0 : Int32)) (0 : Int32).toNatClampNeg (0 : Int32).toNatClampNeg (own_min (256 : Int32) (13 : Int32)).toNatClampNeg) ((0 : Int32)).toNatClampNeg) ^^^ (1 : Int32)).toInt8.toInt32)), (.int (0 : Int32)), (.ref r45)])) rfl rfl (hb hby at_276)
    have c67 := c47.wr W66
    have c68 := c48.other W66 (Or.inl ne_b24_r45)
    have c69 := c49.other W66 (Or.inl ne_b24_r45)
    have B70 := B50.other W66 ne_n29arr_r45
    have K71 := K45.wr W66 (Or.inr sz_r45)
    have N66 := Fr.snoc X66 N60 g_r45
    have B66 := own_IA.set Ar66 Sz66 Nn66 El66 W66 (fits_nar_byte _)
    rw [own_narb] at B66
    refine Wp.step st66 ?_
    show Wp p e below _ (T66.setTop (mkF m 277 #[.val (.int p0), .val (.long q1), .second, .val (.int p3), .val (.int p4), .val (.int (0 : Int32)), .val (.ref b2), .val (.ref b8), .val (.ref r16), .val (.ref b24), .val (.ref r45), .val (.int (13 : Int32)), .unset] []))
    refine Wp.step (fun t k => XS.aload X66.here hx rfl (hb hby at_277) rfl rfl k) ?_
    show Wp p e below _ (T66.setTop (mkF m 279 #[.val (.int p0), .val (.long q1), .second, .val (.int p3), .val (.int p4), .val (.int (0 : Int32)), .val (.ref b2), .val (.ref b8), .val (.ref r16), .val (.ref b24), .val (.ref r45), .val (.int (13 : Int32)), .unset] [(.ref b24)]))
    obtain ⟨cq72, kq72, q72a, q72b, q72c⟩ := isOf hZ e66 c67
    obtain ⟨_, _, ⟨T72, L72, k72, n72⟩, -, X72, ⟨Lc72, hQ72, l72, y72, z72⟩, st72⟩ := X66.virtualBack hx (y := (⟨"com/example/ulinzi/ulinzi/protocol/ProtocolWriter", "toByteArray", "()[B"⟩ : MethodName)) (z := (⟨"com/example/ulinzi/ulinzi/protocol/ProtocolWriter", "toByteArray", "()[B"⟩ : MethodName)) hown (mvT hZ (hw _ (List.mem_of_getElem? (i := 12) rfl))) (mvT hZ (hw _ (List.mem_of_getElem? (i := 13) rfl))) (notFace_of_selects (args := #[]) (mvT hZ (hw _ (List.mem_of_getElem? (i := 15) rfl)))) (mvT hZ (hw _ (List.mem_of_getElem? (i := 15) rfl))) (mvT hZ (hw _ (List.mem_of_getElem? (i := 14) rfl))) (by decide) (backOf (W := 0) (rm3 l Z a0 hw [] b24 n29arr (13 : Int32) (256 : Int32) (own_w1 (own_w4 (own_w4 (own_w4 (fun _ => (0 : Int32)) (0 : Int32) p0) (4 : Int32) (q1 >>> ((32 : Int32) &&& 0x3f).toInt64).toInt32) (8 : Int32) q1.toInt32) (12 : Int32) p3) h66 n0 (Nat.le_trans Z0 K71.1) c67 c68 c69 B70 (Ne.symm ne_b24_n29arr) (by decide) (by decide) (by decide) (by decide) (by decide) (by decide)) hZ (hw _ (List.mem_of_getElem? (i := 16) rfl)) (hw _ (List.mem_of_getElem? (i := 3) rfl)) (by decide) (by decide)) q72a q72c (g := (mkF m 279 #[.val (.int p0), .val (.long q1), .second, .val (.int p3), .val (.int p4), .val (.int (0 : Int32)), .val (.ref b2), .val (.ref b8), .val (.ref r16), .val (.ref b24), .val (.ref r45), .val (.int (13 : Int32)), .unset] [(.ref b24)])) rfl (by rw [hml]; rfl) (Steps.refl _) (argsL := []) (rest := []) (lenOf pd_28295bB rfl) rfl (by show 2 * 0 + _ ≤ _; exact Nat.le_of_eq rfl) (hb hby at_279) (fun _ _ => ⟨rfl, e66, (by decide : 7 + 1 ≤ _), (by decide : 1840 + 512 ≤ _)⟩)
    dsimp only [Pt.U, Pt.locs, Pt.cells, Pt.slots] at X72 l72 y72 z72 st72 hQ72
    subst l72 y72 z72
    obtain ⟨h72, e72⟩ : ∃ z, T72.heap = z := ⟨_, rfl⟩
    rw [e72] at hQ72
    obtain ⟨r72, rfl, N72q, Kc72, szr72, g_r72, B_r72⟩ := hQ72
    have N72 := Fr.app N66 N72q
    have ne_b24_r72 : b24 ≠ r72 := Nat.ne_of_lt (Nat.lt_of_lt_of_le c67.lt szr72)
    have ne_n29arr_r72 : n29arr ≠ r72 := Nat.ne_of_lt (Nat.lt_of_lt_of_le B70.lt szr72)
    have ne_r45_r72 : r45 ≠ r72 := Nat.ne_of_lt (Nat.lt_of_lt_of_le B66.lt szr72)
    have c73 := c67.keep Kc72
    have c74 := c68.keep Kc72 nin0
    have c75 := c69.keep Kc72 nin0
    have B76 := B70.keep Kc72 nin0
    have B77 := B66.keep Kc72 nin0
    have sz_r72 : h0.size ≤ r72 := Nat.le_trans K71.1 szr72
    have K72 := K71.trans Kc72 all0
    refine Wp.go st72 ?_
    show Wp p e below _ (T72.setTop (mkF m 282 #[.val (.int p0), .val (.long q1), .second, .val (.int p3), .val (.int p4), .val (.int (0 : Int32)), .val (.ref b2), .val (.ref b8), .val (.ref r16), .val (.ref b24), .val (.ref r45), .val (.int (13 : Int32)), .unset] [(.ref r72)]))
    refine Wp.step (fun t k => XS.astore X72.here hx rfl (hb hby at_282) rfl rfl (l' := #[.val (.int p0), .val (.long q1), .second, .val (.int p3), .val (.int p4), .val (.int (0 : Int32)), .val (.ref b2), .val (.ref b8), .val (.ref r16), .val (.ref b24), .val (.ref r45), .val (.int (13 : Int32)), .val (.ref r72)]) rfl k) ?_
    show Wp p e below _ (T72.setTop (mkF m 284 #[.val (.int p0), .val (.long q1), .second, .val (.int p3), .val (.int p4), .val (.int (0 : Int32)), .val (.ref b2), .val (.ref b8), .val (.ref r16), .val (.ref b24), .val (.ref r45), .val (.int (13 : Int32)), .val (.ref r72)] []))
    refine Wp.step (fun t k => XS.aload X72.here hx rfl (hb hby at_284) rfl rfl k) ?_
    show Wp p e below _ (T72.setTop (mkF m 286 #[.val (.int p0), .val (.long q1), .second, .val (.int p3), .val (.int p4), .val (.int (0 : Int32)), .val (.ref b2), .val (.ref b8), .val (.ref r16), .val (.ref b24), .val (.ref r45), .val (.int (13 : Int32)), .val (.ref r72)] [(.ref r72)]))
    obtain ⟨cl78, Ar78, Sz78, Nn78, -⟩ := id B_r72
    refine Wp.step (X72.arraylength hx (by rw [e72]; exact Ar78.1) (State.isArrayOf_alike hZ.alike Ar78.2.1) (g := (mkF m 286 #[.val (.int p0), .val (.long q1), .second, .val (.int p3), .val (.int p4), .val (.int (0 : Int32)), .val (.ref b2), .val (.ref b8), .val (.ref r16), .val (.ref b24), .val (.ref r45), .val (.int (13 : Int32)), .val (.ref r72)] [(.ref r72)])) rfl rfl (hb hby at_286)) ?_
    rw [len_of Sz78 Nn78]
    show Wp p e below _ (T72.setTop (mkF m 287 #[.val (.int p0), .val (.long q1), .second, .val (.int p3), .val (.int p4), .val (.int (0 : Int32)), .val (.ref b2), .val (.ref b8), .val (.ref r16), .val (.ref b24), .val (.ref r45), .val (.int (13 : Int32)), .val (.ref r72)] [(.int (13 : Int32))]))
    refine Wp.step (fun t k => XS.iload X72.here hx rfl (hb hby at_287) rfl k) ?_
    show Wp p e below _ (T72.setTop (mkF m 289 #[.val (.int p0), .val (.long q1), .second, .val (.int p3), .val (.int p4), .val (.int (0 : Int32)), .val (.ref b2), .val (.ref b8), .val (.ref r16), .val (.ref b24), .val (.ref r45), .val (.int (13 : Int32)), .val (.ref r72)] [(.int (13 : Int32)), (.int (13 : Int32))]))
    refine Wp.step (fun t k => XS.icmpNo X72.here hx rfl (hb hby at_289) rfl (teq (show (13 : Int32) = (13 : Int32) by decide)).2 k) ?_
    show Wp p e below _ (T72.setTop (mkF m 292 #[.val (.int p0), .val (.long q1), .second, .val (.int p3), .val (.int p4), .val (.int (0 : Int32)), .val (.ref b2), .val (.ref b8), .val (.ref r16), .val (.ref b24), .val (.ref r45), .val (.int (13 : Int32)), .val (.ref r72)] []))
    refine Wp.step (fun t k => XS.aload X72.here hx rfl (hb hby at_292) rfl rfl k) ?_
    show Wp p e below _ (T72.setTop (mkF m 294 #[.val (.int p0), .val (.long q1), .second, .val (.int p3), .val (.int p4), .val (.int (0 : Int32)), .val (.ref b2), .val (.ref b8), .val (.ref r16), .val (.ref b24), .val (.ref r45), .val (.int (13 : Int32)), .val (.ref r72)] [(.ref r72)]))
    refine Wp.step (fun t k => XS.iconst X72.here hx rfl (hb hby at_294) k) ?_
    show Wp p e below _ (T72.setTop (mkF m 295 #[.val (.int p0), .val (.long q1), .second, .val (.int p3), .val (.int p4), .val (.int (0 : Int32)), .val (.ref b2), .val (.ref b8), .val (.ref r16), .val (.ref b24), .val (.ref r45), .val (.int (13 : Int32)), .val (.ref r72)] [(.int (0 : Int32)), (.ref r72)]))
    obtain ⟨cl80, Ar80, Sz80, Nn80, El80⟩ := id B_r72
    have hin80 : ¬ ((0 : Int32) < 0 ∨ cl80.slots.size ≤ ((0 : Int32)).toNatClampNeg) := inb_of Sz80 ⟨by decide, by decide⟩
    have hat80 : cl80.slots[((0 : Int32)).toNatClampNeg]? = some (.int ((own_copy (own_w1 (own_w4 (own_w4 (own_w4 (fun _ => (0 : Int32)) (0 : Int32) p0) (4 : Int32) (q1 >>> ((32 : Int32) &&& 0x3f).toInt64).toInt32) (8 : Int32) q1.toInt32) (12 : Int32) p3) (fun _ => (0 : Int32)) (0 : Int32).toNatClampNeg (0 : Int32).toNatClampNeg (own_min (256 : Int32) (13 : Int32)).toNatClampNeg) ((0 : Int32)).toNatClampNeg)) := (El80 _ (by have q := Nat.lt_of_not_le fun q => hin80 (Or.inr q); rw [Sz80] at q; exact q)).1
    rw [show ((own_copy (own_w1 (own_w4 (own_w4 (own_w4 (fun _ => (0 : Int32)) (0 : Int32) p0) (4 : Int32) (q1 >>> ((32 : Int32) &&& 0x3f).toInt64).toInt32) (8 : Int32) q1.toInt32) (12 : Int32) p3) (fun _ => (0 : Int32)) (0 : Int32).toNatClampNeg (0 : Int32).toNatClampNeg (own_min (256 : Int32) (13 : Int32)).toNatClampNeg) ((0 : Int32)).toNatClampNeg) = ((p0 >>> ((24 : Int32) &&& 31)).toInt8.toInt32) from rfl] at hat80
    refine Wp.step (X72.baloadBytes hx (j := (0 : Int32)) (v := (.int ((p0 >>> ((24 : Int32) &&& 31)).toInt8.toInt32))) (by rw [e72]; exact Ar80.1) (State.isArrayOf_alike hZ.alike Ar80.2.1) Ar80.2.2 hin80 hat80 (g := (mkF m 295 #[.val (.int p0), .val (.long q1), .second, .val (.int p3), .val (.int p4), .val (.int (0 : Int32)), .val (.ref b2), .val (.ref b8), .val (.ref r16), .val (.ref b24), .val (.ref r45), .val (.int (13 : Int32)), .val (.ref r72)] [(.int (0 : Int32)), (.ref r72)])) rfl rfl (hb hby at_295)) ?_
    show Wp p e below _ (T72.setTop (mkF m 296 #[.val (.int p0), .val (.long q1), .second, .val (.int p3), .val (.int p4), .val (.int (0 : Int32)), .val (.ref b2), .val (.ref b8), .val (.ref r16), .val (.ref b24), .val (.ref r45), .val (.int (13 : Int32)), .val (.ref r72)] [(.int ((p0 >>> ((24 : Int32) &&& 31)).toInt8.toInt32))]))
    refine Wp.step (fun t k => XS.iloadN X72.here hx rfl (hb hby at_296) rfl k) ?_
    show Wp p e below _ (T72.setTop (mkF m 297 #[.val (.int p0), .val (.long q1), .second, .val (.int p3), .val (.int p4), .val (.int (0 : Int32)), .val (.ref b2), .val (.ref b8), .val (.ref r16), .val (.ref b24), .val (.ref r45), .val (.int (13 : Int32)), .val (.ref r72)] [(.int p0), (.int ((p0 >>> ((24 : Int32) &&& 31)).toInt8.toInt32))]))
    refine Wp.step (fun t k => XS.bipush X72.here hx rfl (hb hby at_297) k) ?_
    show Wp p e below _ (T72.setTop (mkF m 299 #[.val (.int p0), .val (.long q1), .second, .val (.int p3), .val (.int p4), .val (.int (0 : Int32)), .val (.ref b2), .val (.ref b8), .val (.ref r16), .val (.ref b24), .val (.ref r45), .val (.int (13 : Int32)), .val (.ref r72)] [(.int (24 : Int32)), (.int p0), (.int ((p0 >>> ((24 : Int32) &&& 31)).toInt8.toInt32))]))
    refine Wp.step (fun t k => XS.iushr X72.here hx rfl (hb hby at_299) rfl k) ?_
    show Wp p e below _ (T72.setTop (mkF m 300 #[.val (.int p0), .val (.long q1), .second, .val (.int p3), .val (.int p4), .val (.int (0 : Int32)), .val (.ref b2), .val (.ref b8), .val (.ref r16), .val (.ref b24), .val (.ref r45), .val (.int (13 : Int32)), .val (.ref r72)] [(.int ((p0.toUInt32 >>> ((24 : Int32) &&& 31).toUInt32).toInt32)), (.int ((p0 >>> ((24 : Int32) &&& 31)).toInt8.toInt32))]))
    refine Wp.step (fun t k => XS.i2b X72.here hx rfl (hb hby at_300) rfl k) ?_
    show Wp p e below _ (T72.setTop (mkF m 301 #[.val (.int p0), .val (.long q1), .second, .val (.int p3), .val (.int p4), .val (.int (0 : Int32)), .val (.ref b2), .val (.ref b8), .val (.ref r16), .val (.ref b24), .val (.ref r45), .val (.int (13 : Int32)), .val (.ref r72)] [(.int (((p0.toUInt32 >>> ((24 : Int32) &&& 31).toUInt32).toInt32).toInt8.toInt32)), (.int ((p0 >>> ((24 : Int32) &&& 31)).toInt8.toInt32))]))
    refine Wp.step (fun t k => XS.icmpNo X72.here hx rfl (hb hby at_301) rfl (teq (show ((p0 >>> ((24 : Int32) &&& 31)).toInt8.toInt32) = (((p0.toUInt32 >>> ((24 : Int32) &&& 31).toUInt32).toInt32).toInt8.toInt32) from own_sh _ 24 24 (by decide) (by decide) (by decide))).2 k) ?_
    show Wp p e below _ (T72.setTop (mkF m 304 #[.val (.int p0), .val (.long q1), .second, .val (.int p3), .val (.int p4), .val (.int (0 : Int32)), .val (.ref b2), .val (.ref b8), .val (.ref r16), .val (.ref b24), .val (.ref r45), .val (.int (13 : Int32)), .val (.ref r72)] []))
    refine Wp.step (fun t k => XS.aload X72.here hx rfl (hb hby at_304) rfl rfl k) ?_
    show Wp p e below _ (T72.setTop (mkF m 306 #[.val (.int p0), .val (.long q1), .second, .val (.int p3), .val (.int p4), .val (.int (0 : Int32)), .val (.ref b2), .val (.ref b8), .val (.ref r16), .val (.ref b24), .val (.ref r45), .val (.int (13 : Int32)), .val (.ref r72)] [(.ref r72)]))
    refine Wp.step (fun t k => XS.iload X72.here hx rfl (hb hby at_306) rfl k) ?_
    show Wp p e below _ (T72.setTop (mkF m 308 #[.val (.int p0), .val (.long q1), .second, .val (.int p3), .val (.int p4), .val (.int (0 : Int32)), .val (.ref b2), .val (.ref b8), .val (.ref r16), .val (.ref b24), .val (.ref r45), .val (.int (13 : Int32)), .val (.ref r72)] [(.int (13 : Int32)), (.ref r72)]))
    refine Wp.step (fun t k => XS.iconst X72.here hx rfl (hb hby at_308) k) ?_
    show Wp p e below _ (T72.setTop (mkF m 309 #[.val (.int p0), .val (.long q1), .second, .val (.int p3), .val (.int p4), .val (.int (0 : Int32)), .val (.ref b2), .val (.ref b8), .val (.ref r16), .val (.ref b24), .val (.ref r45), .val (.int (13 : Int32)), .val (.ref r72)] [(.int (1 : Int32)), (.int (13 : Int32)), (.ref r72)]))
    refine Wp.step (fun t k => XS.isub X72.here hx rfl (hb hby at_309) rfl k) ?_
    show Wp p e below _ (T72.setTop (mkF m 310 #[.val (.int p0), .val (.long q1), .second, .val (.int p3), .val (.int p4), .val (.int (0 : Int32)), .val (.ref b2), .val (.ref b8), .val (.ref r16), .val (.ref b24), .val (.ref r45), .val (.int (13 : Int32)), .val (.ref r72)] [(.int (12 : Int32)), (.ref r72)]))
    obtain ⟨cl82, Ar82, Sz82, Nn82, El82⟩ := id B_r72
    have hin82 : ¬ ((12 : Int32) < 0 ∨ cl82.slots.size ≤ ((12 : Int32)).toNatClampNeg) := inb_of Sz82 ⟨by decide, by decide⟩
    have hat82 : cl82.slots[((12 : Int32)).toNatClampNeg]? = some (.int ((own_copy (own_w1 (own_w4 (own_w4 (own_w4 (fun _ => (0 : Int32)) (0 : Int32) p0) (4 : Int32) (q1 >>> ((32 : Int32) &&& 0x3f).toInt64).toInt32) (8 : Int32) q1.toInt32) (12 : Int32) p3) (fun _ => (0 : Int32)) (0 : Int32).toNatClampNeg (0 : Int32).toNatClampNeg (own_min (256 : Int32) (13 : Int32)).toNatClampNeg) ((12 : Int32)).toNatClampNeg)) := (El82 _ (by have q := Nat.lt_of_not_le fun q => hin82 (Or.inr q); rw [Sz82] at q; exact q)).1
    rw [show ((own_copy (own_w1 (own_w4 (own_w4 (own_w4 (fun _ => (0 : Int32)) (0 : Int32) p0) (4 : Int32) (q1 >>> ((32 : Int32) &&& 0x3f).toInt64).toInt32) (8 : Int32) q1.toInt32) (12 : Int32) p3) (fun _ => (0 : Int32)) (0 : Int32).toNatClampNeg (0 : Int32).toNatClampNeg (own_min (256 : Int32) (13 : Int32)).toNatClampNeg) ((12 : Int32)).toNatClampNeg) = (p3.toInt8.toInt32) from rfl] at hat82
    refine Wp.step (X72.baloadBytes hx (j := (12 : Int32)) (v := (.int (p3.toInt8.toInt32))) (by rw [e72]; exact Ar82.1) (State.isArrayOf_alike hZ.alike Ar82.2.1) Ar82.2.2 hin82 hat82 (g := (mkF m 310 #[.val (.int p0), .val (.long q1), .second, .val (.int p3), .val (.int p4), .val (.int (0 : Int32)), .val (.ref b2), .val (.ref b8), .val (.ref r16), .val (.ref b24), .val (.ref r45), .val (.int (13 : Int32)), .val (.ref r72)] [(.int (12 : Int32)), (.ref r72)])) rfl rfl (hb hby at_310)) ?_
    show Wp p e below _ (T72.setTop (mkF m 311 #[.val (.int p0), .val (.long q1), .second, .val (.int p3), .val (.int p4), .val (.int (0 : Int32)), .val (.ref b2), .val (.ref b8), .val (.ref r16), .val (.ref b24), .val (.ref r45), .val (.int (13 : Int32)), .val (.ref r72)] [(.int (p3.toInt8.toInt32))]))
    refine Wp.step (fun t k => XS.iloadN X72.here hx rfl (hb hby at_311) rfl k) ?_
    show Wp p e below _ (T72.setTop (mkF m 312 #[.val (.int p0), .val (.long q1), .second, .val (.int p3), .val (.int p4), .val (.int (0 : Int32)), .val (.ref b2), .val (.ref b8), .val (.ref r16), .val (.ref b24), .val (.ref r45), .val (.int (13 : Int32)), .val (.ref r72)] [(.int p3), (.int (p3.toInt8.toInt32))]))
    refine Wp.step (fun t k => XS.i2b X72.here hx rfl (hb hby at_312) rfl k) ?_
    show Wp p e below _ (T72.setTop (mkF m 313 #[.val (.int p0), .val (.long q1), .second, .val (.int p3), .val (.int p4), .val (.int (0 : Int32)), .val (.ref b2), .val (.ref b8), .val (.ref r16), .val (.ref b24), .val (.ref r45), .val (.int (13 : Int32)), .val (.ref r72)] [(.int (p3.toInt8.toInt32)), (.int (p3.toInt8.toInt32))]))
    refine Wp.step (fun t k => XS.icmpNo X72.here hx rfl (hb hby at_313) rfl (teq (show (p3.toInt8.toInt32) = (p3.toInt8.toInt32) from rfl)).2 k) ?_
    show Wp p e below _ (T72.setTop (mkF m 316 #[.val (.int p0), .val (.long q1), .second, .val (.int p3), .val (.int p4), .val (.int (0 : Int32)), .val (.ref b2), .val (.ref b8), .val (.ref r16), .val (.ref b24), .val (.ref r45), .val (.int (13 : Int32)), .val (.ref r72)] []))
    refine Wp.step (fun t k => XS.iconst X72.here hx rfl (hb hby at_316) k) ?_
    show Wp p e below _ (T72.setTop (mkF m 317 #[.val (.int p0), .val (.long q1), .second, .val (.int p3), .val (.int p4), .val (.int (0 : Int32)), .val (.ref b2), .val (.ref b8), .val (.ref r16), .val (.ref b24), .val (.ref r45), .val (.int (13 : Int32)), .val (.ref r72)] [(.int (1 : Int32))]))
    refine Wp.step (fun t k => XS.goto X72.here hx rfl (pc0 := 317) (pc' := 321) rfl (hb hby at_317) (by decide) (by decide) k) ?_
    show Wp p e below _ (T72.setTop (mkF m 321 #[.val (.int p0), .val (.long q1), .second, .val (.int p3), .val (.int p4), .val (.int (0 : Int32)), .val (.ref b2), .val (.ref b8), .val (.ref r16), .val (.ref b24), .val (.ref r45), .val (.int (13 : Int32)), .val (.ref r72)] [(.int (1 : Int32))]))
    refine Wp.retN X72 hx (t := .boolean) Bd.returns (by simp) (hb hby at_321) hlk ?_ (by decide) (by decide)
    show Q0 Z p0 q1 p3 p4 h0 n0 (some (.int (nar .boolean (1 : Int32)))) T72.heap _
    rw [e72]
    exact ⟨rfl, N72⟩
  · refine Wp.step (fun t k => XS.ifNo X0.here hx rfl (hb hby at_4) rfl ((if0 _ _).trans (feq hc1).1) k) ?_
    show Wp p e below _ (s₁.setTop (mkF m 7 #[.val (.int p0), .val (.long q1), .second, .val (.int p3), .val (.int p4), .unset, .unset, .unset, .unset, .unset, .unset, .unset, .unset] []))
    refine Wp.step (fun t k => XS.iconst X0.here hx rfl (hb hby at_7) k) ?_
    show Wp p e below _ (s₁.setTop (mkF m 8 #[.val (.int p0), .val (.long q1), .second, .val (.int p3), .val (.int p4), .unset, .unset, .unset, .unset, .unset, .unset, .unset, .unset] [(.int (1 : Int32))]))
    refine Wp.step (fun t k => XS.goto X0.here hx rfl (pc0 := 8) (pc' := 12) rfl (hb hby at_8) (by decide) (by decide) k) ?_
    show Wp p e below _ (s₁.setTop (mkF m 12 #[.val (.int p0), .val (.long q1), .second, .val (.int p3), .val (.int p4), .unset, .unset, .unset, .unset, .unset, .unset, .unset, .unset] [(.int (1 : Int32))]))
    refine Wp.step (fun t k => XS.istore X0.here hx rfl (hb hby at_12) rfl (l' := #[.val (.int p0), .val (.long q1), .second, .val (.int p3), .val (.int p4), .val (.int (1 : Int32)), .unset, .unset, .unset, .unset, .unset, .unset, .unset]) rfl k) ?_
    show Wp p e below _ (s₁.setTop (mkF m 14 #[.val (.int p0), .val (.long q1), .second, .val (.int p3), .val (.int p4), .val (.int (1 : Int32)), .unset, .unset, .unset, .unset, .unset, .unset, .unset] []))
    refine Wp.step (fun t k => XS.sipush X0.here hx rfl (hb hby at_14) k) ?_
    show Wp p e below _ (s₁.setTop (mkF m 17 #[.val (.int p0), .val (.long q1), .second, .val (.int p3), .val (.int p4), .val (.int (1 : Int32)), .unset, .unset, .unset, .unset, .unset, .unset, .unset] [(.int (300 : Int32))]))
    obtain ⟨T84, h84, k84, X84, e84, E84, A84, st84⟩ := newP X0 hx hZ (hw _ (List.mem_of_getElem? (i := 0) rfl)) e0 (g := (mkF m 17 #[.val (.int p0), .val (.long q1), .second, .val (.int p3), .val (.int p4), .val (.int (1 : Int32)), .unset, .unset, .unset, .unset, .unset, .unset, .unset] [(.int (300 : Int32))])) rfl (hb hby at_17) rfl (by decide) (cap := 300) (by decide) (by decide) (by decide) (by decide)
    obtain ⟨b84, g84⟩ : ∃ z, z = h0.size := ⟨_, rfl⟩
    rw [← g84] at A84 st84
    have g_b84 : n0 ≤ b84 := Nat.le_trans (Nat.le_trans Z0 K0.1) (Nat.le_of_eq g84.symm)
    have sz_b84 : h0.size ≤ b84 := Nat.le_trans K0.1 (Nat.le_of_eq g84.symm)
    have K85 := K0.ext E84
    have Z84 : (newA k84 .byte (300 : Int32)).slots.size = ((300 : Int32)).toNatClampNeg := sz_new _ _ _
    have nn84 : ¬ (300 : Int32) < 0 := (by decide)
    refine Wp.step st84 ?_
    have B84 := own_IA.new A84 nn84 rfl
    show Wp p e below _ (T84.setTop (mkF m 19 #[.val (.int p0), .val (.long q1), .second, .val (.int p3), .val (.int p4), .val (.int (1 : Int32)), .unset, .unset, .unset, .unset, .unset, .unset, .unset] [(.ref b84)]))
    refine Wp.step (fun t k => XS.astore X84.here hx rfl (hb hby at_19) rfl rfl (l' := #[.val (.int p0), .val (.long q1), .second, .val (.int p3), .val (.int p4), .val (.int (1 : Int32)), .val (.ref b84), .unset, .unset, .unset, .unset, .unset, .unset]) rfl k) ?_
    show Wp p e below _ (T84.setTop (mkF m 21 #[.val (.int p0), .val (.long q1), .second, .val (.int p3), .val (.int p4), .val (.int (1 : Int32)), .val (.ref b84), .unset, .unset, .unset, .unset, .unset, .unset] []))
    refine Wp.step (fun t k => XS.aload X84.here hx rfl (hb hby at_21) rfl rfl k) ?_
    show Wp p e below _ (T84.setTop (mkF m 23 #[.val (.int p0), .val (.long q1), .second, .val (.int p3), .val (.int p4), .val (.int (1 : Int32)), .val (.ref b84), .unset, .unset, .unset, .unset, .unset, .unset] [(.ref b84)]))
    refine Wp.step (fun t k => XS.iconst X84.here hx rfl (hb hby at_23) k) ?_
    show Wp p e below _ (T84.setTop (mkF m 24 #[.val (.int p0), .val (.long q1), .second, .val (.int p3), .val (.int p4), .val (.int (1 : Int32)), .val (.ref b84), .unset, .unset, .unset, .unset, .unset, .unset] [(.int (0 : Int32)), (.ref b84)]))
    refine Wp.step (fun t k => XS.iloadN X84.here hx rfl (hb hby at_24) rfl k) ?_
    show Wp p e below _ (T84.setTop (mkF m 25 #[.val (.int p0), .val (.long q1), .second, .val (.int p3), .val (.int p4), .val (.int (1 : Int32)), .val (.ref b84), .unset, .unset, .unset, .unset, .unset, .unset] [(.int p3), (.int (0 : Int32)), (.ref b84)]))
    refine Wp.step (fun t k => XS.i2b X84.here hx rfl (hb hby at_25) rfl k) ?_
    show Wp p e below _ (T84.setTop (mkF m 26 #[.val (.int p0), .val (.long q1), .second, .val (.int p3), .val (.int p4), .val (.int (1 : Int32)), .val (.ref b84), .unset, .unset, .unset, .unset, .unset, .unset] [(.int (p3.toInt8.toInt32)), (.int (0 : Int32)), (.ref b84)]))
    obtain ⟨cl86, Ar86, Sz86, Nn86, El86⟩ := id B84
    have hin86 : ¬ ((0 : Int32) < 0 ∨ cl86.slots.size ≤ ((0 : Int32)).toNatClampNeg) := inb_of Sz86 ⟨by decide, by decide⟩
    obtain ⟨T86, h86, X86, e86, W86, st86⟩ := stB X84 hx hZ e84 Ar86 (j := (0 : Int32)) hin86 (g := (mkF m 26 #[.val (.int p0), .val (.long q1), .second, .val (.int p3), .val (.int p4), .val (.int (1 : Int32)), .val (.ref b84), .unset, .unset, .unset, .unset, .unset, .unset] [(.int (p3.toInt8.toInt32)), (.int (0 : Int32)), (.ref b84)])) rfl rfl (hb hby at_26)
    have K87 := K85.wr W86 (Or.inr sz_b84)
    have N86 := Fr.snoc X86 N0 g_b84
    have B86 := own_IA.set Ar86 Sz86 Nn86 El86 W86 (fits_nar_byte _)
    rw [own_narb] at B86
    refine Wp.step st86 ?_
    show Wp p e below _ (T86.setTop (mkF m 27 #[.val (.int p0), .val (.long q1), .second, .val (.int p3), .val (.int p4), .val (.int (1 : Int32)), .val (.ref b84), .unset, .unset, .unset, .unset, .unset, .unset] []))
    refine Wp.step (fun t k => XS.aload X86.here hx rfl (hb hby at_27) rfl rfl k) ?_
    show Wp p e below _ (T86.setTop (mkF m 29 #[.val (.int p0), .val (.long q1), .second, .val (.int p3), .val (.int p4), .val (.int (1 : Int32)), .val (.ref b84), .unset, .unset, .unset, .unset, .unset, .unset] [(.ref b84)]))
    refine Wp.step (fun t k => XS.sipush X86.here hx rfl (hb hby at_29) k) ?_
    show Wp p e below _ (T86.setTop (mkF m 32 #[.val (.int p0), .val (.long q1), .second, .val (.int p3), .val (.int p4), .val (.int (1 : Int32)), .val (.ref b84), .unset, .unset, .unset, .unset, .unset, .unset] [(.int (299 : Int32)), (.ref b84)]))
    refine Wp.step (fun t k => XS.iloadN X86.here hx rfl (hb hby at_32) rfl k) ?_
    show Wp p e below _ (T86.setTop (mkF m 33 #[.val (.int p0), .val (.long q1), .second, .val (.int p3), .val (.int p4), .val (.int (1 : Int32)), .val (.ref b84), .unset, .unset, .unset, .unset, .unset, .unset] [(.int p3), (.int (299 : Int32)), (.ref b84)]))
    refine Wp.step (fun t k => XS.bipush X86.here hx rfl (hb hby at_33) k) ?_
    show Wp p e below _ (T86.setTop (mkF m 35 #[.val (.int p0), .val (.long q1), .second, .val (.int p3), .val (.int p4), .val (.int (1 : Int32)), .val (.ref b84), .unset, .unset, .unset, .unset, .unset, .unset] [(.int (8 : Int32)), (.int p3), (.int (299 : Int32)), (.ref b84)]))
    refine Wp.step (fun t k => XS.ishr X86.here hx rfl (hb hby at_35) rfl k) ?_
    show Wp p e below _ (T86.setTop (mkF m 36 #[.val (.int p0), .val (.long q1), .second, .val (.int p3), .val (.int p4), .val (.int (1 : Int32)), .val (.ref b84), .unset, .unset, .unset, .unset, .unset, .unset] [(.int (p3 >>> ((8 : Int32) &&& 31))), (.int (299 : Int32)), (.ref b84)]))
    refine Wp.step (fun t k => XS.i2b X86.here hx rfl (hb hby at_36) rfl k) ?_
    show Wp p e below _ (T86.setTop (mkF m 37 #[.val (.int p0), .val (.long q1), .second, .val (.int p3), .val (.int p4), .val (.int (1 : Int32)), .val (.ref b84), .unset, .unset, .unset, .unset, .unset, .unset] [(.int ((p3 >>> ((8 : Int32) &&& 31)).toInt8.toInt32)), (.int (299 : Int32)), (.ref b84)]))
    obtain ⟨cl88, Ar88, Sz88, Nn88, El88⟩ := id B86
    have hin88 : ¬ ((299 : Int32) < 0 ∨ cl88.slots.size ≤ ((299 : Int32)).toNatClampNeg) := inb_of Sz88 ⟨by decide, by decide⟩
    obtain ⟨T88, h88, X88, e88, W88, st88⟩ := stB X86 hx hZ e86 Ar88 (j := (299 : Int32)) hin88 (g := (mkF m 37 #[.val (.int p0), .val (.long q1), .second, .val (.int p3), .val (.int p4), .val (.int (1 : Int32)), .val (.ref b84), .unset, .unset, .unset, .unset, .unset, .unset] [(.int ((p3 >>> ((8 : Int32) &&& 31)).toInt8.toInt32)), (.int (299 : Int32)), (.ref b84)])) rfl rfl (hb hby at_37)
    have K89 := K87.wr W88 (Or.inr sz_b84)
    have N88 := Fr.snoc X88 N86 g_b84
    have B88 := own_IA.set Ar88 Sz88 Nn88 El88 W88 (fits_nar_byte _)
    rw [own_narb] at B88
    refine Wp.step st88 ?_
    show Wp p e below _ (T88.setTop (mkF m 38 #[.val (.int p0), .val (.long q1), .second, .val (.int p3), .val (.int p4), .val (.int (1 : Int32)), .val (.ref b84), .unset, .unset, .unset, .unset, .unset, .unset] []))
    obtain ⟨T90, h90, X90, e90, E90, A90, D90, -, st90⟩ := newO X88 hx hZ hown (hw _ (List.mem_of_getElem? (i := 1) rfl)) (hw _ (List.mem_of_getElem? (i := 2) rfl)) (hw _ (List.mem_of_getElem? (i := 3) rfl)) e88 (g := (mkF m 38 #[.val (.int p0), .val (.long q1), .second, .val (.int p3), .val (.int p4), .val (.int (1 : Int32)), .val (.ref b84), .unset, .unset, .unset, .unset, .unset, .unset] [])) rfl (hb hby at_38) (by decide) (by decide)
    obtain ⟨b90, g90⟩ : ∃ z, z = h88.size := ⟨_, rfl⟩
    rw [← g90] at A90 D90 st90
    have g_b90 : n0 ≤ b90 := Nat.le_trans (Nat.le_trans Z0 K89.1) (Nat.le_of_eq g90.symm)
    have sz_b90 : h0.size ≤ b90 := Nat.le_trans K89.1 (Nat.le_of_eq g90.symm)
    have ne_b84_b90 : b84 ≠ b90 := Nat.ne_of_lt (Nat.lt_of_lt_of_le B88.lt (Nat.le_of_eq g90.symm))
    have B91 := B88.ext E90
    have K92 := K89.ext E90
    have c93 : Fld Z h90 b90 "com/example/ulinzi/ulinzi/protocol/ProtocolWriter" "bytes" "[B" .null := D90 (Or.inl (hw _ (List.mem_of_getElem? (i := 11) rfl))) (ty := (.array .byte)) (by decide)
    have c94 : Fld Z h90 b90 "com/example/ulinzi/ulinzi/protocol/ProtocolWriter" "size" "I" (.int (0 : Int32)) := D90 (Or.inl (hw _ (List.mem_of_getElem? (i := 18) rfl))) (ty := .int) (by decide)
    refine Wp.step st90 ?_
    show Wp p e below _ (T90.setTop (mkF m 41 #[.val (.int p0), .val (.long q1), .second, .val (.int p3), .val (.int p4), .val (.int (1 : Int32)), .val (.ref b84), .unset, .unset, .unset, .unset, .unset, .unset] [(.ref b90)]))
    refine Wp.step (fun t k => XS.dup X90.here hx rfl (hb hby at_41) rfl rfl k) ?_
    show Wp p e below _ (T90.setTop (mkF m 42 #[.val (.int p0), .val (.long q1), .second, .val (.int p3), .val (.int p4), .val (.int (1 : Int32)), .val (.ref b84), .unset, .unset, .unset, .unset, .unset, .unset] [(.ref b90), (.ref b90)]))
    obtain ⟨_, _, ⟨T95, L95, k95, n95⟩, -, X95, ⟨Lc95, hQ95, l95, y95, z95⟩, st95⟩ := X90.specialBack hx (y := (⟨"com/example/ulinzi/ulinzi/protocol/ProtocolWriter", "<init>", "()V"⟩ : MethodName)) rfl hown (mvT hZ (hw _ (List.mem_of_getElem? (i := 4) rfl))) (mvT hZ (hw _ (List.mem_of_getElem? (i := 5) rfl))) (mvT hZ (hw _ (List.mem_of_getElem? (i := 6) rfl))) (by decide) (backOf (W := 1) (rm1 l Z a0 hw [] b90 h90 n0 (Nat.le_trans Z0 K92.1) g_b90 A90 c94 c93) hZ (hw _ (List.mem_of_getElem? (i := 6) rfl)) (hw _ (List.mem_of_getElem? (i := 3) rfl)) (by decide) (by decide)) (g := (mkF m 42 #[.val (.int p0), .val (.long q1), .second, .val (.int p3), .val (.int p4), .val (.int (1 : Int32)), .val (.ref b84), .unset, .unset, .unset, .unset, .unset, .unset] [(.ref b90), (.ref b90)])) rfl (by rw [hml]; rfl) (Steps.refl _) (a := b90) (argsL := []) (rest := [(.ref b90)]) (lenOf pd_2829V rfl) rfl (by show 2 * 0 + _ ≤ _; exact Nat.le_of_eq rfl) (hb hby at_42) (fun _ _ => ⟨rfl, e90, (by decide : 2 + 1 ≤ _), (by decide : 302 + 256 ≤ _)⟩)
    dsimp only [Pt.U, Pt.locs, Pt.cells, Pt.slots] at X95 l95 y95 z95 st95 hQ95
    subst l95 y95 z95
    obtain ⟨h95, e95⟩ : ∃ z, T95.heap = z := ⟨_, rfl⟩
    rw [e95] at hQ95
    obtain ⟨rfl, N95q, Kc95, E_95, n95arr, sa95, g_n95arr, Fb95, Fs95, B95⟩ := hQ95
    have N95 := Fr.app N88 N95q
    have ne_b84_n95arr : b84 ≠ n95arr := Nat.ne_of_lt (Nat.lt_of_lt_of_le B91.lt sa95)
    have ne_b90_n95arr : b90 ≠ n95arr := Nat.ne_of_lt (Nat.lt_of_lt_of_le A90.lt sa95)
    have sz_n95arr : h0.size ≤ n95arr := Nat.le_trans K92.1 sa95
    have B96 := B91.keep Kc95 (ninS ne_b84_b90 nin0)
    have c97 := A90.keep Kc95
    have K95 := K92.trans Kc95 (allS (Or.inr sz_b90) all0)
    refine Wp.go st95 ?_
    show Wp p e below _ (T95.setTop (mkF m 45 #[.val (.int p0), .val (.long q1), .second, .val (.int p3), .val (.int p4), .val (.int (1 : Int32)), .val (.ref b84), .unset, .unset, .unset, .unset, .unset, .unset] [(.ref b90)]))
    refine Wp.step (fun t k => XS.astore X95.here hx rfl (hb hby at_45) rfl rfl (l' := #[.val (.int p0), .val (.long q1), .second, .val (.int p3), .val (.int p4), .val (.int (1 : Int32)), .val (.ref b84), .val (.ref b90), .unset, .unset, .unset, .unset, .unset]) rfl k) ?_
    show Wp p e below _ (T95.setTop (mkF m 47 #[.val (.int p0), .val (.long q1), .second, .val (.int p3), .val (.int p4), .val (.int (1 : Int32)), .val (.ref b84), .val (.ref b90), .unset, .unset, .unset, .unset, .unset] []))
    refine Wp.step (fun t k => XS.aload X95.here hx rfl (hb hby at_47) rfl rfl k) ?_
    show Wp p e below _ (T95.setTop (mkF m 49 #[.val (.int p0), .val (.long q1), .second, .val (.int p3), .val (.int p4), .val (.int (1 : Int32)), .val (.ref b84), .val (.ref b90), .unset, .unset, .unset, .unset, .unset] [(.ref b90)]))
    obtain ⟨cq98, kq98, q98a, q98b, q98c⟩ := isOf hZ e95 E_95
    obtain ⟨_, _, ⟨T98, L98, k98, n98⟩, -, X98, ⟨Lc98, hQ98, l98, y98, z98⟩, st98⟩ := X95.virtualBack hx (y := (⟨"com/example/ulinzi/ulinzi/protocol/ProtocolWriter", "toByteArray", "()[B"⟩ : MethodName)) (z := (⟨"com/example/ulinzi/ulinzi/protocol/ProtocolWriter", "toByteArray", "()[B"⟩ : MethodName)) hown (mvT hZ (hw _ (List.mem_of_getElem? (i := 12) rfl))) (mvT hZ (hw _ (List.mem_of_getElem? (i := 13) rfl))) (notFace_of_selects (args := #[]) (mvT hZ (hw _ (List.mem_of_getElem? (i := 15) rfl)))) (mvT hZ (hw _ (List.mem_of_getElem? (i := 15) rfl))) (mvT hZ (hw _ (List.mem_of_getElem? (i := 14) rfl))) (by decide) (backOf (W := 0) (rm3 l Z a0 hw [] b90 n95arr (0 : Int32) (256 : Int32) (fun _ => (0 : Int32)) h95 n0 (Nat.le_trans Z0 K95.1) E_95 Fb95 Fs95 B95 (Ne.symm ne_b90_n95arr) (by decide) (by decide) (by decide) (by decide) (by decide) (by decide)) hZ (hw _ (List.mem_of_getElem? (i := 16) rfl)) (hw _ (List.mem_of_getElem? (i := 3) rfl)) (by decide) (by decide)) q98a q98c (g := (mkF m 49 #[.val (.int p0), .val (.long q1), .second, .val (.int p3), .val (.int p4), .val (.int (1 : Int32)), .val (.ref b84), .val (.ref b90), .unset, .unset, .unset, .unset, .unset] [(.ref b90)])) rfl (by rw [hml]; rfl) (Steps.refl _) (argsL := []) (rest := []) (lenOf pd_28295bB rfl) rfl (by show 2 * 0 + _ ≤ _; exact Nat.le_of_eq rfl) (hb hby at_49) (fun _ _ => ⟨rfl, e95, (by decide : 3 + 1 ≤ _), (by decide : 558 + 512 ≤ _)⟩)
    dsimp only [Pt.U, Pt.locs, Pt.cells, Pt.slots] at X98 l98 y98 z98 st98 hQ98
    subst l98 y98 z98
    obtain ⟨h98, e98⟩ : ∃ z, T98.heap = z := ⟨_, rfl⟩
    rw [e98] at hQ98
    obtain ⟨r98, rfl, N98q, Kc98, szr98, g_r98, B_r98⟩ := hQ98
    have N98 := Fr.app N95 N98q
    have ne_b84_r98 : b84 ≠ r98 := Nat.ne_of_lt (Nat.lt_of_lt_of_le B96.lt szr98)
    have ne_b90_r98 : b90 ≠ r98 := Nat.ne_of_lt (Nat.lt_of_lt_of_le E_95.lt szr98)
    have ne_n95arr_r98 : n95arr ≠ r98 := Nat.ne_of_lt (Nat.lt_of_lt_of_le B95.lt szr98)
    have B99 := B96.keep Kc98 nin0
    have c100 := E_95.keep Kc98
    have c101 := Fb95.keep Kc98 nin0
    have c102 := Fs95.keep Kc98 nin0
    have B103 := B95.keep Kc98 nin0
    have sz_r98 : h0.size ≤ r98 := Nat.le_trans K95.1 szr98
    have K98 := K95.trans Kc98 all0
    refine Wp.go st98 ?_
    show Wp p e below _ (T98.setTop (mkF m 52 #[.val (.int p0), .val (.long q1), .second, .val (.int p3), .val (.int p4), .val (.int (1 : Int32)), .val (.ref b84), .val (.ref b90), .unset, .unset, .unset, .unset, .unset] [(.ref r98)]))
    refine Wp.step (fun t k => XS.astore X98.here hx rfl (hb hby at_52) rfl rfl (l' := #[.val (.int p0), .val (.long q1), .second, .val (.int p3), .val (.int p4), .val (.int (1 : Int32)), .val (.ref b84), .val (.ref b90), .val (.ref r98), .unset, .unset, .unset, .unset]) rfl k) ?_
    show Wp p e below _ (T98.setTop (mkF m 54 #[.val (.int p0), .val (.long q1), .second, .val (.int p3), .val (.int p4), .val (.int (1 : Int32)), .val (.ref b84), .val (.ref b90), .val (.ref r98), .unset, .unset, .unset, .unset] []))
    refine Wp.step (fun t k => XS.aload X98.here hx rfl (hb hby at_54) rfl rfl k) ?_
    show Wp p e below _ (T98.setTop (mkF m 56 #[.val (.int p0), .val (.long q1), .second, .val (.int p3), .val (.int p4), .val (.int (1 : Int32)), .val (.ref b84), .val (.ref b90), .val (.ref r98), .unset, .unset, .unset, .unset] [(.ref r98)]))
    obtain ⟨cl104, Ar104, Sz104, Nn104, -⟩ := id B_r98
    refine Wp.step (X98.arraylength hx (by rw [e98]; exact Ar104.1) (State.isArrayOf_alike hZ.alike Ar104.2.1) (g := (mkF m 56 #[.val (.int p0), .val (.long q1), .second, .val (.int p3), .val (.int p4), .val (.int (1 : Int32)), .val (.ref b84), .val (.ref b90), .val (.ref r98), .unset, .unset, .unset, .unset] [(.ref r98)])) rfl rfl (hb hby at_56)) ?_
    rw [len_of Sz104 Nn104]
    show Wp p e below _ (T98.setTop (mkF m 57 #[.val (.int p0), .val (.long q1), .second, .val (.int p3), .val (.int p4), .val (.int (1 : Int32)), .val (.ref b84), .val (.ref b90), .val (.ref r98), .unset, .unset, .unset, .unset] [(.int (0 : Int32))]))
    refine Wp.step (fun t k => XS.ifYes X98.here hx rfl (pc0 := 57) (pc' := 62) rfl (hb hby at_57) rfl ((if0 _ _).trans (teq (show (0 : Int32) = (0 : Int32) by decide)).1) (by decide) (by decide) k) ?_
    show Wp p e below _ (T98.setTop (mkF m 62 #[.val (.int p0), .val (.long q1), .second, .val (.int p3), .val (.int p4), .val (.int (1 : Int32)), .val (.ref b84), .val (.ref b90), .val (.ref r98), .unset, .unset, .unset, .unset] []))
    obtain ⟨T106, h106, X106, e106, E106, A106, D106, -, st106⟩ := newO X98 hx hZ hown (hw _ (List.mem_of_getElem? (i := 1) rfl)) (hw _ (List.mem_of_getElem? (i := 2) rfl)) (hw _ (List.mem_of_getElem? (i := 3) rfl)) e98 (g := (mkF m 62 #[.val (.int p0), .val (.long q1), .second, .val (.int p3), .val (.int p4), .val (.int (1 : Int32)), .val (.ref b84), .val (.ref b90), .val (.ref r98), .unset, .unset, .unset, .unset] [])) rfl (hb hby at_62) (by decide) (by decide)
    obtain ⟨b106, g106⟩ : ∃ z, z = h98.size := ⟨_, rfl⟩
    rw [← g106] at A106 D106 st106
    have g_b106 : n0 ≤ b106 := Nat.le_trans (Nat.le_trans Z0 K98.1) (Nat.le_of_eq g106.symm)
    have sz_b106 : h0.size ≤ b106 := Nat.le_trans K98.1 (Nat.le_of_eq g106.symm)
    have ne_b84_b106 : b84 ≠ b106 := Nat.ne_of_lt (Nat.lt_of_lt_of_le B99.lt (Nat.le_of_eq g106.symm))
    have B107 := B99.ext E106
    have K108 := K98.ext E106
    have c109 : Fld Z h106 b106 "com/example/ulinzi/ulinzi/protocol/ProtocolWriter" "bytes" "[B" .null := D106 (Or.inl (hw _ (List.mem_of_getElem? (i := 11) rfl))) (ty := (.array .byte)) (by decide)
    have c110 : Fld Z h106 b106 "com/example/ulinzi/ulinzi/protocol/ProtocolWriter" "size" "I" (.int (0 : Int32)) := D106 (Or.inl (hw _ (List.mem_of_getElem? (i := 18) rfl))) (ty := .int) (by decide)
    refine Wp.step st106 ?_
    show Wp p e below _ (T106.setTop (mkF m 65 #[.val (.int p0), .val (.long q1), .second, .val (.int p3), .val (.int p4), .val (.int (1 : Int32)), .val (.ref b84), .val (.ref b90), .val (.ref r98), .unset, .unset, .unset, .unset] [(.ref b106)]))
    refine Wp.step (fun t k => XS.dup X106.here hx rfl (hb hby at_65) rfl rfl k) ?_
    show Wp p e below _ (T106.setTop (mkF m 66 #[.val (.int p0), .val (.long q1), .second, .val (.int p3), .val (.int p4), .val (.int (1 : Int32)), .val (.ref b84), .val (.ref b90), .val (.ref r98), .unset, .unset, .unset, .unset] [(.ref b106), (.ref b106)]))
    obtain ⟨_, _, ⟨T111, L111, k111, n111⟩, -, X111, ⟨Lc111, hQ111, l111, y111, z111⟩, st111⟩ := X106.specialBack hx (y := (⟨"com/example/ulinzi/ulinzi/protocol/ProtocolWriter", "<init>", "()V"⟩ : MethodName)) rfl hown (mvT hZ (hw _ (List.mem_of_getElem? (i := 4) rfl))) (mvT hZ (hw _ (List.mem_of_getElem? (i := 5) rfl))) (mvT hZ (hw _ (List.mem_of_getElem? (i := 6) rfl))) (by decide) (backOf (W := 1) (rm1 l Z a0 hw [] b106 h106 n0 (Nat.le_trans Z0 K108.1) g_b106 A106 c110 c109) hZ (hw _ (List.mem_of_getElem? (i := 6) rfl)) (hw _ (List.mem_of_getElem? (i := 3) rfl)) (by decide) (by decide)) (g := (mkF m 66 #[.val (.int p0), .val (.long q1), .second, .val (.int p3), .val (.int p4), .val (.int (1 : Int32)), .val (.ref b84), .val (.ref b90), .val (.ref r98), .unset, .unset, .unset, .unset] [(.ref b106), (.ref b106)])) rfl (by rw [hml]; rfl) (Steps.refl _) (a := b106) (argsL := []) (rest := [(.ref b106)]) (lenOf pd_2829V rfl) rfl (by show 2 * 0 + _ ≤ _; exact Nat.le_of_eq rfl) (hb hby at_66) (fun _ _ => ⟨rfl, e106, (by decide : 5 + 1 ≤ _), (by decide : 1072 + 256 ≤ _)⟩)
    dsimp only [Pt.U, Pt.locs, Pt.cells, Pt.slots] at X111 l111 y111 z111 st111 hQ111
    subst l111 y111 z111
    obtain ⟨h111, e111⟩ : ∃ z, T111.heap = z := ⟨_, rfl⟩
    rw [e111] at hQ111
    obtain ⟨rfl, N111q, Kc111, E_111, n111arr, sa111, g_n111arr, Fb111, Fs111, B111⟩ := hQ111
    have N111 := Fr.app N98 N111q
    have ne_b106_n111arr : b106 ≠ n111arr := Nat.ne_of_lt (Nat.lt_of_lt_of_le A106.lt sa111)
    have ne_b84_n111arr : b84 ≠ n111arr := Nat.ne_of_lt (Nat.lt_of_lt_of_le B107.lt sa111)
    have sz_n111arr : h0.size ≤ n111arr := Nat.le_trans K108.1 sa111
    have B112 := B107.keep Kc111 (ninS ne_b84_b106 nin0)
    have c113 := A106.keep Kc111
    have K111 := K108.trans Kc111 (allS (Or.inr sz_b106) all0)
    refine Wp.go st111 ?_
    show Wp p e below _ (T111.setTop (mkF m 69 #[.val (.int p0), .val (.long q1), .second, .val (.int p3), .val (.int p4), .val (.int (1 : Int32)), .val (.ref b84), .val (.ref b90), .val (.ref r98), .unset, .unset, .unset, .unset] [(.ref b106)]))
    refine Wp.step (fun t k => XS.astore X111.here hx rfl (hb hby at_69) rfl rfl (l' := #[.val (.int p0), .val (.long q1), .second, .val (.int p3), .val (.int p4), .val (.int (1 : Int32)), .val (.ref b84), .val (.ref b90), .val (.ref r98), .val (.ref b106), .unset, .unset, .unset]) rfl k) ?_
    show Wp p e below _ (T111.setTop (mkF m 71 #[.val (.int p0), .val (.long q1), .second, .val (.int p3), .val (.int p4), .val (.int (1 : Int32)), .val (.ref b84), .val (.ref b90), .val (.ref r98), .val (.ref b106), .unset, .unset, .unset] []))
    refine Wp.step (fun t k => XS.aload X111.here hx rfl (hb hby at_71) rfl rfl k) ?_
    show Wp p e below _ (T111.setTop (mkF m 73 #[.val (.int p0), .val (.long q1), .second, .val (.int p3), .val (.int p4), .val (.int (1 : Int32)), .val (.ref b84), .val (.ref b90), .val (.ref r98), .val (.ref b106), .unset, .unset, .unset] [(.ref b106)]))
    refine Wp.step (fun t k => XS.iloadN X111.here hx rfl (hb hby at_73) rfl k) ?_
    show Wp p e below _ (T111.setTop (mkF m 74 #[.val (.int p0), .val (.long q1), .second, .val (.int p3), .val (.int p4), .val (.int (1 : Int32)), .val (.ref b84), .val (.ref b90), .val (.ref r98), .val (.ref b106), .unset, .unset, .unset] [(.int p0), (.ref b106)]))
    obtain ⟨cq114, kq114, q114a, q114b, q114c⟩ := isOf hZ e111 E_111
    obtain ⟨_, _, ⟨T114, L114, k114, n114⟩, -, X114, ⟨Lc114, hQ114, l114, y114, z114⟩, st114⟩ := X111.virtualBack hx (y := (⟨"com/example/ulinzi/ulinzi/protocol/ProtocolWriter", "writeInt32", "(I)Lcom/example/ulinzi/ulinzi/protocol/ProtocolWriter;"⟩ : MethodName)) (z := (⟨"com/example/ulinzi/ulinzi/protocol/ProtocolWriter", "writeInt32", "(I)Lcom/example/ulinzi/ulinzi/protocol/ProtocolWriter;"⟩ : MethodName)) hown (mvT hZ (hw _ (List.mem_of_getElem? (i := 31) rfl))) (mvT hZ (hw _ (List.mem_of_getElem? (i := 32) rfl))) (notFace_of_selects (args := #[]) (mvT hZ (hw _ (List.mem_of_getElem? (i := 34) rfl)))) (mvT hZ (hw _ (List.mem_of_getElem? (i := 34) rfl))) (mvT hZ (hw _ (List.mem_of_getElem? (i := 33) rfl))) (by decide) (backOf (W := 0) (rm6 l Z a0 hw [] b106 p0 n111arr (0 : Int32) (256 : Int32) (fun _ => (0 : Int32)) (4 : Int32) h111 n0 (Nat.le_trans Z0 K111.1) g_b106 g_n111arr E_111 Fb111 Fs111 B111 (Ne.symm ne_b106_n111arr) (by decide) (by decide) (by decide) (by decide) (by decide) (by decide)) hZ (hw _ (List.mem_of_getElem? (i := 35) rfl)) (hw _ (List.mem_of_getElem? (i := 3) rfl)) (by decide) (by decide)) q114a q114c (g := (mkF m 74 #[.val (.int p0), .val (.long q1), .second, .val (.int p3), .val (.int p4), .val (.int (1 : Int32)), .val (.ref b84), .val (.ref b90), .val (.ref r98), .val (.ref b106), .unset, .unset, .unset] [(.int p0), (.ref b106)])) rfl (by rw [hml]; rfl) (Steps.refl _) (argsL := [(.int p0)]) (rest := []) (lenOf pd_28I29Lcom2fexample2fulinzi2fulinzi2fprotocol2fProtocolWriter3b rfl) rfl (by show 2 * 0 + _ ≤ _; exact Nat.le_of_eq rfl) (hb hby at_74) (fun _ _ => ⟨rfl, e111, (by decide : 6 + 0 ≤ _), (by decide : 1328 + 0 ≤ _)⟩)
    dsimp only [Pt.U, Pt.locs, Pt.cells, Pt.slots] at X114 l114 y114 z114 st114 hQ114
    subst l114 y114 z114
    obtain ⟨h114, e114⟩ : ∃ z, T114.heap = z := ⟨_, rfl⟩
    rw [e114] at hQ114
    obtain ⟨rfl, N114q, Kc114, E_114, Fb114, Fs114, B114⟩ := hQ114
    have N114 := Fr.app N111 N114q
    have B115 := B112.keep Kc114 (ninS ne_b84_b106 (ninS ne_b84_n111arr nin0))
    have c116 := E_111.keep Kc114
    have K114 := K111.trans Kc114 (allS (Or.inr sz_b106) (allS (Or.inr sz_n111arr) all0))
    refine Wp.go st114 ?_
    show Wp p e below _ (T114.setTop (mkF m 77 #[.val (.int p0), .val (.long q1), .second, .val (.int p3), .val (.int p4), .val (.int (1 : Int32)), .val (.ref b84), .val (.ref b90), .val (.ref r98), .val (.ref b106), .unset, .unset, .unset] [(.ref b106)]))
    refine Wp.step (fun t k => XS.pop X114.here hx rfl (hb hby at_77) rfl rfl k) ?_
    show Wp p e below _ (T114.setTop (mkF m 78 #[.val (.int p0), .val (.long q1), .second, .val (.int p3), .val (.int p4), .val (.int (1 : Int32)), .val (.ref b84), .val (.ref b90), .val (.ref r98), .val (.ref b106), .unset, .unset, .unset] []))
    refine Wp.step (fun t k => XS.aload X114.here hx rfl (hb hby at_78) rfl rfl k) ?_
    show Wp p e below _ (T114.setTop (mkF m 80 #[.val (.int p0), .val (.long q1), .second, .val (.int p3), .val (.int p4), .val (.int (1 : Int32)), .val (.ref b84), .val (.ref b90), .val (.ref r98), .val (.ref b106), .unset, .unset, .unset] [(.ref b106)]))
    refine Wp.step (fun t k => XS.lloadN X114.here hx rfl (hb hby at_80) rfl k) ?_
    show Wp p e below _ (T114.setTop (mkF m 81 #[.val (.int p0), .val (.long q1), .second, .val (.int p3), .val (.int p4), .val (.int (1 : Int32)), .val (.ref b84), .val (.ref b90), .val (.ref r98), .val (.ref b106), .unset, .unset, .unset] [(.long q1), (.ref b106)]))
    obtain ⟨cq118, kq118, q118a, q118b, q118c⟩ := isOf hZ e114 E_114
    obtain ⟨_, _, ⟨T118, L118, k118, n118⟩, -, X118, ⟨Lc118, hQ118, l118, y118, z118⟩, st118⟩ := X114.virtualBack hx (y := (⟨"com/example/ulinzi/ulinzi/protocol/ProtocolWriter", "writeInt64", "(J)Lcom/example/ulinzi/ulinzi/protocol/ProtocolWriter;"⟩ : MethodName)) (z := (⟨"com/example/ulinzi/ulinzi/protocol/ProtocolWriter", "writeInt64", "(J)Lcom/example/ulinzi/ulinzi/protocol/ProtocolWriter;"⟩ : MethodName)) hown (mvT hZ (hw _ (List.mem_of_getElem? (i := 40) rfl))) (mvT hZ (hw _ (List.mem_of_getElem? (i := 41) rfl))) (notFace_of_selects (args := #[]) (mvT hZ (hw _ (List.mem_of_getElem? (i := 43) rfl)))) (mvT hZ (hw _ (List.mem_of_getElem? (i := 43) rfl))) (mvT hZ (hw _ (List.mem_of_getElem? (i := 42) rfl))) (by decide) (backOf (W := 0) (rm8 l Z a0 hw [] b106 q1 n111arr (own_w4 (fun _ => (0 : Int32)) (0 : Int32) p0) h114 n0 (Nat.le_trans Z0 K114.1) g_b106 g_n111arr E_114 Fb114 Fs114 B114 (Ne.symm ne_b106_n111arr)) hZ (hw _ (List.mem_of_getElem? (i := 44) rfl)) (hw _ (List.mem_of_getElem? (i := 3) rfl)) (by decide) (by decide)) q118a q118c (g := (mkF m 81 #[.val (.int p0), .val (.long q1), .second, .val (.int p3), .val (.int p4), .val (.int (1 : Int32)), .val (.ref b84), .val (.ref b90), .val (.ref r98), .val (.ref b106), .unset, .unset, .unset] [(.long q1), (.ref b106)])) rfl (by rw [hml]; rfl) (Steps.refl _) (argsL := [(.long q1)]) (rest := []) (lenOf pd_28J29Lcom2fexample2fulinzi2fulinzi2fprotocol2fProtocolWriter3b rfl) rfl (by show 2 * 0 + _ ≤ _; exact Nat.le_of_eq rfl) (hb hby at_81) (fun _ _ => ⟨rfl, e114, (by decide : 6 + 0 ≤ _), (by decide : 1328 + 0 ≤ _)⟩)
    dsimp only [Pt.U, Pt.locs, Pt.cells, Pt.slots] at X118 l118 y118 z118 st118 hQ118
    subst l118 y118 z118
    obtain ⟨h118, e118⟩ : ∃ z, T118.heap = z := ⟨_, rfl⟩
    rw [e118] at hQ118
    obtain ⟨rfl, N118q, Kc118, E_118, Fb118, Fs118, B118⟩ := hQ118
    have N118 := Fr.app N114 N118q
    have B119 := B115.keep Kc118 (ninS ne_b84_b106 (ninS ne_b84_n111arr nin0))
    have c120 := E_114.keep Kc118
    have K118 := K114.trans Kc118 (allS (Or.inr sz_b106) (allS (Or.inr sz_n111arr) all0))
    refine Wp.go st118 ?_
    show Wp p e below _ (T118.setTop (mkF m 84 #[.val (.int p0), .val (.long q1), .second, .val (.int p3), .val (.int p4), .val (.int (1 : Int32)), .val (.ref b84), .val (.ref b90), .val (.ref r98), .val (.ref b106), .unset, .unset, .unset] [(.ref b106)]))
    refine Wp.step (fun t k => XS.pop X118.here hx rfl (hb hby at_84) rfl rfl k) ?_
    show Wp p e below _ (T118.setTop (mkF m 85 #[.val (.int p0), .val (.long q1), .second, .val (.int p3), .val (.int p4), .val (.int (1 : Int32)), .val (.ref b84), .val (.ref b90), .val (.ref r98), .val (.ref b106), .unset, .unset, .unset] []))
    refine Wp.step (fun t k => XS.iload X118.here hx rfl (hb hby at_85) rfl k) ?_
    show Wp p e below _ (T118.setTop (mkF m 87 #[.val (.int p0), .val (.long q1), .second, .val (.int p3), .val (.int p4), .val (.int (1 : Int32)), .val (.ref b84), .val (.ref b90), .val (.ref r98), .val (.ref b106), .unset, .unset, .unset] [(.int (1 : Int32))]))
    refine Wp.step (fun t k => XS.ifNo X118.here hx rfl (hb hby at_87) rfl ((if0 _ _).trans (feq (show ¬ ((1 : Int32) = (0 : Int32)) by decide)).1) k) ?_
    show Wp p e below _ (T118.setTop (mkF m 90 #[.val (.int p0), .val (.long q1), .second, .val (.int p3), .val (.int p4), .val (.int (1 : Int32)), .val (.ref b84), .val (.ref b90), .val (.ref r98), .val (.ref b106), .unset, .unset, .unset] []))
    refine Wp.step (fun t k => XS.aload X118.here hx rfl (hb hby at_90) rfl rfl k) ?_
    show Wp p e below _ (T118.setTop (mkF m 92 #[.val (.int p0), .val (.long q1), .second, .val (.int p3), .val (.int p4), .val (.int (1 : Int32)), .val (.ref b84), .val (.ref b90), .val (.ref r98), .val (.ref b106), .unset, .unset, .unset] [(.ref b106)]))
    refine Wp.step (fun t k => XS.aload X118.here hx rfl (hb hby at_92) rfl rfl k) ?_
    show Wp p e below _ (T118.setTop (mkF m 94 #[.val (.int p0), .val (.long q1), .second, .val (.int p3), .val (.int p4), .val (.int (1 : Int32)), .val (.ref b84), .val (.ref b90), .val (.ref r98), .val (.ref b106), .unset, .unset, .unset] [(.ref b84), (.ref b106)]))
    obtain ⟨cq123, kq123, q123a, q123b, q123c⟩ := isOf hZ e118 E_118
    obtain ⟨_, _, ⟨T123, L123, k123, n123⟩, -, X123, ⟨Lc123, hQ123, l123, y123, z123⟩, st123⟩ := X118.virtualBack hx (y := (⟨"com/example/ulinzi/ulinzi/protocol/ProtocolWriter", "writeBytes", "([B)Lcom/example/ulinzi/ulinzi/protocol/ProtocolWriter;"⟩ : MethodName)) (z := (⟨"com/example/ulinzi/ulinzi/protocol/ProtocolWriter", "writeBytes", "([B)Lcom/example/ulinzi/ulinzi/protocol/ProtocolWriter;"⟩ : MethodName)) hown (mvT hZ (hw _ (List.mem_of_getElem? (i := 60) rfl))) (mvT hZ (hw _ (List.mem_of_getElem? (i := 61) rfl))) (notFace_of_selects (args := #[]) (mvT hZ (hw _ (List.mem_of_getElem? (i := 63) rfl)))) (mvT hZ (hw _ (List.mem_of_getElem? (i := 63) rfl))) (mvT hZ (hw _ (List.mem_of_getElem? (i := 62) rfl))) (by decide) (backOf (W := 0) (rm12 l Z a0 hw [] b106 b84 n111arr (own_w4 (own_w4 (own_w4 (fun _ => (0 : Int32)) (0 : Int32) p0) (4 : Int32) (q1 >>> ((32 : Int32) &&& 0x3f).toInt64).toInt32) (8 : Int32) q1.toInt32) (own_upd (own_upd (fun _ => (0 : Int32)) ((0 : Int32)).toNatClampNeg (p3.toInt8.toInt32)) ((299 : Int32)).toNatClampNeg ((p3 >>> ((8 : Int32) &&& 31)).toInt8.toInt32)) h118 n0 (Nat.le_trans Z0 K118.1) g_b106 g_n111arr E_118 Fb118 Fs118 B118 (Ne.symm ne_b106_n111arr) B119 ne_b84_b106 ne_b84_n111arr) hZ (hw _ (List.mem_of_getElem? (i := 64) rfl)) (hw _ (List.mem_of_getElem? (i := 3) rfl)) (by decide) (by decide)) q123a q123c (g := (mkF m 94 #[.val (.int p0), .val (.long q1), .second, .val (.int p3), .val (.int p4), .val (.int (1 : Int32)), .val (.ref b84), .val (.ref b90), .val (.ref r98), .val (.ref b106), .unset, .unset, .unset] [(.ref b84), (.ref b106)])) rfl (by rw [hml]; rfl) (Steps.refl _) (argsL := [(.ref b84)]) (rest := []) (lenOf pd_285bB29Lcom2fexample2fulinzi2fulinzi2fprotocol2fProtocolWriter3b rfl) rfl (by show 2 * 0 + _ ≤ _; exact Nat.le_of_eq rfl) (hb hby at_94) (fun _ _ => ⟨rfl, e118, (by decide : 6 + 1 ≤ _), (by decide : 1328 + 512 ≤ _)⟩)
    dsimp only [Pt.U, Pt.locs, Pt.cells, Pt.slots] at X123 l123 y123 z123 st123 hQ123
    subst l123 y123 z123
    obtain ⟨h123, e123⟩ : ∃ z, T123.heap = z := ⟨_, rfl⟩
    rw [e123] at hQ123
    obtain ⟨rfl, N123q, Kc123, E_123, n123arr, sa123, g_n123arr, Fb123, Fs123, B123⟩ := hQ123
    have N123 := Fr.app N118 N123q
    have ne_b106_n123arr : b106 ≠ n123arr := Nat.ne_of_lt (Nat.lt_of_lt_of_le E_118.lt sa123)
    have ne_b84_n123arr : b84 ≠ n123arr := Nat.ne_of_lt (Nat.lt_of_lt_of_le B119.lt sa123)
    have sz_n123arr : h0.size ≤ n123arr := Nat.le_trans K118.1 sa123
    have B124 := B119.keep Kc123 (ninS ne_b84_b106 (ninS ne_b84_n111arr nin0))
    have c125 := E_118.keep Kc123
    have K123 := K118.trans Kc123 (allS (Or.inr sz_b106) (allS (Or.inr sz_n111arr) all0))
    refine Wp.go st123 ?_
    show Wp p e below _ (T123.setTop (mkF m 97 #[.val (.int p0), .val (.long q1), .second, .val (.int p3), .val (.int p4), .val (.int (1 : Int32)), .val (.ref b84), .val (.ref b90), .val (.ref r98), .val (.ref b106), .unset, .unset, .unset] [(.ref b106)]))
    refine Wp.step (fun t k => XS.pop X123.here hx rfl (hb hby at_97) rfl rfl k) ?_
    show Wp p e below _ (T123.setTop (mkF m 98 #[.val (.int p0), .val (.long q1), .second, .val (.int p3), .val (.int p4), .val (.int (1 : Int32)), .val (.ref b84), .val (.ref b90), .val (.ref r98), .val (.ref b106), .unset, .unset, .unset] []))
    refine Wp.step (fun t k => XS.aload X123.here hx rfl (hb hby at_98) rfl rfl k) ?_
    show Wp p e below _ (T123.setTop (mkF m 100 #[.val (.int p0), .val (.long q1), .second, .val (.int p3), .val (.int p4), .val (.int (1 : Int32)), .val (.ref b84), .val (.ref b90), .val (.ref r98), .val (.ref b106), .unset, .unset, .unset] [(.ref b106)]))
    refine Wp.step (fun t k => XS.iloadN X123.here hx rfl (hb hby at_100) rfl k) ?_
    show Wp p e below _ (T123.setTop (mkF m 101 #[.val (.int p0), .val (.long q1), .second, .val (.int p3), .val (.int p4), .val (.int (1 : Int32)), .val (.ref b84), .val (.ref b90), .val (.ref r98), .val (.ref b106), .unset, .unset, .unset] [(.int p3), (.ref b106)]))
    obtain ⟨cq126, kq126, q126a, q126b, q126c⟩ := isOf hZ e123 E_123
    obtain ⟨_, _, ⟨T126, L126, k126, n126⟩, -, X126, ⟨Lc126, hQ126, l126, y126, z126⟩, st126⟩ := X123.virtualBack hx (y := (⟨"com/example/ulinzi/ulinzi/protocol/ProtocolWriter", "writeInt8", "(I)Lcom/example/ulinzi/ulinzi/protocol/ProtocolWriter;"⟩ : MethodName)) (z := (⟨"com/example/ulinzi/ulinzi/protocol/ProtocolWriter", "writeInt8", "(I)Lcom/example/ulinzi/ulinzi/protocol/ProtocolWriter;"⟩ : MethodName)) hown (mvT hZ (hw _ (List.mem_of_getElem? (i := 46) rfl))) (mvT hZ (hw _ (List.mem_of_getElem? (i := 47) rfl))) (notFace_of_selects (args := #[]) (mvT hZ (hw _ (List.mem_of_getElem? (i := 49) rfl)))) (mvT hZ (hw _ (List.mem_of_getElem? (i := 49) rfl))) (mvT hZ (hw _ (List.mem_of_getElem? (i := 48) rfl))) (by decide) (backOf (W := 0) (rm9 l Z a0 hw [] b106 p3 n123arr (316 : Int32) (512 : Int32) (own_copy (own_upd (own_upd (fun _ => (0 : Int32)) ((0 : Int32)).toNatClampNeg (p3.toInt8.toInt32)) ((299 : Int32)).toNatClampNeg ((p3 >>> ((8 : Int32) &&& 31)).toInt8.toInt32)) (own_copy (own_w4 (own_w4 (own_w4 (own_w4 (fun _ => (0 : Int32)) (0 : Int32) p0) (4 : Int32) (q1 >>> ((32 : Int32) &&& 0x3f).toInt64).toInt32) (8 : Int32) q1.toInt32) (12 : Int32) (300 : Int32)) (fun _ => (0 : Int32)) (0 : Int32).toNatClampNeg (0 : Int32).toNatClampNeg (own_min (256 : Int32) (512 : Int32)).toNatClampNeg) (0 : Int32).toNatClampNeg (16 : Int32).toNatClampNeg (300 : Int32).toNatClampNeg) (317 : Int32) h123 n0 (Nat.le_trans Z0 K123.1) g_b106 g_n123arr E_123 Fb123 Fs123 B123 (Ne.symm ne_b106_n123arr) (by decide) (by decide) (by decide)) hZ (hw _ (List.mem_of_getElem? (i := 50) rfl)) (hw _ (List.mem_of_getElem? (i := 3) rfl)) (by decide) (by decide)) q126a q126c (g := (mkF m 101 #[.val (.int p0), .val (.long q1), .second, .val (.int p3), .val (.int p4), .val (.int (1 : Int32)), .val (.ref b84), .val (.ref b90), .val (.ref r98), .val (.ref b106), .unset, .unset, .unset] [(.int p3), (.ref b106)])) rfl (by rw [hml]; rfl) (Steps.refl _) (argsL := [(.int p3)]) (rest := []) (lenOf pd_28I29Lcom2fexample2fulinzi2fulinzi2fprotocol2fProtocolWriter3b rfl) rfl (by show 2 * 0 + _ ≤ _; exact Nat.le_of_eq rfl) (hb hby at_101) (fun _ _ => ⟨rfl, e123, (by decide : 7 + 0 ≤ _), (by decide : 1840 + 0 ≤ _)⟩)
    dsimp only [Pt.U, Pt.locs, Pt.cells, Pt.slots] at X126 l126 y126 z126 st126 hQ126
    subst l126 y126 z126
    obtain ⟨h126, e126⟩ : ∃ z, T126.heap = z := ⟨_, rfl⟩
    rw [e126] at hQ126
    obtain ⟨rfl, N126q, Kc126, E_126, Fb126, Fs126, B126⟩ := hQ126
    have N126 := Fr.app N123 N126q
    have B127 := B124.keep Kc126 (ninS ne_b84_b106 (ninS ne_b84_n123arr nin0))
    have c128 := E_123.keep Kc126
    have K126 := K123.trans Kc126 (allS (Or.inr sz_b106) (allS (Or.inr sz_n123arr) all0))
    refine Wp.go st126 ?_
    show Wp p e below _ (T126.setTop (mkF m 104 #[.val (.int p0), .val (.long q1), .second, .val (.int p3), .val (.int p4), .val (.int (1 : Int32)), .val (.ref b84), .val (.ref b90), .val (.ref r98), .val (.ref b106), .unset, .unset, .unset] [(.ref b106)]))
    refine Wp.step (fun t k => XS.pop X126.here hx rfl (hb hby at_104) rfl rfl k) ?_
    show Wp p e below _ (T126.setTop (mkF m 105 #[.val (.int p0), .val (.long q1), .second, .val (.int p3), .val (.int p4), .val (.int (1 : Int32)), .val (.ref b84), .val (.ref b90), .val (.ref r98), .val (.ref b106), .unset, .unset, .unset] []))
    refine Wp.step (fun t k => XS.aload X126.here hx rfl (hb hby at_105) rfl rfl k) ?_
    show Wp p e below _ (T126.setTop (mkF m 107 #[.val (.int p0), .val (.long q1), .second, .val (.int p3), .val (.int p4), .val (.int (1 : Int32)), .val (.ref b84), .val (.ref b90), .val (.ref r98), .val (.ref b106), .unset, .unset, .unset] [(.ref b106)]))
    obtain ⟨cq130, kq130, q130a, q130b, q130c⟩ := isOf hZ e126 E_126
    obtain ⟨_, _, ⟨T130, L130, k130, n130⟩, -, X130, ⟨Lc130, hQ130, l130, y130, z130⟩, st130⟩ := X126.virtualBack hx (y := (⟨"com/example/ulinzi/ulinzi/protocol/ProtocolWriter", "toByteArray", "()[B"⟩ : MethodName)) (z := (⟨"com/example/ulinzi/ulinzi/protocol/ProtocolWriter", "toByteArray", "()[B"⟩ : MethodName)) hown (mvT hZ (hw _ (List.mem_of_getElem? (i := 12) rfl))) (mvT hZ (hw _ (List.mem_of_getElem? (i := 13) rfl))) (notFace_of_selects (args := #[]) (mvT hZ (hw _ (List.mem_of_getElem? (i := 15) rfl)))) (mvT hZ (hw _ (List.mem_of_getElem? (i := 15) rfl))) (mvT hZ (hw _ (List.mem_of_getElem? (i := 14) rfl))) (by decide) (backOf (W := 0) (rm3 l Z a0 hw [] b106 n123arr (317 : Int32) (512 : Int32) (own_w1 (own_copy (own_upd (own_upd (fun _ => (0 : Int32)) ((0 : Int32)).toNatClampNeg (p3.toInt8.toInt32)) ((299 : Int32)).toNatClampNeg ((p3 >>> ((8 : Int32) &&& 31)).toInt8.toInt32)) (own_copy (own_w4 (own_w4 (own_w4 (own_w4 (fun _ => (0 : Int32)) (0 : Int32) p0) (4 : Int32) (q1 >>> ((32 : Int32) &&& 0x3f).toInt64).toInt32) (8 : Int32) q1.toInt32) (12 : Int32) (300 : Int32)) (fun _ => (0 : Int32)) (0 : Int32).toNatClampNeg (0 : Int32).toNatClampNeg (own_min (256 : Int32) (512 : Int32)).toNatClampNeg) (0 : Int32).toNatClampNeg (16 : Int32).toNatClampNeg (300 : Int32).toNatClampNeg) (316 : Int32) p3) h126 n0 (Nat.le_trans Z0 K126.1) E_126 Fb126 Fs126 B126 (Ne.symm ne_b106_n123arr) (by decide) (by decide) (by decide) (by decide) (by decide) (by decide)) hZ (hw _ (List.mem_of_getElem? (i := 16) rfl)) (hw _ (List.mem_of_getElem? (i := 3) rfl)) (by decide) (by decide)) q130a q130c (g := (mkF m 107 #[.val (.int p0), .val (.long q1), .second, .val (.int p3), .val (.int p4), .val (.int (1 : Int32)), .val (.ref b84), .val (.ref b90), .val (.ref r98), .val (.ref b106), .unset, .unset, .unset] [(.ref b106)])) rfl (by rw [hml]; rfl) (Steps.refl _) (argsL := []) (rest := []) (lenOf pd_28295bB rfl) rfl (by show 2 * 0 + _ ≤ _; exact Nat.le_of_eq rfl) (hb hby at_107) (fun _ _ => ⟨rfl, e126, (by decide : 7 + 1 ≤ _), (by decide : 1840 + 512 ≤ _)⟩)
    dsimp only [Pt.U, Pt.locs, Pt.cells, Pt.slots] at X130 l130 y130 z130 st130 hQ130
    subst l130 y130 z130
    obtain ⟨h130, e130⟩ : ∃ z, T130.heap = z := ⟨_, rfl⟩
    rw [e130] at hQ130
    obtain ⟨r130, rfl, N130q, Kc130, szr130, g_r130, B_r130⟩ := hQ130
    have N130 := Fr.app N126 N130q
    have ne_b106_r130 : b106 ≠ r130 := Nat.ne_of_lt (Nat.lt_of_lt_of_le E_126.lt szr130)
    have ne_b84_r130 : b84 ≠ r130 := Nat.ne_of_lt (Nat.lt_of_lt_of_le B127.lt szr130)
    have ne_n123arr_r130 : n123arr ≠ r130 := Nat.ne_of_lt (Nat.lt_of_lt_of_le B126.lt szr130)
    have B131 := B127.keep Kc130 nin0
    have c132 := E_126.keep Kc130
    have c133 := Fb126.keep Kc130 nin0
    have c134 := Fs126.keep Kc130 nin0
    have B135 := B126.keep Kc130 nin0
    have sz_r130 : h0.size ≤ r130 := Nat.le_trans K126.1 szr130
    have K130 := K126.trans Kc130 all0
    refine Wp.go st130 ?_
    show Wp p e below _ (T130.setTop (mkF m 110 #[.val (.int p0), .val (.long q1), .second, .val (.int p3), .val (.int p4), .val (.int (1 : Int32)), .val (.ref b84), .val (.ref b90), .val (.ref r98), .val (.ref b106), .unset, .unset, .unset] [(.ref r130)]))
    refine Wp.step (fun t k => XS.astore X130.here hx rfl (hb hby at_110) rfl rfl (l' := #[.val (.int p0), .val (.long q1), .second, .val (.int p3), .val (.int p4), .val (.int (1 : Int32)), .val (.ref b84), .val (.ref b90), .val (.ref r98), .val (.ref b106), .val (.ref r130), .unset, .unset]) rfl k) ?_
    show Wp p e below _ (T130.setTop (mkF m 112 #[.val (.int p0), .val (.long q1), .second, .val (.int p3), .val (.int p4), .val (.int (1 : Int32)), .val (.ref b84), .val (.ref b90), .val (.ref r98), .val (.ref b106), .val (.ref r130), .unset, .unset] []))
    refine Wp.step (fun t k => XS.iload X130.here hx rfl (hb hby at_112) rfl k) ?_
    show Wp p e below _ (T130.setTop (mkF m 114 #[.val (.int p0), .val (.long q1), .second, .val (.int p3), .val (.int p4), .val (.int (1 : Int32)), .val (.ref b84), .val (.ref b90), .val (.ref r98), .val (.ref b106), .val (.ref r130), .unset, .unset] [(.int (1 : Int32))]))
    refine Wp.step (fun t k => XS.ifNo X130.here hx rfl (hb hby at_114) rfl ((if0 _ _).trans (feq (show ¬ ((1 : Int32) = (0 : Int32)) by decide)).1) k) ?_
    show Wp p e below _ (T130.setTop (mkF m 117 #[.val (.int p0), .val (.long q1), .second, .val (.int p3), .val (.int p4), .val (.int (1 : Int32)), .val (.ref b84), .val (.ref b90), .val (.ref r98), .val (.ref b106), .val (.ref r130), .unset, .unset] []))
    refine Wp.step (fun t k => XS.sipush X130.here hx rfl (hb hby at_117) k) ?_
    show Wp p e below _ (T130.setTop (mkF m 120 #[.val (.int p0), .val (.long q1), .second, .val (.int p3), .val (.int p4), .val (.int (1 : Int32)), .val (.ref b84), .val (.ref b90), .val (.ref r98), .val (.ref b106), .val (.ref r130), .unset, .unset] [(.int (317 : Int32))]))
    refine Wp.step (fun t k => XS.goto X130.here hx rfl (pc0 := 120) (pc' := 125) rfl (hb hby at_120) (by decide) (by decide) k) ?_
    show Wp p e below _ (T130.setTop (mkF m 125 #[.val (.int p0), .val (.long q1), .second, .val (.int p3), .val (.int p4), .val (.int (1 : Int32)), .val (.ref b84), .val (.ref b90), .val (.ref r98), .val (.ref b106), .val (.ref r130), .unset, .unset] [(.int (317 : Int32))]))
    refine Wp.step (fun t k => XS.istore X130.here hx rfl (hb hby at_125) rfl (l' := #[.val (.int p0), .val (.long q1), .second, .val (.int p3), .val (.int p4), .val (.int (1 : Int32)), .val (.ref b84), .val (.ref b90), .val (.ref r98), .val (.ref b106), .val (.ref r130), .val (.int (317 : Int32)), .unset]) rfl k) ?_
    show Wp p e below _ (T130.setTop (mkF m 127 #[.val (.int p0), .val (.long q1), .second, .val (.int p3), .val (.int p4), .val (.int (1 : Int32)), .val (.ref b84), .val (.ref b90), .val (.ref r98), .val (.ref b106), .val (.ref r130), .val (.int (317 : Int32)), .unset] []))
    refine Wp.step (fun t k => XS.aload X130.here hx rfl (hb hby at_127) rfl rfl k) ?_
    show Wp p e below _ (T130.setTop (mkF m 129 #[.val (.int p0), .val (.long q1), .second, .val (.int p3), .val (.int p4), .val (.int (1 : Int32)), .val (.ref b84), .val (.ref b90), .val (.ref r98), .val (.ref b106), .val (.ref r130), .val (.int (317 : Int32)), .unset] [(.ref r130)]))
    obtain ⟨cl137, Ar137, Sz137, Nn137, -⟩ := id B_r130
    refine Wp.step (X130.arraylength hx (by rw [e130]; exact Ar137.1) (State.isArrayOf_alike hZ.alike Ar137.2.1) (g := (mkF m 129 #[.val (.int p0), .val (.long q1), .second, .val (.int p3), .val (.int p4), .val (.int (1 : Int32)), .val (.ref b84), .val (.ref b90), .val (.ref r98), .val (.ref b106), .val (.ref r130), .val (.int (317 : Int32)), .unset] [(.ref r130)])) rfl rfl (hb hby at_129)) ?_
    rw [len_of Sz137 Nn137]
    show Wp p e below _ (T130.setTop (mkF m 130 #[.val (.int p0), .val (.long q1), .second, .val (.int p3), .val (.int p4), .val (.int (1 : Int32)), .val (.ref b84), .val (.ref b90), .val (.ref r98), .val (.ref b106), .val (.ref r130), .val (.int (317 : Int32)), .unset] [(.int (317 : Int32))]))
    refine Wp.step (fun t k => XS.iload X130.here hx rfl (hb hby at_130) rfl k) ?_
    show Wp p e below _ (T130.setTop (mkF m 132 #[.val (.int p0), .val (.long q1), .second, .val (.int p3), .val (.int p4), .val (.int (1 : Int32)), .val (.ref b84), .val (.ref b90), .val (.ref r98), .val (.ref b106), .val (.ref r130), .val (.int (317 : Int32)), .unset] [(.int (317 : Int32)), (.int (317 : Int32))]))
    refine Wp.step (fun t k => XS.icmpNo X130.here hx rfl (hb hby at_132) rfl (teq (show (317 : Int32) = (317 : Int32) by decide)).2 k) ?_
    show Wp p e below _ (T130.setTop (mkF m 135 #[.val (.int p0), .val (.long q1), .second, .val (.int p3), .val (.int p4), .val (.int (1 : Int32)), .val (.ref b84), .val (.ref b90), .val (.ref r98), .val (.ref b106), .val (.ref r130), .val (.int (317 : Int32)), .unset] []))
    refine Wp.step (fun t k => XS.aload X130.here hx rfl (hb hby at_135) rfl rfl k) ?_
    show Wp p e below _ (T130.setTop (mkF m 137 #[.val (.int p0), .val (.long q1), .second, .val (.int p3), .val (.int p4), .val (.int (1 : Int32)), .val (.ref b84), .val (.ref b90), .val (.ref r98), .val (.ref b106), .val (.ref r130), .val (.int (317 : Int32)), .unset] [(.ref b106)]))
    obtain ⟨cq139, kq139, q139a, q139b, q139c⟩ := isOf hZ e130 c132
    obtain ⟨_, _, ⟨T139, L139, k139, n139⟩, -, X139, ⟨Lc139, hQ139, l139, y139, z139⟩, st139⟩ := X130.virtualBack hx (y := (⟨"com/example/ulinzi/ulinzi/protocol/ProtocolWriter", "size", "()I"⟩ : MethodName)) (z := (⟨"com/example/ulinzi/ulinzi/protocol/ProtocolWriter", "size", "()I"⟩ : MethodName)) hown (mvT hZ (hw _ (List.mem_of_getElem? (i := 51) rfl))) (mvT hZ (hw _ (List.mem_of_getElem? (i := 52) rfl))) (notFace_of_selects (args := #[]) (mvT hZ (hw _ (List.mem_of_getElem? (i := 54) rfl)))) (mvT hZ (hw _ (List.mem_of_getElem? (i := 54) rfl))) (mvT hZ (hw _ (List.mem_of_getElem? (i := 53) rfl))) (by decide) (backOf (W := 0) (rm10 l Z a0 hw [] b106 (317 : Int32) h130 n0 (Nat.le_trans Z0 K130.1) c134) hZ (hw _ (List.mem_of_getElem? (i := 55) rfl)) (hw _ (List.mem_of_getElem? (i := 3) rfl)) (by decide) (by decide)) q139a q139c (g := (mkF m 137 #[.val (.int p0), .val (.long q1), .second, .val (.int p3), .val (.int p4), .val (.int (1 : Int32)), .val (.ref b84), .val (.ref b90), .val (.ref r98), .val (.ref b106), .val (.ref r130), .val (.int (317 : Int32)), .unset] [(.ref b106)])) rfl (by rw [hml]; rfl) (Steps.refl _) (argsL := []) (rest := []) (lenOf pd_2829I rfl) rfl (by show 2 * 0 + _ ≤ _; exact Nat.le_of_eq rfl) (hb hby at_137) (fun _ _ => ⟨rfl, e130, (by decide : 8 + 0 ≤ _), (by decide : 2352 + 0 ≤ _)⟩)
    dsimp only [Pt.U, Pt.locs, Pt.cells, Pt.slots] at X139 l139 y139 z139 st139 hQ139
    subst l139 y139 z139
    obtain ⟨rfl, N139q, e139⟩ := hQ139
    have N139 := Fr.app N130 N139q
    refine Wp.go st139 ?_
    show Wp p e below _ (T139.setTop (mkF m 140 #[.val (.int p0), .val (.long q1), .second, .val (.int p3), .val (.int p4), .val (.int (1 : Int32)), .val (.ref b84), .val (.ref b90), .val (.ref r98), .val (.ref b106), .val (.ref r130), .val (.int (317 : Int32)), .unset] [(.int (317 : Int32))]))
    refine Wp.step (fun t k => XS.iload X139.here hx rfl (hb hby at_140) rfl k) ?_
    show Wp p e below _ (T139.setTop (mkF m 142 #[.val (.int p0), .val (.long q1), .second, .val (.int p3), .val (.int p4), .val (.int (1 : Int32)), .val (.ref b84), .val (.ref b90), .val (.ref r98), .val (.ref b106), .val (.ref r130), .val (.int (317 : Int32)), .unset] [(.int (317 : Int32)), (.int (317 : Int32))]))
    refine Wp.step (fun t k => XS.icmpYes X139.here hx rfl (pc0 := 142) (pc' := 147) rfl (hb hby at_142) rfl (teq (show (317 : Int32) = (317 : Int32) by decide)).1 (by decide) (by decide) k) ?_
    show Wp p e below _ (T139.setTop (mkF m 147 #[.val (.int p0), .val (.long q1), .second, .val (.int p3), .val (.int p4), .val (.int (1 : Int32)), .val (.ref b84), .val (.ref b90), .val (.ref r98), .val (.ref b106), .val (.ref r130), .val (.int (317 : Int32)), .unset] []))
    refine Wp.step (fun t k => XS.aload X139.here hx rfl (hb hby at_147) rfl rfl k) ?_
    show Wp p e below _ (T139.setTop (mkF m 149 #[.val (.int p0), .val (.long q1), .second, .val (.int p3), .val (.int p4), .val (.int (1 : Int32)), .val (.ref b84), .val (.ref b90), .val (.ref r98), .val (.ref b106), .val (.ref r130), .val (.int (317 : Int32)), .unset] [(.ref r130)]))
    refine Wp.step (fun t k => XS.iconst X139.here hx rfl (hb hby at_149) k) ?_
    show Wp p e below _ (T139.setTop (mkF m 150 #[.val (.int p0), .val (.long q1), .second, .val (.int p3), .val (.int p4), .val (.int (1 : Int32)), .val (.ref b84), .val (.ref b90), .val (.ref r98), .val (.ref b106), .val (.ref r130), .val (.int (317 : Int32)), .unset] [(.int (0 : Int32)), (.ref r130)]))
    refine Wp.step (fun t k => XS.iloadN X139.here hx rfl (hb hby at_150) rfl k) ?_
    show Wp p e below _ (T139.setTop (mkF m 151 #[.val (.int p0), .val (.long q1), .second, .val (.int p3), .val (.int p4), .val (.int (1 : Int32)), .val (.ref b84), .val (.ref b90), .val (.ref r98), .val (.ref b106), .val (.ref r130), .val (.int (317 : Int32)), .unset] [(.int p0), (.int (0 : Int32)), (.ref r130)]))
    obtain ⟨_, _, ⟨T141, L141, k141, n141⟩, -, X141, ⟨Lc141, hQ141, l141, y141, z141⟩, st141⟩ := Jvm.LawKit.callS X139 hx (y := (⟨"com/example/ulinzi/ulinzi/protocol/ProtocolWriterToByteArrayPinLaw", "int32At", "([BII)Z"⟩ : MethodName)) hown (mvT hZ (hw _ (List.mem_of_getElem? (i := 56) rfl))) (mvT hZ (hw _ (List.mem_of_getElem? (i := 57) rfl))) (mvT hZ (hw _ (List.mem_of_getElem? (i := 58) rfl))) (mvT hZ (hw _ (List.mem_of_getElem? (i := 59) rfl))) (by decide) (backOf (W := 0) (rm11 l Z a0 hw [] r130 (0 : Int32) p0 (317 : Int32) (own_copy (own_w1 (own_copy (own_upd (own_upd (fun _ => (0 : Int32)) ((0 : Int32)).toNatClampNeg (p3.toInt8.toInt32)) ((299 : Int32)).toNatClampNeg ((p3 >>> ((8 : Int32) &&& 31)).toInt8.toInt32)) (own_copy (own_w4 (own_w4 (own_w4 (own_w4 (fun _ => (0 : Int32)) (0 : Int32) p0) (4 : Int32) (q1 >>> ((32 : Int32) &&& 0x3f).toInt64).toInt32) (8 : Int32) q1.toInt32) (12 : Int32) (300 : Int32)) (fun _ => (0 : Int32)) (0 : Int32).toNatClampNeg (0 : Int32).toNatClampNeg (own_min (256 : Int32) (512 : Int32)).toNatClampNeg) (0 : Int32).toNatClampNeg (16 : Int32).toNatClampNeg (300 : Int32).toNatClampNeg) (316 : Int32) p3) (fun _ => (0 : Int32)) (0 : Int32).toNatClampNeg (0 : Int32).toNatClampNeg (own_min (512 : Int32) (317 : Int32)).toNatClampNeg) h130 n0 (Nat.le_trans Z0 K130.1) B_r130 ⟨by decide, by decide⟩ ⟨by decide, by decide⟩ ⟨by decide, by decide⟩ ⟨by decide, by decide⟩ ((show (own_copy (own_w1 (own_copy (own_upd (own_upd (fun _ => (0 : Int32)) ((0 : Int32)).toNatClampNeg (p3.toInt8.toInt32)) ((299 : Int32)).toNatClampNeg ((p3 >>> ((8 : Int32) &&& 31)).toInt8.toInt32)) (own_copy (own_w4 (own_w4 (own_w4 (own_w4 (fun _ => (0 : Int32)) (0 : Int32) p0) (4 : Int32) (q1 >>> ((32 : Int32) &&& 0x3f).toInt64).toInt32) (8 : Int32) q1.toInt32) (12 : Int32) (300 : Int32)) (fun _ => (0 : Int32)) (0 : Int32).toNatClampNeg (0 : Int32).toNatClampNeg (own_min (256 : Int32) (512 : Int32)).toNatClampNeg) (0 : Int32).toNatClampNeg (16 : Int32).toNatClampNeg (300 : Int32).toNatClampNeg) (316 : Int32) p3) (fun _ => (0 : Int32)) (0 : Int32).toNatClampNeg (0 : Int32).toNatClampNeg (own_min (512 : Int32) (317 : Int32)).toNatClampNeg) ((0 : Int32)).toNatClampNeg = ((p0 >>> ((24 : Int32) &&& 31)).toInt8.toInt32) from rfl).trans (own_sh _ 24 24 (by decide) (by decide) (by decide))) ((show (own_copy (own_w1 (own_copy (own_upd (own_upd (fun _ => (0 : Int32)) ((0 : Int32)).toNatClampNeg (p3.toInt8.toInt32)) ((299 : Int32)).toNatClampNeg ((p3 >>> ((8 : Int32) &&& 31)).toInt8.toInt32)) (own_copy (own_w4 (own_w4 (own_w4 (own_w4 (fun _ => (0 : Int32)) (0 : Int32) p0) (4 : Int32) (q1 >>> ((32 : Int32) &&& 0x3f).toInt64).toInt32) (8 : Int32) q1.toInt32) (12 : Int32) (300 : Int32)) (fun _ => (0 : Int32)) (0 : Int32).toNatClampNeg (0 : Int32).toNatClampNeg (own_min (256 : Int32) (512 : Int32)).toNatClampNeg) (0 : Int32).toNatClampNeg (16 : Int32).toNatClampNeg (300 : Int32).toNatClampNeg) (316 : Int32) p3) (fun _ => (0 : Int32)) (0 : Int32).toNatClampNeg (0 : Int32).toNatClampNeg (own_min (512 : Int32) (317 : Int32)).toNatClampNeg) (((0 : Int32) + (1 : Int32))).toNatClampNeg = ((p0 >>> ((16 : Int32) &&& 31)).toInt8.toInt32) from rfl).trans (own_sh _ 16 16 (by decide) (by decide) (by decide))) ((show (own_copy (own_w1 (own_copy (own_upd (own_upd (fun _ => (0 : Int32)) ((0 : Int32)).toNatClampNeg (p3.toInt8.toInt32)) ((299 : Int32)).toNatClampNeg ((p3 >>> ((8 : Int32) &&& 31)).toInt8.toInt32)) (own_copy (own_w4 (own_w4 (own_w4 (own_w4 (fun _ => (0 : Int32)) (0 : Int32) p0) (4 : Int32) (q1 >>> ((32 : Int32) &&& 0x3f).toInt64).toInt32) (8 : Int32) q1.toInt32) (12 : Int32) (300 : Int32)) (fun _ => (0 : Int32)) (0 : Int32).toNatClampNeg (0 : Int32).toNatClampNeg (own_min (256 : Int32) (512 : Int32)).toNatClampNeg) (0 : Int32).toNatClampNeg (16 : Int32).toNatClampNeg (300 : Int32).toNatClampNeg) (316 : Int32) p3) (fun _ => (0 : Int32)) (0 : Int32).toNatClampNeg (0 : Int32).toNatClampNeg (own_min (512 : Int32) (317 : Int32)).toNatClampNeg) (((0 : Int32) + (2 : Int32))).toNatClampNeg = ((p0 >>> ((8 : Int32) &&& 31)).toInt8.toInt32) from rfl).trans (own_sh _ 8 8 (by decide) (by decide) (by decide))) ((show (own_copy (own_w1 (own_copy (own_upd (own_upd (fun _ => (0 : Int32)) ((0 : Int32)).toNatClampNeg (p3.toInt8.toInt32)) ((299 : Int32)).toNatClampNeg ((p3 >>> ((8 : Int32) &&& 31)).toInt8.toInt32)) (own_copy (own_w4 (own_w4 (own_w4 (own_w4 (fun _ => (0 : Int32)) (0 : Int32) p0) (4 : Int32) (q1 >>> ((32 : Int32) &&& 0x3f).toInt64).toInt32) (8 : Int32) q1.toInt32) (12 : Int32) (300 : Int32)) (fun _ => (0 : Int32)) (0 : Int32).toNatClampNeg (0 : Int32).toNatClampNeg (own_min (256 : Int32) (512 : Int32)).toNatClampNeg) (0 : Int32).toNatClampNeg (16 : Int32).toNatClampNeg (300 : Int32).toNatClampNeg) (316 : Int32) p3) (fun _ => (0 : Int32)) (0 : Int32).toNatClampNeg (0 : Int32).toNatClampNeg (own_min (512 : Int32) (317 : Int32)).toNatClampNeg) (((0 : Int32) + (3 : Int32))).toNatClampNeg = (p0.toInt8.toInt32) from rfl).trans rfl)) hZ (hw _ (List.mem_of_getElem? (i := 59) rfl)) (hw _ (List.mem_of_getElem? (i := 58) rfl)) (by decide) (by decide)) (g := (mkF m 151 #[.val (.int p0), .val (.long q1), .second, .val (.int p3), .val (.int p4), .val (.int (1 : Int32)), .val (.ref b84), .val (.ref b90), .val (.ref r98), .val (.ref b106), .val (.ref r130), .val (.int (317 : Int32)), .unset] [(.int p0), (.int (0 : Int32)), (.ref r130)])) rfl (by rw [hml]; rfl) (argsL := [(.ref r130), (.int (0 : Int32)), (.int p0)]) (rest := []) (lenOf pd_285bBII29Z rfl) rfl (by show 2 * 0 + _ ≤ _; exact Nat.le_of_eq rfl) (hb hby at_151) (fun _ _ => ⟨rfl, e139, (by decide : 8 + 0 ≤ _), (by decide : 2352 + 0 ≤ _)⟩)
    dsimp only [Pt.U, Pt.locs, Pt.cells, Pt.slots] at X141 l141 y141 z141 st141 hQ141
    subst l141 y141 z141
    obtain ⟨rfl, N141q, e141⟩ := hQ141
    have N141 := Fr.app N139 N141q
    refine Wp.step st141 ?_
    show Wp p e below _ (T141.setTop (mkF m 154 #[.val (.int p0), .val (.long q1), .second, .val (.int p3), .val (.int p4), .val (.int (1 : Int32)), .val (.ref b84), .val (.ref b90), .val (.ref r98), .val (.ref b106), .val (.ref r130), .val (.int (317 : Int32)), .unset] [(.int (1 : Int32))]))
    refine Wp.step (fun t k => XS.ifYes X141.here hx rfl (pc0 := 154) (pc' := 159) rfl (hb hby at_154) rfl ((if0 _ _).trans (feq (show ¬ ((1 : Int32) = (0 : Int32)) by decide)).2) (by decide) (by decide) k) ?_
    show Wp p e below _ (T141.setTop (mkF m 159 #[.val (.int p0), .val (.long q1), .second, .val (.int p3), .val (.int p4), .val (.int (1 : Int32)), .val (.ref b84), .val (.ref b90), .val (.ref r98), .val (.ref b106), .val (.ref r130), .val (.int (317 : Int32)), .unset] []))
    refine Wp.step (fun t k => XS.aload X141.here hx rfl (hb hby at_159) rfl rfl k) ?_
    show Wp p e below _ (T141.setTop (mkF m 161 #[.val (.int p0), .val (.long q1), .second, .val (.int p3), .val (.int p4), .val (.int (1 : Int32)), .val (.ref b84), .val (.ref b90), .val (.ref r98), .val (.ref b106), .val (.ref r130), .val (.int (317 : Int32)), .unset] [(.ref r130)]))
    refine Wp.step (fun t k => XS.iconst X141.here hx rfl (hb hby at_161) k) ?_
    show Wp p e below _ (T141.setTop (mkF m 162 #[.val (.int p0), .val (.long q1), .second, .val (.int p3), .val (.int p4), .val (.int (1 : Int32)), .val (.ref b84), .val (.ref b90), .val (.ref r98), .val (.ref b106), .val (.ref r130), .val (.int (317 : Int32)), .unset] [(.int (4 : Int32)), (.ref r130)]))
    refine Wp.step (fun t k => XS.lloadN X141.here hx rfl (hb hby at_162) rfl k) ?_
    show Wp p e below _ (T141.setTop (mkF m 163 #[.val (.int p0), .val (.long q1), .second, .val (.int p3), .val (.int p4), .val (.int (1 : Int32)), .val (.ref b84), .val (.ref b90), .val (.ref r98), .val (.ref b106), .val (.ref r130), .val (.int (317 : Int32)), .unset] [(.long q1), (.int (4 : Int32)), (.ref r130)]))
    refine Wp.step (fun t k => XS.bipush X141.here hx rfl (hb hby at_163) k) ?_
    show Wp p e below _ (T141.setTop (mkF m 165 #[.val (.int p0), .val (.long q1), .second, .val (.int p3), .val (.int p4), .val (.int (1 : Int32)), .val (.ref b84), .val (.ref b90), .val (.ref r98), .val (.ref b106), .val (.ref r130), .val (.int (317 : Int32)), .unset] [(.int (32 : Int32)), (.long q1), (.int (4 : Int32)), (.ref r130)]))
    refine Wp.step (fun t k => XS.lushr X141.here hx rfl (hb hby at_165) rfl k) ?_
    show Wp p e below _ (T141.setTop (mkF m 166 #[.val (.int p0), .val (.long q1), .second, .val (.int p3), .val (.int p4), .val (.int (1 : Int32)), .val (.ref b84), .val (.ref b90), .val (.ref r98), .val (.ref b106), .val (.ref r130), .val (.int (317 : Int32)), .unset] [(.long ((q1.toUInt64 >>> ((32 : Int32) &&& 0x3f).toInt64.toUInt64).toInt64)), (.int (4 : Int32)), (.ref r130)]))
    refine Wp.step (fun t k => XS.l2i X141.here hx rfl (hb hby at_166) rfl k) ?_
    show Wp p e below _ (T141.setTop (mkF m 167 #[.val (.int p0), .val (.long q1), .second, .val (.int p3), .val (.int p4), .val (.int (1 : Int32)), .val (.ref b84), .val (.ref b90), .val (.ref r98), .val (.ref b106), .val (.ref r130), .val (.int (317 : Int32)), .unset] [(.int (((q1.toUInt64 >>> ((32 : Int32) &&& 0x3f).toInt64.toUInt64).toInt64).toInt32)), (.int (4 : Int32)), (.ref r130)]))
    obtain ⟨_, _, ⟨T143, L143, k143, n143⟩, -, X143, ⟨Lc143, hQ143, l143, y143, z143⟩, st143⟩ := Jvm.LawKit.callS X141 hx (y := (⟨"com/example/ulinzi/ulinzi/protocol/ProtocolWriterToByteArrayPinLaw", "int32At", "([BII)Z"⟩ : MethodName)) hown (mvT hZ (hw _ (List.mem_of_getElem? (i := 56) rfl))) (mvT hZ (hw _ (List.mem_of_getElem? (i := 57) rfl))) (mvT hZ (hw _ (List.mem_of_getElem? (i := 58) rfl))) (mvT hZ (hw _ (List.mem_of_getElem? (i := 59) rfl))) (by decide) (backOf (W := 0) (rm11 l Z a0 hw [] r130 (4 : Int32) (((q1.toUInt64 >>> ((32 : Int32) &&& 0x3f).toInt64.toUInt64).toInt64).toInt32) (317 : Int32) (own_copy (own_w1 (own_copy (own_upd (own_upd (fun _ => (0 : Int32)) ((0 : Int32)).toNatClampNeg (p3.toInt8.toInt32)) ((299 : Int32)).toNatClampNeg ((p3 >>> ((8 : Int32) &&& 31)).toInt8.toInt32)) (own_copy (own_w4 (own_w4 (own_w4 (own_w4 (fun _ => (0 : Int32)) (0 : Int32) p0) (4 : Int32) (q1 >>> ((32 : Int32) &&& 0x3f).toInt64).toInt32) (8 : Int32) q1.toInt32) (12 : Int32) (300 : Int32)) (fun _ => (0 : Int32)) (0 : Int32).toNatClampNeg (0 : Int32).toNatClampNeg (own_min (256 : Int32) (512 : Int32)).toNatClampNeg) (0 : Int32).toNatClampNeg (16 : Int32).toNatClampNeg (300 : Int32).toNatClampNeg) (316 : Int32) p3) (fun _ => (0 : Int32)) (0 : Int32).toNatClampNeg (0 : Int32).toNatClampNeg (own_min (512 : Int32) (317 : Int32)).toNatClampNeg) h130 n0 (Nat.le_trans Z0 K130.1) B_r130 ⟨by decide, by decide⟩ ⟨by decide, by decide⟩ ⟨by decide, by decide⟩ ⟨by decide, by decide⟩ ((show (own_copy (own_w1 (own_copy (own_upd (own_upd (fun _ => (0 : Int32)) ((0 : Int32)).toNatClampNeg (p3.toInt8.toInt32)) ((299 : Int32)).toNatClampNeg ((p3 >>> ((8 : Int32) &&& 31)).toInt8.toInt32)) (own_copy (own_w4 (own_w4 (own_w4 (own_w4 (fun _ => (0 : Int32)) (0 : Int32) p0) (4 : Int32) (q1 >>> ((32 : Int32) &&& 0x3f).toInt64).toInt32) (8 : Int32) q1.toInt32) (12 : Int32) (300 : Int32)) (fun _ => (0 : Int32)) (0 : Int32).toNatClampNeg (0 : Int32).toNatClampNeg (own_min (256 : Int32) (512 : Int32)).toNatClampNeg) (0 : Int32).toNatClampNeg (16 : Int32).toNatClampNeg (300 : Int32).toNatClampNeg) (316 : Int32) p3) (fun _ => (0 : Int32)) (0 : Int32).toNatClampNeg (0 : Int32).toNatClampNeg (own_min (512 : Int32) (317 : Int32)).toNatClampNeg) ((4 : Int32)).toNatClampNeg = (((q1 >>> ((32 : Int32) &&& 0x3f).toInt64).toInt32 >>> ((24 : Int32) &&& 31)).toInt8.toInt32) from rfl).trans (by rw [own_hi]; exact own_sh _ 24 24 (by decide) (by decide) (by decide))) ((show (own_copy (own_w1 (own_copy (own_upd (own_upd (fun _ => (0 : Int32)) ((0 : Int32)).toNatClampNeg (p3.toInt8.toInt32)) ((299 : Int32)).toNatClampNeg ((p3 >>> ((8 : Int32) &&& 31)).toInt8.toInt32)) (own_copy (own_w4 (own_w4 (own_w4 (own_w4 (fun _ => (0 : Int32)) (0 : Int32) p0) (4 : Int32) (q1 >>> ((32 : Int32) &&& 0x3f).toInt64).toInt32) (8 : Int32) q1.toInt32) (12 : Int32) (300 : Int32)) (fun _ => (0 : Int32)) (0 : Int32).toNatClampNeg (0 : Int32).toNatClampNeg (own_min (256 : Int32) (512 : Int32)).toNatClampNeg) (0 : Int32).toNatClampNeg (16 : Int32).toNatClampNeg (300 : Int32).toNatClampNeg) (316 : Int32) p3) (fun _ => (0 : Int32)) (0 : Int32).toNatClampNeg (0 : Int32).toNatClampNeg (own_min (512 : Int32) (317 : Int32)).toNatClampNeg) (((4 : Int32) + (1 : Int32))).toNatClampNeg = (((q1 >>> ((32 : Int32) &&& 0x3f).toInt64).toInt32 >>> ((16 : Int32) &&& 31)).toInt8.toInt32) from rfl).trans (by rw [own_hi]; exact own_sh _ 16 16 (by decide) (by decide) (by decide))) ((show (own_copy (own_w1 (own_copy (own_upd (own_upd (fun _ => (0 : Int32)) ((0 : Int32)).toNatClampNeg (p3.toInt8.toInt32)) ((299 : Int32)).toNatClampNeg ((p3 >>> ((8 : Int32) &&& 31)).toInt8.toInt32)) (own_copy (own_w4 (own_w4 (own_w4 (own_w4 (fun _ => (0 : Int32)) (0 : Int32) p0) (4 : Int32) (q1 >>> ((32 : Int32) &&& 0x3f).toInt64).toInt32) (8 : Int32) q1.toInt32) (12 : Int32) (300 : Int32)) (fun _ => (0 : Int32)) (0 : Int32).toNatClampNeg (0 : Int32).toNatClampNeg (own_min (256 : Int32) (512 : Int32)).toNatClampNeg) (0 : Int32).toNatClampNeg (16 : Int32).toNatClampNeg (300 : Int32).toNatClampNeg) (316 : Int32) p3) (fun _ => (0 : Int32)) (0 : Int32).toNatClampNeg (0 : Int32).toNatClampNeg (own_min (512 : Int32) (317 : Int32)).toNatClampNeg) (((4 : Int32) + (2 : Int32))).toNatClampNeg = (((q1 >>> ((32 : Int32) &&& 0x3f).toInt64).toInt32 >>> ((8 : Int32) &&& 31)).toInt8.toInt32) from rfl).trans (by rw [own_hi]; exact own_sh _ 8 8 (by decide) (by decide) (by decide))) ((show (own_copy (own_w1 (own_copy (own_upd (own_upd (fun _ => (0 : Int32)) ((0 : Int32)).toNatClampNeg (p3.toInt8.toInt32)) ((299 : Int32)).toNatClampNeg ((p3 >>> ((8 : Int32) &&& 31)).toInt8.toInt32)) (own_copy (own_w4 (own_w4 (own_w4 (own_w4 (fun _ => (0 : Int32)) (0 : Int32) p0) (4 : Int32) (q1 >>> ((32 : Int32) &&& 0x3f).toInt64).toInt32) (8 : Int32) q1.toInt32) (12 : Int32) (300 : Int32)) (fun _ => (0 : Int32)) (0 : Int32).toNatClampNeg (0 : Int32).toNatClampNeg (own_min (256 : Int32) (512 : Int32)).toNatClampNeg) (0 : Int32).toNatClampNeg (16 : Int32).toNatClampNeg (300 : Int32).toNatClampNeg) (316 : Int32) p3) (fun _ => (0 : Int32)) (0 : Int32).toNatClampNeg (0 : Int32).toNatClampNeg (own_min (512 : Int32) (317 : Int32)).toNatClampNeg) (((4 : Int32) + (3 : Int32))).toNatClampNeg = ((q1 >>> ((32 : Int32) &&& 0x3f).toInt64).toInt32.toInt8.toInt32) from rfl).trans (by rw [own_hi]))) hZ (hw _ (List.mem_of_getElem? (i := 59) rfl)) (hw _ (List.mem_of_getElem? (i := 58) rfl)) (by decide) (by decide)) (g := (mkF m 167 #[.val (.int p0), .val (.long q1), .second, .val (.int p3), .val (.int p4), .val (.int (1 : Int32)), .val (.ref b84), .val (.ref b90), .val (.ref r98), .val (.ref b106), .val (.ref r130), .val (.int (317 : Int32)), .unset] [(.int (((q1.toUInt64 >>> ((32 : Int32) &&& 0x3f).toInt64.toUInt64).toInt64).toInt32)), (.int (4 : Int32)), (.ref r130)])) rfl (by rw [hml]; rfl) (argsL := [(.ref r130), (.int (4 : Int32)), (.int (((q1.toUInt64 >>> ((32 : Int32) &&& 0x3f).toInt64.toUInt64).toInt64).toInt32))]) (rest := []) (lenOf pd_285bBII29Z rfl) rfl (by show 2 * 0 + _ ≤ _; exact Nat.le_of_eq rfl) (hb hby at_167) (fun _ _ => ⟨rfl, e141, (by decide : 8 + 0 ≤ _), (by decide : 2352 + 0 ≤ _)⟩)
    dsimp only [Pt.U, Pt.locs, Pt.cells, Pt.slots] at X143 l143 y143 z143 st143 hQ143
    subst l143 y143 z143
    obtain ⟨rfl, N143q, e143⟩ := hQ143
    have N143 := Fr.app N141 N143q
    refine Wp.step st143 ?_
    show Wp p e below _ (T143.setTop (mkF m 170 #[.val (.int p0), .val (.long q1), .second, .val (.int p3), .val (.int p4), .val (.int (1 : Int32)), .val (.ref b84), .val (.ref b90), .val (.ref r98), .val (.ref b106), .val (.ref r130), .val (.int (317 : Int32)), .unset] [(.int (1 : Int32))]))
    refine Wp.step (fun t k => XS.ifYes X143.here hx rfl (pc0 := 170) (pc' := 175) rfl (hb hby at_170) rfl ((if0 _ _).trans (feq (show ¬ ((1 : Int32) = (0 : Int32)) by decide)).2) (by decide) (by decide) k) ?_
    show Wp p e below _ (T143.setTop (mkF m 175 #[.val (.int p0), .val (.long q1), .second, .val (.int p3), .val (.int p4), .val (.int (1 : Int32)), .val (.ref b84), .val (.ref b90), .val (.ref r98), .val (.ref b106), .val (.ref r130), .val (.int (317 : Int32)), .unset] []))
    refine Wp.step (fun t k => XS.aload X143.here hx rfl (hb hby at_175) rfl rfl k) ?_
    show Wp p e below _ (T143.setTop (mkF m 177 #[.val (.int p0), .val (.long q1), .second, .val (.int p3), .val (.int p4), .val (.int (1 : Int32)), .val (.ref b84), .val (.ref b90), .val (.ref r98), .val (.ref b106), .val (.ref r130), .val (.int (317 : Int32)), .unset] [(.ref r130)]))
    refine Wp.step (fun t k => XS.bipush X143.here hx rfl (hb hby at_177) k) ?_
    show Wp p e below _ (T143.setTop (mkF m 179 #[.val (.int p0), .val (.long q1), .second, .val (.int p3), .val (.int p4), .val (.int (1 : Int32)), .val (.ref b84), .val (.ref b90), .val (.ref r98), .val (.ref b106), .val (.ref r130), .val (.int (317 : Int32)), .unset] [(.int (8 : Int32)), (.ref r130)]))
    refine Wp.step (fun t k => XS.lloadN X143.here hx rfl (hb hby at_179) rfl k) ?_
    show Wp p e below _ (T143.setTop (mkF m 180 #[.val (.int p0), .val (.long q1), .second, .val (.int p3), .val (.int p4), .val (.int (1 : Int32)), .val (.ref b84), .val (.ref b90), .val (.ref r98), .val (.ref b106), .val (.ref r130), .val (.int (317 : Int32)), .unset] [(.long q1), (.int (8 : Int32)), (.ref r130)]))
    refine Wp.step (fun t k => XS.l2i X143.here hx rfl (hb hby at_180) rfl k) ?_
    show Wp p e below _ (T143.setTop (mkF m 181 #[.val (.int p0), .val (.long q1), .second, .val (.int p3), .val (.int p4), .val (.int (1 : Int32)), .val (.ref b84), .val (.ref b90), .val (.ref r98), .val (.ref b106), .val (.ref r130), .val (.int (317 : Int32)), .unset] [(.int (q1.toInt32)), (.int (8 : Int32)), (.ref r130)]))
    obtain ⟨_, _, ⟨T145, L145, k145, n145⟩, -, X145, ⟨Lc145, hQ145, l145, y145, z145⟩, st145⟩ := Jvm.LawKit.callS X143 hx (y := (⟨"com/example/ulinzi/ulinzi/protocol/ProtocolWriterToByteArrayPinLaw", "int32At", "([BII)Z"⟩ : MethodName)) hown (mvT hZ (hw _ (List.mem_of_getElem? (i := 56) rfl))) (mvT hZ (hw _ (List.mem_of_getElem? (i := 57) rfl))) (mvT hZ (hw _ (List.mem_of_getElem? (i := 58) rfl))) (mvT hZ (hw _ (List.mem_of_getElem? (i := 59) rfl))) (by decide) (backOf (W := 0) (rm11 l Z a0 hw [] r130 (8 : Int32) (q1.toInt32) (317 : Int32) (own_copy (own_w1 (own_copy (own_upd (own_upd (fun _ => (0 : Int32)) ((0 : Int32)).toNatClampNeg (p3.toInt8.toInt32)) ((299 : Int32)).toNatClampNeg ((p3 >>> ((8 : Int32) &&& 31)).toInt8.toInt32)) (own_copy (own_w4 (own_w4 (own_w4 (own_w4 (fun _ => (0 : Int32)) (0 : Int32) p0) (4 : Int32) (q1 >>> ((32 : Int32) &&& 0x3f).toInt64).toInt32) (8 : Int32) q1.toInt32) (12 : Int32) (300 : Int32)) (fun _ => (0 : Int32)) (0 : Int32).toNatClampNeg (0 : Int32).toNatClampNeg (own_min (256 : Int32) (512 : Int32)).toNatClampNeg) (0 : Int32).toNatClampNeg (16 : Int32).toNatClampNeg (300 : Int32).toNatClampNeg) (316 : Int32) p3) (fun _ => (0 : Int32)) (0 : Int32).toNatClampNeg (0 : Int32).toNatClampNeg (own_min (512 : Int32) (317 : Int32)).toNatClampNeg) h130 n0 (Nat.le_trans Z0 K130.1) B_r130 ⟨by decide, by decide⟩ ⟨by decide, by decide⟩ ⟨by decide, by decide⟩ ⟨by decide, by decide⟩ ((show (own_copy (own_w1 (own_copy (own_upd (own_upd (fun _ => (0 : Int32)) ((0 : Int32)).toNatClampNeg (p3.toInt8.toInt32)) ((299 : Int32)).toNatClampNeg ((p3 >>> ((8 : Int32) &&& 31)).toInt8.toInt32)) (own_copy (own_w4 (own_w4 (own_w4 (own_w4 (fun _ => (0 : Int32)) (0 : Int32) p0) (4 : Int32) (q1 >>> ((32 : Int32) &&& 0x3f).toInt64).toInt32) (8 : Int32) q1.toInt32) (12 : Int32) (300 : Int32)) (fun _ => (0 : Int32)) (0 : Int32).toNatClampNeg (0 : Int32).toNatClampNeg (own_min (256 : Int32) (512 : Int32)).toNatClampNeg) (0 : Int32).toNatClampNeg (16 : Int32).toNatClampNeg (300 : Int32).toNatClampNeg) (316 : Int32) p3) (fun _ => (0 : Int32)) (0 : Int32).toNatClampNeg (0 : Int32).toNatClampNeg (own_min (512 : Int32) (317 : Int32)).toNatClampNeg) ((8 : Int32)).toNatClampNeg = (((q1.toInt32) >>> ((24 : Int32) &&& 31)).toInt8.toInt32) from rfl).trans (own_sh _ 24 24 (by decide) (by decide) (by decide))) ((show (own_copy (own_w1 (own_copy (own_upd (own_upd (fun _ => (0 : Int32)) ((0 : Int32)).toNatClampNeg (p3.toInt8.toInt32)) ((299 : Int32)).toNatClampNeg ((p3 >>> ((8 : Int32) &&& 31)).toInt8.toInt32)) (own_copy (own_w4 (own_w4 (own_w4 (own_w4 (fun _ => (0 : Int32)) (0 : Int32) p0) (4 : Int32) (q1 >>> ((32 : Int32) &&& 0x3f).toInt64).toInt32) (8 : Int32) q1.toInt32) (12 : Int32) (300 : Int32)) (fun _ => (0 : Int32)) (0 : Int32).toNatClampNeg (0 : Int32).toNatClampNeg (own_min (256 : Int32) (512 : Int32)).toNatClampNeg) (0 : Int32).toNatClampNeg (16 : Int32).toNatClampNeg (300 : Int32).toNatClampNeg) (316 : Int32) p3) (fun _ => (0 : Int32)) (0 : Int32).toNatClampNeg (0 : Int32).toNatClampNeg (own_min (512 : Int32) (317 : Int32)).toNatClampNeg) (((8 : Int32) + (1 : Int32))).toNatClampNeg = (((q1.toInt32) >>> ((16 : Int32) &&& 31)).toInt8.toInt32) from rfl).trans (own_sh _ 16 16 (by decide) (by decide) (by decide))) ((show (own_copy (own_w1 (own_copy (own_upd (own_upd (fun _ => (0 : Int32)) ((0 : Int32)).toNatClampNeg (p3.toInt8.toInt32)) ((299 : Int32)).toNatClampNeg ((p3 >>> ((8 : Int32) &&& 31)).toInt8.toInt32)) (own_copy (own_w4 (own_w4 (own_w4 (own_w4 (fun _ => (0 : Int32)) (0 : Int32) p0) (4 : Int32) (q1 >>> ((32 : Int32) &&& 0x3f).toInt64).toInt32) (8 : Int32) q1.toInt32) (12 : Int32) (300 : Int32)) (fun _ => (0 : Int32)) (0 : Int32).toNatClampNeg (0 : Int32).toNatClampNeg (own_min (256 : Int32) (512 : Int32)).toNatClampNeg) (0 : Int32).toNatClampNeg (16 : Int32).toNatClampNeg (300 : Int32).toNatClampNeg) (316 : Int32) p3) (fun _ => (0 : Int32)) (0 : Int32).toNatClampNeg (0 : Int32).toNatClampNeg (own_min (512 : Int32) (317 : Int32)).toNatClampNeg) (((8 : Int32) + (2 : Int32))).toNatClampNeg = (((q1.toInt32) >>> ((8 : Int32) &&& 31)).toInt8.toInt32) from rfl).trans (own_sh _ 8 8 (by decide) (by decide) (by decide))) ((show (own_copy (own_w1 (own_copy (own_upd (own_upd (fun _ => (0 : Int32)) ((0 : Int32)).toNatClampNeg (p3.toInt8.toInt32)) ((299 : Int32)).toNatClampNeg ((p3 >>> ((8 : Int32) &&& 31)).toInt8.toInt32)) (own_copy (own_w4 (own_w4 (own_w4 (own_w4 (fun _ => (0 : Int32)) (0 : Int32) p0) (4 : Int32) (q1 >>> ((32 : Int32) &&& 0x3f).toInt64).toInt32) (8 : Int32) q1.toInt32) (12 : Int32) (300 : Int32)) (fun _ => (0 : Int32)) (0 : Int32).toNatClampNeg (0 : Int32).toNatClampNeg (own_min (256 : Int32) (512 : Int32)).toNatClampNeg) (0 : Int32).toNatClampNeg (16 : Int32).toNatClampNeg (300 : Int32).toNatClampNeg) (316 : Int32) p3) (fun _ => (0 : Int32)) (0 : Int32).toNatClampNeg (0 : Int32).toNatClampNeg (own_min (512 : Int32) (317 : Int32)).toNatClampNeg) (((8 : Int32) + (3 : Int32))).toNatClampNeg = ((q1.toInt32).toInt8.toInt32) from rfl).trans rfl)) hZ (hw _ (List.mem_of_getElem? (i := 59) rfl)) (hw _ (List.mem_of_getElem? (i := 58) rfl)) (by decide) (by decide)) (g := (mkF m 181 #[.val (.int p0), .val (.long q1), .second, .val (.int p3), .val (.int p4), .val (.int (1 : Int32)), .val (.ref b84), .val (.ref b90), .val (.ref r98), .val (.ref b106), .val (.ref r130), .val (.int (317 : Int32)), .unset] [(.int (q1.toInt32)), (.int (8 : Int32)), (.ref r130)])) rfl (by rw [hml]; rfl) (argsL := [(.ref r130), (.int (8 : Int32)), (.int (q1.toInt32))]) (rest := []) (lenOf pd_285bBII29Z rfl) rfl (by show 2 * 0 + _ ≤ _; exact Nat.le_of_eq rfl) (hb hby at_181) (fun _ _ => ⟨rfl, e143, (by decide : 8 + 0 ≤ _), (by decide : 2352 + 0 ≤ _)⟩)
    dsimp only [Pt.U, Pt.locs, Pt.cells, Pt.slots] at X145 l145 y145 z145 st145 hQ145
    subst l145 y145 z145
    obtain ⟨rfl, N145q, e145⟩ := hQ145
    have N145 := Fr.app N143 N145q
    refine Wp.step st145 ?_
    show Wp p e below _ (T145.setTop (mkF m 184 #[.val (.int p0), .val (.long q1), .second, .val (.int p3), .val (.int p4), .val (.int (1 : Int32)), .val (.ref b84), .val (.ref b90), .val (.ref r98), .val (.ref b106), .val (.ref r130), .val (.int (317 : Int32)), .unset] [(.int (1 : Int32))]))
    refine Wp.step (fun t k => XS.ifYes X145.here hx rfl (pc0 := 184) (pc' := 189) rfl (hb hby at_184) rfl ((if0 _ _).trans (feq (show ¬ ((1 : Int32) = (0 : Int32)) by decide)).2) (by decide) (by decide) k) ?_
    show Wp p e below _ (T145.setTop (mkF m 189 #[.val (.int p0), .val (.long q1), .second, .val (.int p3), .val (.int p4), .val (.int (1 : Int32)), .val (.ref b84), .val (.ref b90), .val (.ref r98), .val (.ref b106), .val (.ref r130), .val (.int (317 : Int32)), .unset] []))
    refine Wp.step (fun t k => XS.iload X145.here hx rfl (hb hby at_189) rfl k) ?_
    show Wp p e below _ (T145.setTop (mkF m 191 #[.val (.int p0), .val (.long q1), .second, .val (.int p3), .val (.int p4), .val (.int (1 : Int32)), .val (.ref b84), .val (.ref b90), .val (.ref r98), .val (.ref b106), .val (.ref r130), .val (.int (317 : Int32)), .unset] [(.int (1 : Int32))]))
    refine Wp.step (fun t k => XS.ifNo X145.here hx rfl (hb hby at_191) rfl ((if0 _ _).trans (feq (show ¬ ((1 : Int32) = (0 : Int32)) by decide)).1) k) ?_
    show Wp p e below _ (T145.setTop (mkF m 194 #[.val (.int p0), .val (.long q1), .second, .val (.int p3), .val (.int p4), .val (.int (1 : Int32)), .val (.ref b84), .val (.ref b90), .val (.ref r98), .val (.ref b106), .val (.ref r130), .val (.int (317 : Int32)), .unset] []))
    refine Wp.step (fun t k => XS.aload X145.here hx rfl (hb hby at_194) rfl rfl k) ?_
    show Wp p e below _ (T145.setTop (mkF m 196 #[.val (.int p0), .val (.long q1), .second, .val (.int p3), .val (.int p4), .val (.int (1 : Int32)), .val (.ref b84), .val (.ref b90), .val (.ref r98), .val (.ref b106), .val (.ref r130), .val (.int (317 : Int32)), .unset] [(.ref r130)]))
    refine Wp.step (fun t k => XS.bipush X145.here hx rfl (hb hby at_196) k) ?_
    show Wp p e below _ (T145.setTop (mkF m 198 #[.val (.int p0), .val (.long q1), .second, .val (.int p3), .val (.int p4), .val (.int (1 : Int32)), .val (.ref b84), .val (.ref b90), .val (.ref r98), .val (.ref b106), .val (.ref r130), .val (.int (317 : Int32)), .unset] [(.int (12 : Int32)), (.ref r130)]))
    refine Wp.step (fun t k => XS.sipush X145.here hx rfl (hb hby at_198) k) ?_
    show Wp p e below _ (T145.setTop (mkF m 201 #[.val (.int p0), .val (.long q1), .second, .val (.int p3), .val (.int p4), .val (.int (1 : Int32)), .val (.ref b84), .val (.ref b90), .val (.ref r98), .val (.ref b106), .val (.ref r130), .val (.int (317 : Int32)), .unset] [(.int (300 : Int32)), (.int (12 : Int32)), (.ref r130)]))
    obtain ⟨_, _, ⟨T148, L148, k148, n148⟩, -, X148, ⟨Lc148, hQ148, l148, y148, z148⟩, st148⟩ := Jvm.LawKit.callS X145 hx (y := (⟨"com/example/ulinzi/ulinzi/protocol/ProtocolWriterToByteArrayPinLaw", "int32At", "([BII)Z"⟩ : MethodName)) hown (mvT hZ (hw _ (List.mem_of_getElem? (i := 56) rfl))) (mvT hZ (hw _ (List.mem_of_getElem? (i := 57) rfl))) (mvT hZ (hw _ (List.mem_of_getElem? (i := 58) rfl))) (mvT hZ (hw _ (List.mem_of_getElem? (i := 59) rfl))) (by decide) (backOf (W := 0) (rm11 l Z a0 hw [] r130 (12 : Int32) (300 : Int32) (317 : Int32) (own_copy (own_w1 (own_copy (own_upd (own_upd (fun _ => (0 : Int32)) ((0 : Int32)).toNatClampNeg (p3.toInt8.toInt32)) ((299 : Int32)).toNatClampNeg ((p3 >>> ((8 : Int32) &&& 31)).toInt8.toInt32)) (own_copy (own_w4 (own_w4 (own_w4 (own_w4 (fun _ => (0 : Int32)) (0 : Int32) p0) (4 : Int32) (q1 >>> ((32 : Int32) &&& 0x3f).toInt64).toInt32) (8 : Int32) q1.toInt32) (12 : Int32) (300 : Int32)) (fun _ => (0 : Int32)) (0 : Int32).toNatClampNeg (0 : Int32).toNatClampNeg (own_min (256 : Int32) (512 : Int32)).toNatClampNeg) (0 : Int32).toNatClampNeg (16 : Int32).toNatClampNeg (300 : Int32).toNatClampNeg) (316 : Int32) p3) (fun _ => (0 : Int32)) (0 : Int32).toNatClampNeg (0 : Int32).toNatClampNeg (own_min (512 : Int32) (317 : Int32)).toNatClampNeg) h130 n0 (Nat.le_trans Z0 K130.1) B_r130 ⟨by decide, by decide⟩ ⟨by decide, by decide⟩ ⟨by decide, by decide⟩ ⟨by decide, by decide⟩ ((show (own_copy (own_w1 (own_copy (own_upd (own_upd (fun _ => (0 : Int32)) ((0 : Int32)).toNatClampNeg (p3.toInt8.toInt32)) ((299 : Int32)).toNatClampNeg ((p3 >>> ((8 : Int32) &&& 31)).toInt8.toInt32)) (own_copy (own_w4 (own_w4 (own_w4 (own_w4 (fun _ => (0 : Int32)) (0 : Int32) p0) (4 : Int32) (q1 >>> ((32 : Int32) &&& 0x3f).toInt64).toInt32) (8 : Int32) q1.toInt32) (12 : Int32) (300 : Int32)) (fun _ => (0 : Int32)) (0 : Int32).toNatClampNeg (0 : Int32).toNatClampNeg (own_min (256 : Int32) (512 : Int32)).toNatClampNeg) (0 : Int32).toNatClampNeg (16 : Int32).toNatClampNeg (300 : Int32).toNatClampNeg) (316 : Int32) p3) (fun _ => (0 : Int32)) (0 : Int32).toNatClampNeg (0 : Int32).toNatClampNeg (own_min (512 : Int32) (317 : Int32)).toNatClampNeg) ((12 : Int32)).toNatClampNeg = (((300 : Int32) >>> ((24 : Int32) &&& 31)).toInt8.toInt32) from rfl).trans (own_sh _ 24 24 (by decide) (by decide) (by decide))) ((show (own_copy (own_w1 (own_copy (own_upd (own_upd (fun _ => (0 : Int32)) ((0 : Int32)).toNatClampNeg (p3.toInt8.toInt32)) ((299 : Int32)).toNatClampNeg ((p3 >>> ((8 : Int32) &&& 31)).toInt8.toInt32)) (own_copy (own_w4 (own_w4 (own_w4 (own_w4 (fun _ => (0 : Int32)) (0 : Int32) p0) (4 : Int32) (q1 >>> ((32 : Int32) &&& 0x3f).toInt64).toInt32) (8 : Int32) q1.toInt32) (12 : Int32) (300 : Int32)) (fun _ => (0 : Int32)) (0 : Int32).toNatClampNeg (0 : Int32).toNatClampNeg (own_min (256 : Int32) (512 : Int32)).toNatClampNeg) (0 : Int32).toNatClampNeg (16 : Int32).toNatClampNeg (300 : Int32).toNatClampNeg) (316 : Int32) p3) (fun _ => (0 : Int32)) (0 : Int32).toNatClampNeg (0 : Int32).toNatClampNeg (own_min (512 : Int32) (317 : Int32)).toNatClampNeg) (((12 : Int32) + (1 : Int32))).toNatClampNeg = (((300 : Int32) >>> ((16 : Int32) &&& 31)).toInt8.toInt32) from rfl).trans (own_sh _ 16 16 (by decide) (by decide) (by decide))) ((show (own_copy (own_w1 (own_copy (own_upd (own_upd (fun _ => (0 : Int32)) ((0 : Int32)).toNatClampNeg (p3.toInt8.toInt32)) ((299 : Int32)).toNatClampNeg ((p3 >>> ((8 : Int32) &&& 31)).toInt8.toInt32)) (own_copy (own_w4 (own_w4 (own_w4 (own_w4 (fun _ => (0 : Int32)) (0 : Int32) p0) (4 : Int32) (q1 >>> ((32 : Int32) &&& 0x3f).toInt64).toInt32) (8 : Int32) q1.toInt32) (12 : Int32) (300 : Int32)) (fun _ => (0 : Int32)) (0 : Int32).toNatClampNeg (0 : Int32).toNatClampNeg (own_min (256 : Int32) (512 : Int32)).toNatClampNeg) (0 : Int32).toNatClampNeg (16 : Int32).toNatClampNeg (300 : Int32).toNatClampNeg) (316 : Int32) p3) (fun _ => (0 : Int32)) (0 : Int32).toNatClampNeg (0 : Int32).toNatClampNeg (own_min (512 : Int32) (317 : Int32)).toNatClampNeg) (((12 : Int32) + (2 : Int32))).toNatClampNeg = (((300 : Int32) >>> ((8 : Int32) &&& 31)).toInt8.toInt32) from rfl).trans (own_sh _ 8 8 (by decide) (by decide) (by decide))) ((show (own_copy (own_w1 (own_copy (own_upd (own_upd (fun _ => (0 : Int32)) ((0 : Int32)).toNatClampNeg (p3.toInt8.toInt32)) ((299 : Int32)).toNatClampNeg ((p3 >>> ((8 : Int32) &&& 31)).toInt8.toInt32)) (own_copy (own_w4 (own_w4 (own_w4 (own_w4 (fun _ => (0 : Int32)) (0 : Int32) p0) (4 : Int32) (q1 >>> ((32 : Int32) &&& 0x3f).toInt64).toInt32) (8 : Int32) q1.toInt32) (12 : Int32) (300 : Int32)) (fun _ => (0 : Int32)) (0 : Int32).toNatClampNeg (0 : Int32).toNatClampNeg (own_min (256 : Int32) (512 : Int32)).toNatClampNeg) (0 : Int32).toNatClampNeg (16 : Int32).toNatClampNeg (300 : Int32).toNatClampNeg) (316 : Int32) p3) (fun _ => (0 : Int32)) (0 : Int32).toNatClampNeg (0 : Int32).toNatClampNeg (own_min (512 : Int32) (317 : Int32)).toNatClampNeg) (((12 : Int32) + (3 : Int32))).toNatClampNeg = ((300 : Int32).toInt8.toInt32) from rfl).trans rfl)) hZ (hw _ (List.mem_of_getElem? (i := 59) rfl)) (hw _ (List.mem_of_getElem? (i := 58) rfl)) (by decide) (by decide)) (g := (mkF m 201 #[.val (.int p0), .val (.long q1), .second, .val (.int p3), .val (.int p4), .val (.int (1 : Int32)), .val (.ref b84), .val (.ref b90), .val (.ref r98), .val (.ref b106), .val (.ref r130), .val (.int (317 : Int32)), .unset] [(.int (300 : Int32)), (.int (12 : Int32)), (.ref r130)])) rfl (by rw [hml]; rfl) (argsL := [(.ref r130), (.int (12 : Int32)), (.int (300 : Int32))]) (rest := []) (lenOf pd_285bBII29Z rfl) rfl (by show 2 * 0 + _ ≤ _; exact Nat.le_of_eq rfl) (hb hby at_201) (fun _ _ => ⟨rfl, e145, (by decide : 8 + 0 ≤ _), (by decide : 2352 + 0 ≤ _)⟩)
    dsimp only [Pt.U, Pt.locs, Pt.cells, Pt.slots] at X148 l148 y148 z148 st148 hQ148
    subst l148 y148 z148
    obtain ⟨rfl, N148q, e148⟩ := hQ148
    have N148 := Fr.app N145 N148q
    refine Wp.step st148 ?_
    show Wp p e below _ (T148.setTop (mkF m 204 #[.val (.int p0), .val (.long q1), .second, .val (.int p3), .val (.int p4), .val (.int (1 : Int32)), .val (.ref b84), .val (.ref b90), .val (.ref r98), .val (.ref b106), .val (.ref r130), .val (.int (317 : Int32)), .unset] [(.int (1 : Int32))]))
    refine Wp.step (fun t k => XS.ifYes X148.here hx rfl (pc0 := 204) (pc' := 209) rfl (hb hby at_204) rfl ((if0 _ _).trans (feq (show ¬ ((1 : Int32) = (0 : Int32)) by decide)).2) (by decide) (by decide) k) ?_
    show Wp p e below _ (T148.setTop (mkF m 209 #[.val (.int p0), .val (.long q1), .second, .val (.int p3), .val (.int p4), .val (.int (1 : Int32)), .val (.ref b84), .val (.ref b90), .val (.ref r98), .val (.ref b106), .val (.ref r130), .val (.int (317 : Int32)), .unset] []))
    refine Wp.step (fun t k => XS.aload X148.here hx rfl (hb hby at_209) rfl rfl k) ?_
    show Wp p e below _ (T148.setTop (mkF m 211 #[.val (.int p0), .val (.long q1), .second, .val (.int p3), .val (.int p4), .val (.int (1 : Int32)), .val (.ref b84), .val (.ref b90), .val (.ref r98), .val (.ref b106), .val (.ref r130), .val (.int (317 : Int32)), .unset] [(.ref r130)]))
    refine Wp.step (fun t k => XS.bipush X148.here hx rfl (hb hby at_211) k) ?_
    show Wp p e below _ (T148.setTop (mkF m 213 #[.val (.int p0), .val (.long q1), .second, .val (.int p3), .val (.int p4), .val (.int (1 : Int32)), .val (.ref b84), .val (.ref b90), .val (.ref r98), .val (.ref b106), .val (.ref r130), .val (.int (317 : Int32)), .unset] [(.int (16 : Int32)), (.ref r130)]))
    obtain ⟨cl150, Ar150, Sz150, Nn150, El150⟩ := id B_r130
    have hin150 : ¬ ((16 : Int32) < 0 ∨ cl150.slots.size ≤ ((16 : Int32)).toNatClampNeg) := inb_of Sz150 ⟨by decide, by decide⟩
    have hat150 : cl150.slots[((16 : Int32)).toNatClampNeg]? = some (.int ((own_copy (own_w1 (own_copy (own_upd (own_upd (fun _ => (0 : Int32)) ((0 : Int32)).toNatClampNeg (p3.toInt8.toInt32)) ((299 : Int32)).toNatClampNeg ((p3 >>> ((8 : Int32) &&& 31)).toInt8.toInt32)) (own_copy (own_w4 (own_w4 (own_w4 (own_w4 (fun _ => (0 : Int32)) (0 : Int32) p0) (4 : Int32) (q1 >>> ((32 : Int32) &&& 0x3f).toInt64).toInt32) (8 : Int32) q1.toInt32) (12 : Int32) (300 : Int32)) (fun _ => (0 : Int32)) (0 : Int32).toNatClampNeg (0 : Int32).toNatClampNeg (own_min (256 : Int32) (512 : Int32)).toNatClampNeg) (0 : Int32).toNatClampNeg (16 : Int32).toNatClampNeg (300 : Int32).toNatClampNeg) (316 : Int32) p3) (fun _ => (0 : Int32)) (0 : Int32).toNatClampNeg (0 : Int32).toNatClampNeg (own_min (512 : Int32) (317 : Int32)).toNatClampNeg) ((16 : Int32)).toNatClampNeg)) := (El150 _ (by have q := Nat.lt_of_not_le fun q => hin150 (Or.inr q); rw [Sz150] at q; exact q)).1
    rw [show ((own_copy (own_w1 (own_copy (own_upd (own_upd (fun _ => (0 : Int32)) ((0 : Int32)).toNatClampNeg (p3.toInt8.toInt32)) ((299 : Int32)).toNatClampNeg ((p3 >>> ((8 : Int32) &&& 31)).toInt8.toInt32)) (own_copy (own_w4 (own_w4 (own_w4 (own_w4 (fun _ => (0 : Int32)) (0 : Int32) p0) (4 : Int32) (q1 >>> ((32 : Int32) &&& 0x3f).toInt64).toInt32) (8 : Int32) q1.toInt32) (12 : Int32) (300 : Int32)) (fun _ => (0 : Int32)) (0 : Int32).toNatClampNeg (0 : Int32).toNatClampNeg (own_min (256 : Int32) (512 : Int32)).toNatClampNeg) (0 : Int32).toNatClampNeg (16 : Int32).toNatClampNeg (300 : Int32).toNatClampNeg) (316 : Int32) p3) (fun _ => (0 : Int32)) (0 : Int32).toNatClampNeg (0 : Int32).toNatClampNeg (own_min (512 : Int32) (317 : Int32)).toNatClampNeg) ((16 : Int32)).toNatClampNeg) = (p3.toInt8.toInt32) from rfl] at hat150
    refine Wp.step (X148.baloadBytes hx (j := (16 : Int32)) (v := (.int (p3.toInt8.toInt32))) (by rw [e148]; exact Ar150.1) (State.isArrayOf_alike hZ.alike Ar150.2.1) Ar150.2.2 hin150 hat150 (g := (mkF m 213 #[.val (.int p0), .val (.long q1), .second, .val (.int p3), .val (.int p4), .val (.int (1 : Int32)), .val (.ref b84), .val (.ref b90), .val (.ref r98), .val (.ref b106), .val (.ref r130), .val (.int (317 : Int32)), .unset] [(.int (16 : Int32)), (.ref r130)])) rfl rfl (hb hby at_213)) ?_
    show Wp p e below _ (T148.setTop (mkF m 214 #[.val (.int p0), .val (.long q1), .second, .val (.int p3), .val (.int p4), .val (.int (1 : Int32)), .val (.ref b84), .val (.ref b90), .val (.ref r98), .val (.ref b106), .val (.ref r130), .val (.int (317 : Int32)), .unset] [(.int (p3.toInt8.toInt32))]))
    refine Wp.step (fun t k => XS.iloadN X148.here hx rfl (hb hby at_214) rfl k) ?_
    show Wp p e below _ (T148.setTop (mkF m 215 #[.val (.int p0), .val (.long q1), .second, .val (.int p3), .val (.int p4), .val (.int (1 : Int32)), .val (.ref b84), .val (.ref b90), .val (.ref r98), .val (.ref b106), .val (.ref r130), .val (.int (317 : Int32)), .unset] [(.int p3), (.int (p3.toInt8.toInt32))]))
    refine Wp.step (fun t k => XS.i2b X148.here hx rfl (hb hby at_215) rfl k) ?_
    show Wp p e below _ (T148.setTop (mkF m 216 #[.val (.int p0), .val (.long q1), .second, .val (.int p3), .val (.int p4), .val (.int (1 : Int32)), .val (.ref b84), .val (.ref b90), .val (.ref r98), .val (.ref b106), .val (.ref r130), .val (.int (317 : Int32)), .unset] [(.int (p3.toInt8.toInt32)), (.int (p3.toInt8.toInt32))]))
    refine Wp.step (fun t k => XS.icmpNo X148.here hx rfl (hb hby at_216) rfl (teq (show (p3.toInt8.toInt32) = (p3.toInt8.toInt32) from rfl)).2 k) ?_
    show Wp p e below _ (T148.setTop (mkF m 219 #[.val (.int p0), .val (.long q1), .second, .val (.int p3), .val (.int p4), .val (.int (1 : Int32)), .val (.ref b84), .val (.ref b90), .val (.ref r98), .val (.ref b106), .val (.ref r130), .val (.int (317 : Int32)), .unset] []))
    refine Wp.step (fun t k => XS.aload X148.here hx rfl (hb hby at_219) rfl rfl k) ?_
    show Wp p e below _ (T148.setTop (mkF m 221 #[.val (.int p0), .val (.long q1), .second, .val (.int p3), .val (.int p4), .val (.int (1 : Int32)), .val (.ref b84), .val (.ref b90), .val (.ref r98), .val (.ref b106), .val (.ref r130), .val (.int (317 : Int32)), .unset] [(.ref r130)]))
    refine Wp.step (fun t k => XS.bipush X148.here hx rfl (hb hby at_221) k) ?_
    show Wp p e below _ (T148.setTop (mkF m 223 #[.val (.int p0), .val (.long q1), .second, .val (.int p3), .val (.int p4), .val (.int (1 : Int32)), .val (.ref b84), .val (.ref b90), .val (.ref r98), .val (.ref b106), .val (.ref r130), .val (.int (317 : Int32)), .unset] [(.int (17 : Int32)), (.ref r130)]))
    obtain ⟨cl152, Ar152, Sz152, Nn152, El152⟩ := id B_r130
    have hin152 : ¬ ((17 : Int32) < 0 ∨ cl152.slots.size ≤ ((17 : Int32)).toNatClampNeg) := inb_of Sz152 ⟨by decide, by decide⟩
    have hat152 : cl152.slots[((17 : Int32)).toNatClampNeg]? = some (.int ((own_copy (own_w1 (own_copy (own_upd (own_upd (fun _ => (0 : Int32)) ((0 : Int32)).toNatClampNeg (p3.toInt8.toInt32)) ((299 : Int32)).toNatClampNeg ((p3 >>> ((8 : Int32) &&& 31)).toInt8.toInt32)) (own_copy (own_w4 (own_w4 (own_w4 (own_w4 (fun _ => (0 : Int32)) (0 : Int32) p0) (4 : Int32) (q1 >>> ((32 : Int32) &&& 0x3f).toInt64).toInt32) (8 : Int32) q1.toInt32) (12 : Int32) (300 : Int32)) (fun _ => (0 : Int32)) (0 : Int32).toNatClampNeg (0 : Int32).toNatClampNeg (own_min (256 : Int32) (512 : Int32)).toNatClampNeg) (0 : Int32).toNatClampNeg (16 : Int32).toNatClampNeg (300 : Int32).toNatClampNeg) (316 : Int32) p3) (fun _ => (0 : Int32)) (0 : Int32).toNatClampNeg (0 : Int32).toNatClampNeg (own_min (512 : Int32) (317 : Int32)).toNatClampNeg) ((17 : Int32)).toNatClampNeg)) := (El152 _ (by have q := Nat.lt_of_not_le fun q => hin152 (Or.inr q); rw [Sz152] at q; exact q)).1
    rw [show ((own_copy (own_w1 (own_copy (own_upd (own_upd (fun _ => (0 : Int32)) ((0 : Int32)).toNatClampNeg (p3.toInt8.toInt32)) ((299 : Int32)).toNatClampNeg ((p3 >>> ((8 : Int32) &&& 31)).toInt8.toInt32)) (own_copy (own_w4 (own_w4 (own_w4 (own_w4 (fun _ => (0 : Int32)) (0 : Int32) p0) (4 : Int32) (q1 >>> ((32 : Int32) &&& 0x3f).toInt64).toInt32) (8 : Int32) q1.toInt32) (12 : Int32) (300 : Int32)) (fun _ => (0 : Int32)) (0 : Int32).toNatClampNeg (0 : Int32).toNatClampNeg (own_min (256 : Int32) (512 : Int32)).toNatClampNeg) (0 : Int32).toNatClampNeg (16 : Int32).toNatClampNeg (300 : Int32).toNatClampNeg) (316 : Int32) p3) (fun _ => (0 : Int32)) (0 : Int32).toNatClampNeg (0 : Int32).toNatClampNeg (own_min (512 : Int32) (317 : Int32)).toNatClampNeg) ((17 : Int32)).toNatClampNeg) = (0 : Int32) from rfl] at hat152
    refine Wp.step (X148.baloadBytes hx (j := (17 : Int32)) (v := (.int (0 : Int32))) (by rw [e148]; exact Ar152.1) (State.isArrayOf_alike hZ.alike Ar152.2.1) Ar152.2.2 hin152 hat152 (g := (mkF m 223 #[.val (.int p0), .val (.long q1), .second, .val (.int p3), .val (.int p4), .val (.int (1 : Int32)), .val (.ref b84), .val (.ref b90), .val (.ref r98), .val (.ref b106), .val (.ref r130), .val (.int (317 : Int32)), .unset] [(.int (17 : Int32)), (.ref r130)])) rfl rfl (hb hby at_223)) ?_
    show Wp p e below _ (T148.setTop (mkF m 224 #[.val (.int p0), .val (.long q1), .second, .val (.int p3), .val (.int p4), .val (.int (1 : Int32)), .val (.ref b84), .val (.ref b90), .val (.ref r98), .val (.ref b106), .val (.ref r130), .val (.int (317 : Int32)), .unset] [(.int (0 : Int32))]))
    refine Wp.step (fun t k => XS.ifNo X148.here hx rfl (hb hby at_224) rfl ((if0 _ _).trans (teq (show (0 : Int32) = (0 : Int32) by decide)).2) k) ?_
    show Wp p e below _ (T148.setTop (mkF m 227 #[.val (.int p0), .val (.long q1), .second, .val (.int p3), .val (.int p4), .val (.int (1 : Int32)), .val (.ref b84), .val (.ref b90), .val (.ref r98), .val (.ref b106), .val (.ref r130), .val (.int (317 : Int32)), .unset] []))
    refine Wp.step (fun t k => XS.aload X148.here hx rfl (hb hby at_227) rfl rfl k) ?_
    show Wp p e below _ (T148.setTop (mkF m 229 #[.val (.int p0), .val (.long q1), .second, .val (.int p3), .val (.int p4), .val (.int (1 : Int32)), .val (.ref b84), .val (.ref b90), .val (.ref r98), .val (.ref b106), .val (.ref r130), .val (.int (317 : Int32)), .unset] [(.ref r130)]))
    refine Wp.step (fun t k => XS.sipush X148.here hx rfl (hb hby at_229) k) ?_
    show Wp p e below _ (T148.setTop (mkF m 232 #[.val (.int p0), .val (.long q1), .second, .val (.int p3), .val (.int p4), .val (.int (1 : Int32)), .val (.ref b84), .val (.ref b90), .val (.ref r98), .val (.ref b106), .val (.ref r130), .val (.int (317 : Int32)), .unset] [(.int (314 : Int32)), (.ref r130)]))
    obtain ⟨cl154, Ar154, Sz154, Nn154, El154⟩ := id B_r130
    have hin154 : ¬ ((314 : Int32) < 0 ∨ cl154.slots.size ≤ ((314 : Int32)).toNatClampNeg) := inb_of Sz154 ⟨by decide, by decide⟩
    have hat154 : cl154.slots[((314 : Int32)).toNatClampNeg]? = some (.int ((own_copy (own_w1 (own_copy (own_upd (own_upd (fun _ => (0 : Int32)) ((0 : Int32)).toNatClampNeg (p3.toInt8.toInt32)) ((299 : Int32)).toNatClampNeg ((p3 >>> ((8 : Int32) &&& 31)).toInt8.toInt32)) (own_copy (own_w4 (own_w4 (own_w4 (own_w4 (fun _ => (0 : Int32)) (0 : Int32) p0) (4 : Int32) (q1 >>> ((32 : Int32) &&& 0x3f).toInt64).toInt32) (8 : Int32) q1.toInt32) (12 : Int32) (300 : Int32)) (fun _ => (0 : Int32)) (0 : Int32).toNatClampNeg (0 : Int32).toNatClampNeg (own_min (256 : Int32) (512 : Int32)).toNatClampNeg) (0 : Int32).toNatClampNeg (16 : Int32).toNatClampNeg (300 : Int32).toNatClampNeg) (316 : Int32) p3) (fun _ => (0 : Int32)) (0 : Int32).toNatClampNeg (0 : Int32).toNatClampNeg (own_min (512 : Int32) (317 : Int32)).toNatClampNeg) ((314 : Int32)).toNatClampNeg)) := (El154 _ (by have q := Nat.lt_of_not_le fun q => hin154 (Or.inr q); rw [Sz154] at q; exact q)).1
    rw [show ((own_copy (own_w1 (own_copy (own_upd (own_upd (fun _ => (0 : Int32)) ((0 : Int32)).toNatClampNeg (p3.toInt8.toInt32)) ((299 : Int32)).toNatClampNeg ((p3 >>> ((8 : Int32) &&& 31)).toInt8.toInt32)) (own_copy (own_w4 (own_w4 (own_w4 (own_w4 (fun _ => (0 : Int32)) (0 : Int32) p0) (4 : Int32) (q1 >>> ((32 : Int32) &&& 0x3f).toInt64).toInt32) (8 : Int32) q1.toInt32) (12 : Int32) (300 : Int32)) (fun _ => (0 : Int32)) (0 : Int32).toNatClampNeg (0 : Int32).toNatClampNeg (own_min (256 : Int32) (512 : Int32)).toNatClampNeg) (0 : Int32).toNatClampNeg (16 : Int32).toNatClampNeg (300 : Int32).toNatClampNeg) (316 : Int32) p3) (fun _ => (0 : Int32)) (0 : Int32).toNatClampNeg (0 : Int32).toNatClampNeg (own_min (512 : Int32) (317 : Int32)).toNatClampNeg) ((314 : Int32)).toNatClampNeg) = (0 : Int32) from rfl] at hat154
    refine Wp.step (X148.baloadBytes hx (j := (314 : Int32)) (v := (.int (0 : Int32))) (by rw [e148]; exact Ar154.1) (State.isArrayOf_alike hZ.alike Ar154.2.1) Ar154.2.2 hin154 hat154 (g := (mkF m 232 #[.val (.int p0), .val (.long q1), .second, .val (.int p3), .val (.int p4), .val (.int (1 : Int32)), .val (.ref b84), .val (.ref b90), .val (.ref r98), .val (.ref b106), .val (.ref r130), .val (.int (317 : Int32)), .unset] [(.int (314 : Int32)), (.ref r130)])) rfl rfl (hb hby at_232)) ?_
    show Wp p e below _ (T148.setTop (mkF m 233 #[.val (.int p0), .val (.long q1), .second, .val (.int p3), .val (.int p4), .val (.int (1 : Int32)), .val (.ref b84), .val (.ref b90), .val (.ref r98), .val (.ref b106), .val (.ref r130), .val (.int (317 : Int32)), .unset] [(.int (0 : Int32))]))
    refine Wp.step (fun t k => XS.ifNo X148.here hx rfl (hb hby at_233) rfl ((if0 _ _).trans (teq (show (0 : Int32) = (0 : Int32) by decide)).2) k) ?_
    show Wp p e below _ (T148.setTop (mkF m 236 #[.val (.int p0), .val (.long q1), .second, .val (.int p3), .val (.int p4), .val (.int (1 : Int32)), .val (.ref b84), .val (.ref b90), .val (.ref r98), .val (.ref b106), .val (.ref r130), .val (.int (317 : Int32)), .unset] []))
    refine Wp.step (fun t k => XS.aload X148.here hx rfl (hb hby at_236) rfl rfl k) ?_
    show Wp p e below _ (T148.setTop (mkF m 238 #[.val (.int p0), .val (.long q1), .second, .val (.int p3), .val (.int p4), .val (.int (1 : Int32)), .val (.ref b84), .val (.ref b90), .val (.ref r98), .val (.ref b106), .val (.ref r130), .val (.int (317 : Int32)), .unset] [(.ref r130)]))
    refine Wp.step (fun t k => XS.sipush X148.here hx rfl (hb hby at_238) k) ?_
    show Wp p e below _ (T148.setTop (mkF m 241 #[.val (.int p0), .val (.long q1), .second, .val (.int p3), .val (.int p4), .val (.int (1 : Int32)), .val (.ref b84), .val (.ref b90), .val (.ref r98), .val (.ref b106), .val (.ref r130), .val (.int (317 : Int32)), .unset] [(.int (315 : Int32)), (.ref r130)]))
    obtain ⟨cl156, Ar156, Sz156, Nn156, El156⟩ := id B_r130
    have hin156 : ¬ ((315 : Int32) < 0 ∨ cl156.slots.size ≤ ((315 : Int32)).toNatClampNeg) := inb_of Sz156 ⟨by decide, by decide⟩
    have hat156 : cl156.slots[((315 : Int32)).toNatClampNeg]? = some (.int ((own_copy (own_w1 (own_copy (own_upd (own_upd (fun _ => (0 : Int32)) ((0 : Int32)).toNatClampNeg (p3.toInt8.toInt32)) ((299 : Int32)).toNatClampNeg ((p3 >>> ((8 : Int32) &&& 31)).toInt8.toInt32)) (own_copy (own_w4 (own_w4 (own_w4 (own_w4 (fun _ => (0 : Int32)) (0 : Int32) p0) (4 : Int32) (q1 >>> ((32 : Int32) &&& 0x3f).toInt64).toInt32) (8 : Int32) q1.toInt32) (12 : Int32) (300 : Int32)) (fun _ => (0 : Int32)) (0 : Int32).toNatClampNeg (0 : Int32).toNatClampNeg (own_min (256 : Int32) (512 : Int32)).toNatClampNeg) (0 : Int32).toNatClampNeg (16 : Int32).toNatClampNeg (300 : Int32).toNatClampNeg) (316 : Int32) p3) (fun _ => (0 : Int32)) (0 : Int32).toNatClampNeg (0 : Int32).toNatClampNeg (own_min (512 : Int32) (317 : Int32)).toNatClampNeg) ((315 : Int32)).toNatClampNeg)) := (El156 _ (by have q := Nat.lt_of_not_le fun q => hin156 (Or.inr q); rw [Sz156] at q; exact q)).1
    rw [show ((own_copy (own_w1 (own_copy (own_upd (own_upd (fun _ => (0 : Int32)) ((0 : Int32)).toNatClampNeg (p3.toInt8.toInt32)) ((299 : Int32)).toNatClampNeg ((p3 >>> ((8 : Int32) &&& 31)).toInt8.toInt32)) (own_copy (own_w4 (own_w4 (own_w4 (own_w4 (fun _ => (0 : Int32)) (0 : Int32) p0) (4 : Int32) (q1 >>> ((32 : Int32) &&& 0x3f).toInt64).toInt32) (8 : Int32) q1.toInt32) (12 : Int32) (300 : Int32)) (fun _ => (0 : Int32)) (0 : Int32).toNatClampNeg (0 : Int32).toNatClampNeg (own_min (256 : Int32) (512 : Int32)).toNatClampNeg) (0 : Int32).toNatClampNeg (16 : Int32).toNatClampNeg (300 : Int32).toNatClampNeg) (316 : Int32) p3) (fun _ => (0 : Int32)) (0 : Int32).toNatClampNeg (0 : Int32).toNatClampNeg (own_min (512 : Int32) (317 : Int32)).toNatClampNeg) ((315 : Int32)).toNatClampNeg) = ((p3 >>> ((8 : Int32) &&& 31)).toInt8.toInt32) from rfl] at hat156
    refine Wp.step (X148.baloadBytes hx (j := (315 : Int32)) (v := (.int ((p3 >>> ((8 : Int32) &&& 31)).toInt8.toInt32))) (by rw [e148]; exact Ar156.1) (State.isArrayOf_alike hZ.alike Ar156.2.1) Ar156.2.2 hin156 hat156 (g := (mkF m 241 #[.val (.int p0), .val (.long q1), .second, .val (.int p3), .val (.int p4), .val (.int (1 : Int32)), .val (.ref b84), .val (.ref b90), .val (.ref r98), .val (.ref b106), .val (.ref r130), .val (.int (317 : Int32)), .unset] [(.int (315 : Int32)), (.ref r130)])) rfl rfl (hb hby at_241)) ?_
    show Wp p e below _ (T148.setTop (mkF m 242 #[.val (.int p0), .val (.long q1), .second, .val (.int p3), .val (.int p4), .val (.int (1 : Int32)), .val (.ref b84), .val (.ref b90), .val (.ref r98), .val (.ref b106), .val (.ref r130), .val (.int (317 : Int32)), .unset] [(.int ((p3 >>> ((8 : Int32) &&& 31)).toInt8.toInt32))]))
    refine Wp.step (fun t k => XS.iloadN X148.here hx rfl (hb hby at_242) rfl k) ?_
    show Wp p e below _ (T148.setTop (mkF m 243 #[.val (.int p0), .val (.long q1), .second, .val (.int p3), .val (.int p4), .val (.int (1 : Int32)), .val (.ref b84), .val (.ref b90), .val (.ref r98), .val (.ref b106), .val (.ref r130), .val (.int (317 : Int32)), .unset] [(.int p3), (.int ((p3 >>> ((8 : Int32) &&& 31)).toInt8.toInt32))]))
    refine Wp.step (fun t k => XS.bipush X148.here hx rfl (hb hby at_243) k) ?_
    show Wp p e below _ (T148.setTop (mkF m 245 #[.val (.int p0), .val (.long q1), .second, .val (.int p3), .val (.int p4), .val (.int (1 : Int32)), .val (.ref b84), .val (.ref b90), .val (.ref r98), .val (.ref b106), .val (.ref r130), .val (.int (317 : Int32)), .unset] [(.int (8 : Int32)), (.int p3), (.int ((p3 >>> ((8 : Int32) &&& 31)).toInt8.toInt32))]))
    refine Wp.step (fun t k => XS.ishr X148.here hx rfl (hb hby at_245) rfl k) ?_
    show Wp p e below _ (T148.setTop (mkF m 246 #[.val (.int p0), .val (.long q1), .second, .val (.int p3), .val (.int p4), .val (.int (1 : Int32)), .val (.ref b84), .val (.ref b90), .val (.ref r98), .val (.ref b106), .val (.ref r130), .val (.int (317 : Int32)), .unset] [(.int (p3 >>> ((8 : Int32) &&& 31))), (.int ((p3 >>> ((8 : Int32) &&& 31)).toInt8.toInt32))]))
    refine Wp.step (fun t k => XS.i2b X148.here hx rfl (hb hby at_246) rfl k) ?_
    show Wp p e below _ (T148.setTop (mkF m 247 #[.val (.int p0), .val (.long q1), .second, .val (.int p3), .val (.int p4), .val (.int (1 : Int32)), .val (.ref b84), .val (.ref b90), .val (.ref r98), .val (.ref b106), .val (.ref r130), .val (.int (317 : Int32)), .unset] [(.int ((p3 >>> ((8 : Int32) &&& 31)).toInt8.toInt32)), (.int ((p3 >>> ((8 : Int32) &&& 31)).toInt8.toInt32))]))
    refine Wp.step (fun t k => XS.icmpYes X148.here hx rfl (pc0 := 247) (pc' := 252) rfl (hb hby at_247) rfl (teq (show ((p3 >>> ((8 : Int32) &&& 31)).toInt8.toInt32) = ((p3 >>> ((8 : Int32) &&& 31)).toInt8.toInt32) from rfl)).1 (by decide) (by decide) k) ?_
    show Wp p e below _ (T148.setTop (mkF m 252 #[.val (.int p0), .val (.long q1), .second, .val (.int p3), .val (.int p4), .val (.int (1 : Int32)), .val (.ref b84), .val (.ref b90), .val (.ref r98), .val (.ref b106), .val (.ref r130), .val (.int (317 : Int32)), .unset] []))
    refine Wp.step (fun t k => XS.aload X148.here hx rfl (hb hby at_252) rfl rfl k) ?_
    show Wp p e below _ (T148.setTop (mkF m 254 #[.val (.int p0), .val (.long q1), .second, .val (.int p3), .val (.int p4), .val (.int (1 : Int32)), .val (.ref b84), .val (.ref b90), .val (.ref r98), .val (.ref b106), .val (.ref r130), .val (.int (317 : Int32)), .unset] [(.ref r130)]))
    refine Wp.step (fun t k => XS.iload X148.here hx rfl (hb hby at_254) rfl k) ?_
    show Wp p e below _ (T148.setTop (mkF m 256 #[.val (.int p0), .val (.long q1), .second, .val (.int p3), .val (.int p4), .val (.int (1 : Int32)), .val (.ref b84), .val (.ref b90), .val (.ref r98), .val (.ref b106), .val (.ref r130), .val (.int (317 : Int32)), .unset] [(.int (317 : Int32)), (.ref r130)]))
    refine Wp.step (fun t k => XS.iconst X148.here hx rfl (hb hby at_256) k) ?_
    show Wp p e below _ (T148.setTop (mkF m 257 #[.val (.int p0), .val (.long q1), .second, .val (.int p3), .val (.int p4), .val (.int (1 : Int32)), .val (.ref b84), .val (.ref b90), .val (.ref r98), .val (.ref b106), .val (.ref r130), .val (.int (317 : Int32)), .unset] [(.int (1 : Int32)), (.int (317 : Int32)), (.ref r130)]))
    refine Wp.step (fun t k => XS.isub X148.here hx rfl (hb hby at_257) rfl k) ?_
    show Wp p e below _ (T148.setTop (mkF m 258 #[.val (.int p0), .val (.long q1), .second, .val (.int p3), .val (.int p4), .val (.int (1 : Int32)), .val (.ref b84), .val (.ref b90), .val (.ref r98), .val (.ref b106), .val (.ref r130), .val (.int (317 : Int32)), .unset] [(.int (316 : Int32)), (.ref r130)]))
    obtain ⟨cl158, Ar158, Sz158, Nn158, El158⟩ := id B_r130
    have hin158 : ¬ ((316 : Int32) < 0 ∨ cl158.slots.size ≤ ((316 : Int32)).toNatClampNeg) := inb_of Sz158 ⟨by decide, by decide⟩
    have hat158 : cl158.slots[((316 : Int32)).toNatClampNeg]? = some (.int ((own_copy (own_w1 (own_copy (own_upd (own_upd (fun _ => (0 : Int32)) ((0 : Int32)).toNatClampNeg (p3.toInt8.toInt32)) ((299 : Int32)).toNatClampNeg ((p3 >>> ((8 : Int32) &&& 31)).toInt8.toInt32)) (own_copy (own_w4 (own_w4 (own_w4 (own_w4 (fun _ => (0 : Int32)) (0 : Int32) p0) (4 : Int32) (q1 >>> ((32 : Int32) &&& 0x3f).toInt64).toInt32) (8 : Int32) q1.toInt32) (12 : Int32) (300 : Int32)) (fun _ => (0 : Int32)) (0 : Int32).toNatClampNeg (0 : Int32).toNatClampNeg (own_min (256 : Int32) (512 : Int32)).toNatClampNeg) (0 : Int32).toNatClampNeg (16 : Int32).toNatClampNeg (300 : Int32).toNatClampNeg) (316 : Int32) p3) (fun _ => (0 : Int32)) (0 : Int32).toNatClampNeg (0 : Int32).toNatClampNeg (own_min (512 : Int32) (317 : Int32)).toNatClampNeg) ((316 : Int32)).toNatClampNeg)) := (El158 _ (by have q := Nat.lt_of_not_le fun q => hin158 (Or.inr q); rw [Sz158] at q; exact q)).1
    rw [show ((own_copy (own_w1 (own_copy (own_upd (own_upd (fun _ => (0 : Int32)) ((0 : Int32)).toNatClampNeg (p3.toInt8.toInt32)) ((299 : Int32)).toNatClampNeg ((p3 >>> ((8 : Int32) &&& 31)).toInt8.toInt32)) (own_copy (own_w4 (own_w4 (own_w4 (own_w4 (fun _ => (0 : Int32)) (0 : Int32) p0) (4 : Int32) (q1 >>> ((32 : Int32) &&& 0x3f).toInt64).toInt32) (8 : Int32) q1.toInt32) (12 : Int32) (300 : Int32)) (fun _ => (0 : Int32)) (0 : Int32).toNatClampNeg (0 : Int32).toNatClampNeg (own_min (256 : Int32) (512 : Int32)).toNatClampNeg) (0 : Int32).toNatClampNeg (16 : Int32).toNatClampNeg (300 : Int32).toNatClampNeg) (316 : Int32) p3) (fun _ => (0 : Int32)) (0 : Int32).toNatClampNeg (0 : Int32).toNatClampNeg (own_min (512 : Int32) (317 : Int32)).toNatClampNeg) ((316 : Int32)).toNatClampNeg) = (p3.toInt8.toInt32) from rfl] at hat158
    refine Wp.step (X148.baloadBytes hx (j := (316 : Int32)) (v := (.int (p3.toInt8.toInt32))) (by rw [e148]; exact Ar158.1) (State.isArrayOf_alike hZ.alike Ar158.2.1) Ar158.2.2 hin158 hat158 (g := (mkF m 258 #[.val (.int p0), .val (.long q1), .second, .val (.int p3), .val (.int p4), .val (.int (1 : Int32)), .val (.ref b84), .val (.ref b90), .val (.ref r98), .val (.ref b106), .val (.ref r130), .val (.int (317 : Int32)), .unset] [(.int (316 : Int32)), (.ref r130)])) rfl rfl (hb hby at_258)) ?_
    show Wp p e below _ (T148.setTop (mkF m 259 #[.val (.int p0), .val (.long q1), .second, .val (.int p3), .val (.int p4), .val (.int (1 : Int32)), .val (.ref b84), .val (.ref b90), .val (.ref r98), .val (.ref b106), .val (.ref r130), .val (.int (317 : Int32)), .unset] [(.int (p3.toInt8.toInt32))]))
    refine Wp.step (fun t k => XS.iloadN X148.here hx rfl (hb hby at_259) rfl k) ?_
    show Wp p e below _ (T148.setTop (mkF m 260 #[.val (.int p0), .val (.long q1), .second, .val (.int p3), .val (.int p4), .val (.int (1 : Int32)), .val (.ref b84), .val (.ref b90), .val (.ref r98), .val (.ref b106), .val (.ref r130), .val (.int (317 : Int32)), .unset] [(.int p3), (.int (p3.toInt8.toInt32))]))
    refine Wp.step (fun t k => XS.i2b X148.here hx rfl (hb hby at_260) rfl k) ?_
    show Wp p e below _ (T148.setTop (mkF m 261 #[.val (.int p0), .val (.long q1), .second, .val (.int p3), .val (.int p4), .val (.int (1 : Int32)), .val (.ref b84), .val (.ref b90), .val (.ref r98), .val (.ref b106), .val (.ref r130), .val (.int (317 : Int32)), .unset] [(.int (p3.toInt8.toInt32)), (.int (p3.toInt8.toInt32))]))
    refine Wp.step (fun t k => XS.icmpYes X148.here hx rfl (pc0 := 261) (pc' := 266) rfl (hb hby at_261) rfl (teq (show (p3.toInt8.toInt32) = (p3.toInt8.toInt32) from rfl)).1 (by decide) (by decide) k) ?_
    show Wp p e below _ (T148.setTop (mkF m 266 #[.val (.int p0), .val (.long q1), .second, .val (.int p3), .val (.int p4), .val (.int (1 : Int32)), .val (.ref b84), .val (.ref b90), .val (.ref r98), .val (.ref b106), .val (.ref r130), .val (.int (317 : Int32)), .unset] []))
    refine Wp.step (fun t k => XS.aload X148.here hx rfl (hb hby at_266) rfl rfl k) ?_
    show Wp p e below _ (T148.setTop (mkF m 268 #[.val (.int p0), .val (.long q1), .second, .val (.int p3), .val (.int p4), .val (.int (1 : Int32)), .val (.ref b84), .val (.ref b90), .val (.ref r98), .val (.ref b106), .val (.ref r130), .val (.int (317 : Int32)), .unset] [(.ref r130)]))
    refine Wp.step (fun t k => XS.iconst X148.here hx rfl (hb hby at_268) k) ?_
    show Wp p e below _ (T148.setTop (mkF m 269 #[.val (.int p0), .val (.long q1), .second, .val (.int p3), .val (.int p4), .val (.int (1 : Int32)), .val (.ref b84), .val (.ref b90), .val (.ref r98), .val (.ref b106), .val (.ref r130), .val (.int (317 : Int32)), .unset] [(.int (0 : Int32)), (.ref r130)]))
    refine Wp.step (fun t k => XS.aload X148.here hx rfl (hb hby at_269) rfl rfl k) ?_
    show Wp p e below _ (T148.setTop (mkF m 271 #[.val (.int p0), .val (.long q1), .second, .val (.int p3), .val (.int p4), .val (.int (1 : Int32)), .val (.ref b84), .val (.ref b90), .val (.ref r98), .val (.ref b106), .val (.ref r130), .val (.int (317 : Int32)), .unset] [(.ref r130), (.int (0 : Int32)), (.ref r130)]))
    refine Wp.step (fun t k => XS.iconst X148.here hx rfl (hb hby at_271) k) ?_
    show Wp p e below _ (T148.setTop (mkF m 272 #[.val (.int p0), .val (.long q1), .second, .val (.int p3), .val (.int p4), .val (.int (1 : Int32)), .val (.ref b84), .val (.ref b90), .val (.ref r98), .val (.ref b106), .val (.ref r130), .val (.int (317 : Int32)), .unset] [(.int (0 : Int32)), (.ref r130), (.int (0 : Int32)), (.ref r130)]))
    obtain ⟨cl160, Ar160, Sz160, Nn160, El160⟩ := id B_r130
    have hin160 : ¬ ((0 : Int32) < 0 ∨ cl160.slots.size ≤ ((0 : Int32)).toNatClampNeg) := inb_of Sz160 ⟨by decide, by decide⟩
    have hat160 : cl160.slots[((0 : Int32)).toNatClampNeg]? = some (.int ((own_copy (own_w1 (own_copy (own_upd (own_upd (fun _ => (0 : Int32)) ((0 : Int32)).toNatClampNeg (p3.toInt8.toInt32)) ((299 : Int32)).toNatClampNeg ((p3 >>> ((8 : Int32) &&& 31)).toInt8.toInt32)) (own_copy (own_w4 (own_w4 (own_w4 (own_w4 (fun _ => (0 : Int32)) (0 : Int32) p0) (4 : Int32) (q1 >>> ((32 : Int32) &&& 0x3f).toInt64).toInt32) (8 : Int32) q1.toInt32) (12 : Int32) (300 : Int32)) (fun _ => (0 : Int32)) (0 : Int32).toNatClampNeg (0 : Int32).toNatClampNeg (own_min (256 : Int32) (512 : Int32)).toNatClampNeg) (0 : Int32).toNatClampNeg (16 : Int32).toNatClampNeg (300 : Int32).toNatClampNeg) (316 : Int32) p3) (fun _ => (0 : Int32)) (0 : Int32).toNatClampNeg (0 : Int32).toNatClampNeg (own_min (512 : Int32) (317 : Int32)).toNatClampNeg) ((0 : Int32)).toNatClampNeg)) := (El160 _ (by have q := Nat.lt_of_not_le fun q => hin160 (Or.inr q); rw [Sz160] at q; exact q)).1
    refine Wp.step (X148.baloadBytes hx (j := (0 : Int32)) (v := (.int ((own_copy (own_w1 (own_copy (own_upd (own_upd (fun _ => (0 : Int32)) ((0 : Int32)).toNatClampNeg (p3.toInt8.toInt32)) ((299 : Int32)).toNatClampNeg ((p3 >>> ((8 : Int32) &&& 31)).toInt8.toInt32)) (own_copy (own_w4 (own_w4 (own_w4 (own_w4 (fun _ => (0 : Int32)) (0 : Int32) p0) (4 : Int32) (q1 >>> ((32 : Int32) &&& 0x3f).toInt64).toInt32) (8 : Int32) q1.toInt32) (12 : Int32) (300 : Int32)) (fun _ => (0 : Int32)) (0 : Int32).toNatClampNeg (0 : Int32).toNatClampNeg (own_min (256 : Int32) (512 : Int32)).toNatClampNeg) (0 : Int32).toNatClampNeg (16 : Int32).toNatClampNeg (300 : Int32).toNatClampNeg) (316 : Int32) p3) (fun _ => (0 : Int32)) (0 : Int32).toNatClampNeg (0 : Int32).toNatClampNeg (own_min (512 : Int32) (317 : Int32)).toNatClampNeg) ((0 : Int32)).toNatClampNeg))) (by rw [e148]; exact Ar160.1) (State.isArrayOf_alike hZ.alike Ar160.2.1) Ar160.2.2 hin160 hat160 (g := (mkF m 272 #[.val (.int p0), .val (.long q1), .second, .val (.int p3), .val (.int p4), .val (.int (1 : Int32)), .val (.ref b84), .val (.ref b90), .val (.ref r98), .val (.ref b106), .val (.ref r130), .val (.int (317 : Int32)), .unset] [(.int (0 : Int32)), (.ref r130), (.int (0 : Int32)), (.ref r130)])) rfl rfl (hb hby at_272)) ?_
    show Wp p e below _ (T148.setTop (mkF m 273 #[.val (.int p0), .val (.long q1), .second, .val (.int p3), .val (.int p4), .val (.int (1 : Int32)), .val (.ref b84), .val (.ref b90), .val (.ref r98), .val (.ref b106), .val (.ref r130), .val (.int (317 : Int32)), .unset] [(.int ((own_copy (own_w1 (own_copy (own_upd (own_upd (fun _ => (0 : Int32)) ((0 : Int32)).toNatClampNeg (p3.toInt8.toInt32)) ((299 : Int32)).toNatClampNeg ((p3 >>> ((8 : Int32) &&& 31)).toInt8.toInt32)) (own_copy (own_w4 (own_w4 (own_w4 (own_w4 (fun _ => (0 : Int32)) (0 : Int32) p0) (4 : Int32) (q1 >>> ((32 : Int32) &&& 0x3f).toInt64).toInt32) (8 : Int32) q1.toInt32) (12 : Int32) (300 : Int32)) (fun _ => (0 : Int32)) (0 : Int32).toNatClampNeg (0 : Int32).toNatClampNeg (own_min (256 : Int32) (512 : Int32)).toNatClampNeg) (0 : Int32).toNatClampNeg (16 : Int32).toNatClampNeg (300 : Int32).toNatClampNeg) (316 : Int32) p3) (fun _ => (0 : Int32)) (0 : Int32).toNatClampNeg (0 : Int32).toNatClampNeg (own_min (512 : Int32) (317 : Int32)).toNatClampNeg) ((0 : Int32)).toNatClampNeg)), (.int (0 : Int32)), (.ref r130)]))
    refine Wp.step (fun t k => XS.iconst X148.here hx rfl (hb hby at_273) k) ?_
    show Wp p e below _ (T148.setTop (mkF m 274 #[.val (.int p0), .val (.long q1), .second, .val (.int p3), .val (.int p4), .val (.int (1 : Int32)), .val (.ref b84), .val (.ref b90), .val (.ref r98), .val (.ref b106), .val (.ref r130), .val (.int (317 : Int32)), .unset] [(.int (1 : Int32)), (.int ((own_copy (own_w1 (own_copy (own_upd (own_upd (fun _ => (0 : Int32)) ((0 : Int32)).toNatClampNeg (p3.toInt8.toInt32)) ((299 : Int32)).toNatClampNeg ((p3 >>> ((8 : Int32) &&& 31)).toInt8.toInt32)) (own_copy (own_w4 (own_w4 (own_w4 (own_w4 (fun _ => (0 : Int32)) (0 : Int32) p0) (4 : Int32) (q1 >>> ((32 : Int32) &&& 0x3f).toInt64).toInt32) (8 : Int32) q1.toInt32) (12 : Int32) (300 : Int32)) (fun _ => (0 : Int32)) (0 : Int32).toNatClampNeg (0 : Int32).toNatClampNeg (own_min (256 : Int32) (512 : Int32)).toNatClampNeg) (0 : Int32).toNatClampNeg (16 : Int32).toNatClampNeg (300 : Int32).toNatClampNeg) (316 : Int32) p3) (fun _ => (0 : Int32)) (0 : Int32).toNatClampNeg (0 : Int32).toNatClampNeg (own_min (512 : Int32) (317 : Int32)).toNatClampNeg) ((0 : Int32)).toNatClampNeg)), (.int (0 : Int32)), (.ref r130)]))
    refine Wp.step (fun t k => XS.ixor X148.here hx rfl (hb hby at_274) rfl k) ?_
    show Wp p e below _ (T148.setTop (mkF m 275 #[.val (.int p0), .val (.long q1), .second, .val (.int p3), .val (.int p4), .val (.int (1 : Int32)), .val (.ref b84), .val (.ref b90), .val (.ref r98), .val (.ref b106), .val (.ref r130), .val (.int (317 : Int32)), .unset] [(.int (((own_copy (own_w1 (own_copy (own_upd (own_upd (fun _ => (0 : Int32)) ((0 : Int32)).toNatClampNeg (p3.toInt8.toInt32)) ((299 : Int32)).toNatClampNeg ((p3 >>> ((8 : Int32) &&& 31)).toInt8.toInt32)) (own_copy (own_w4 (own_w4 (own_w4 (own_w4 (fun _ => (0 : Int32)) (0 : Int32) p0) (4 : Int32) (q1 >>> ((32 : Int32) &&& 0x3f).toInt64).toInt32) (8 : Int32) q1.toInt32) (12 : Int32) (300 : Int32)) (fun _ => (0 : Int32)) (0 : Int32).toNatClampNeg (0 : Int32).toNatClampNeg (own_min (256 : Int32) (512 : Int32)).toNatClampNeg) (0 : Int32).toNatClampNeg (16 : Int32).toNatClampNeg (300 : Int32).toNatClampNeg) (316 : Int32) p3) (fun _ => (0 : Int32)) (0 : Int32).toNatClampNeg (0 : Int32).toNatClampNeg (own_min (512 : Int32) (317 : Int32)).toNatClampNeg) ((0 : Int32)).toNatClampNeg) ^^^ (1 : Int32))), (.int (0 : Int32)), (.ref r130)]))
    refine Wp.step (fun t k => XS.i2b X148.here hx rfl (hb hby at_275) rfl k) ?_
    show Wp p e below _ (T148.setTop (mkF m 276 #[.val (.int p0), .val (.long q1), .second, .val (.int p3), .val (.int p4), .val (.int (1 : Int32)), .val (.ref b84), .val (.ref b90), .val (.ref r98), .val (.ref b106), .val (.ref r130), .val (.int (317 : Int32)), .unset] [(.int ((((own_copy (own_w1 (own_copy (own_upd (own_upd (fun _ => (0 : Int32)) ((0 : Int32)).toNatClampNeg (p3.toInt8.toInt32)) ((299 : Int32)).toNatClampNeg ((p3 >>> ((8 : Int32) &&& 31)).toInt8.toInt32)) (own_copy (own_w4 (own_w4 (own_w4 (own_w4 (fun _ => (0 : Int32)) (0 : Int32) p0) (4 : Int32) (q1 >>> ((32 : Int32) &&& 0x3f).toInt64).toInt32) (8 : Int32) q1.toInt32) (12 : Int32) (300 : Int32)) (fun _ => (0 : Int32)) (0 : Int32).toNatClampNeg (0 : Int32).toNatClampNeg (own_min (256 : Int32) (512 : Int32)).toNatClampNeg) (0 : Int32).toNatClampNeg (16 : Int32).toNatClampNeg (300 : Int32).toNatClampNeg) (316 : Int32) p3) (fun _ => (0 : Int32)) (0 : Int32).toNatClampNeg (0 : Int32).toNatClampNeg (own_min (512 : Int32) (317 : Int32)).toNatClampNeg) ((0 : Int32)).toNatClampNeg) ^^^ (1 : Int32)).toInt8.toInt32)), (.int (0 : Int32)), (.ref r130)]))
    obtain ⟨cl161, Ar161, Sz161, Nn161, El161⟩ := id B_r130
    have hin161 : ¬ ((0 : Int32) < 0 ∨ cl161.slots.size ≤ ((0 : Int32)).toNatClampNeg) := inb_of Sz161 ⟨by decide, by decide⟩
    obtain ⟨T161, h161, X161, e161, W161, st161⟩ := stB X148 hx hZ e148 Ar161 (j := (0 : Int32)) hin161 (g := (mkF m 276 #[.val (.int p0), .val (.long q1), .second, .val (.int p3), .val (.int p4), .val (.int (1 : Int32)), .val (.ref b84), .val (.ref b90), .val (.ref r98), .val (.ref b106), .val (.ref r130), .val (.int (317 : Int32)), .unset] [(.int ((((own_copy (own_w1 (own_copy (own_upd (own_upd (fun _ => (0 : Int32)) ((0 : Int32)).toNatClampNeg (p3.toInt8.toInt32)) ((299 : Int32)).toNatClampNeg ((p3 >>> ((8 : Int32) &&& 31)).toInt8.toInt32)) (own_copy (own_w4 (own_w4 (own_w4 (own_w4 (fun _ => (0 : Int32)) (0 : Int32) p0) (4 : Int32) (q1 >>> ((32 : Int32) &&& 0x3f).toInt64).toInt32) (8 : Int32) q1.toInt32) (12 : Int32) (300 : Int32)) (fun _ => (0 : Int32)) (0 : Int32).toNatClampNeg (0 : Int32).toNatClampNeg (own_min (256 : Int32) (512 : Int32)).toNatClampNeg) (0 : Int32).toNatClampNeg (16 : Int32).toNatClampNeg (300 : Int32).toNatClampNeg) (316 : Int32) p3) (fun _ => (0 : Int32)) (0 : Int32).toNatClampNeg (0 : Int32).toNatClampNeg (own_min (512 : Int32) (317 : Int32)).toNatClampNeg) ((0 : Int32)).toNatClampNeg) ^^^ (1 : Int32)).toInt8.toInt32)), (.int (0 : Int32)), (.ref r130)])) rfl rfl (hb hby at_276)
    have c162 := c132.wr W161
    have c163 := c133.other W161 (Or.inl ne_b106_r130)
    have c164 := c134.other W161 (Or.inl ne_b106_r130)
    have B165 := B135.other W161 ne_n123arr_r130
    have K166 := K130.wr W161 (Or.inr sz_r130)
    have N161 := Fr.snoc X161 N148 g_r130
    have B161 := own_IA.set Ar161 Sz161 Nn161 El161 W161 (fits_nar_byte _)
    rw [own_narb] at B161
    refine Wp.step st161 ?_
    show Wp p e below _ (T161.setTop (mkF m 277 #[.val (.int p0), .val (.long q1), .second, .val (.int p3), .val (.int p4), .val (.int (1 : Int32)), .val (.ref b84), .val (.ref b90), .val (.ref r98), .val (.ref b106), .val (.ref r130), .val (.int (317 : Int32)), .unset] []))
    refine Wp.step (fun t k => XS.aload X161.here hx rfl (hb hby at_277) rfl rfl k) ?_
    show Wp p e below _ (T161.setTop (mkF m 279 #[.val (.int p0), .val (.long q1), .second, .val (.int p3), .val (.int p4), .val (.int (1 : Int32)), .val (.ref b84), .val (.ref b90), .val (.ref r98), .val (.ref b106), .val (.ref r130), .val (.int (317 : Int32)), .unset] [(.ref b106)]))
    obtain ⟨cq167, kq167, q167a, q167b, q167c⟩ := isOf hZ e161 c162
    obtain ⟨_, _, ⟨T167, L167, k167, n167⟩, -, X167, ⟨Lc167, hQ167, l167, y167, z167⟩, st167⟩ := X161.virtualBack hx (y := (⟨"com/example/ulinzi/ulinzi/protocol/ProtocolWriter", "toByteArray", "()[B"⟩ : MethodName)) (z := (⟨"com/example/ulinzi/ulinzi/protocol/ProtocolWriter", "toByteArray", "()[B"⟩ : MethodName)) hown (mvT hZ (hw _ (List.mem_of_getElem? (i := 12) rfl))) (mvT hZ (hw _ (List.mem_of_getElem? (i := 13) rfl))) (notFace_of_selects (args := #[]) (mvT hZ (hw _ (List.mem_of_getElem? (i := 15) rfl)))) (mvT hZ (hw _ (List.mem_of_getElem? (i := 15) rfl))) (mvT hZ (hw _ (List.mem_of_getElem? (i := 14) rfl))) (by decide) (backOf (W := 0) (rm3 l Z a0 hw [] b106 n123arr (317 : Int32) (512 : Int32) (own_w1 (own_copy (own_upd (own_upd (fun _ => (0 : Int32)) ((0 : Int32)).toNatClampNeg (p3.toInt8.toInt32)) ((299 : Int32)).toNatClampNeg ((p3 >>> ((8 : Int32) &&& 31)).toInt8.toInt32)) (own_copy (own_w4 (own_w4 (own_w4 (own_w4 (fun _ => (0 : Int32)) (0 : Int32) p0) (4 : Int32) (q1 >>> ((32 : Int32) &&& 0x3f).toInt64).toInt32) (8 : Int32) q1.toInt32) (12 : Int32) (300 : Int32)) (fun _ => (0 : Int32)) (0 : Int32).toNatClampNeg (0 : Int32).toNatClampNeg (own_min (256 : Int32) (512 : Int32)).toNatClampNeg) (0 : Int32).toNatClampNeg (16 : Int32).toNatClampNeg (300 : Int32).toNatClampNeg) (316 : Int32) p3) h161 n0 (Nat.le_trans Z0 K166.1) c162 c163 c164 B165 (Ne.symm ne_b106_n123arr) (by decide) (by decide) (by decide) (by decide) (by decide) (by decide)) hZ (hw _ (List.mem_of_getElem? (i := 16) rfl)) (hw _ (List.mem_of_getElem? (i := 3) rfl)) (by decide) (by decide)) q167a q167c (g := (mkF m 279 #[.val (.int p0), .val (.long q1), .second, .val (.int p3), .val (.int p4), .val (.int (1 : Int32)), .val (.ref b84), .val (.ref b90), .val (.ref r98), .val (.ref b106), .val (.ref r130), .val (.int (317 : Int32)), .unset] [(.ref b106)])) rfl (by rw [hml]; rfl) (Steps.refl _) (argsL := []) (rest := []) (lenOf pd_28295bB rfl) rfl (by show 2 * 0 + _ ≤ _; exact Nat.le_of_eq rfl) (hb hby at_279) (fun _ _ => ⟨rfl, e161, (by decide : 8 + 1 ≤ _), (by decide : 2352 + 512 ≤ _)⟩)
    dsimp only [Pt.U, Pt.locs, Pt.cells, Pt.slots] at X167 l167 y167 z167 st167 hQ167
    subst l167 y167 z167
    obtain ⟨h167, e167⟩ : ∃ z, T167.heap = z := ⟨_, rfl⟩
    rw [e167] at hQ167
    obtain ⟨r167, rfl, N167q, Kc167, szr167, g_r167, B_r167⟩ := hQ167
    have N167 := Fr.app N161 N167q
    have ne_b106_r167 : b106 ≠ r167 := Nat.ne_of_lt (Nat.lt_of_lt_of_le c162.lt szr167)
    have ne_n123arr_r167 : n123arr ≠ r167 := Nat.ne_of_lt (Nat.lt_of_lt_of_le B165.lt szr167)
    have ne_r130_r167 : r130 ≠ r167 := Nat.ne_of_lt (Nat.lt_of_lt_of_le B161.lt szr167)
    have c168 := c162.keep Kc167
    have c169 := c163.keep Kc167 nin0
    have c170 := c164.keep Kc167 nin0
    have B171 := B165.keep Kc167 nin0
    have B172 := B161.keep Kc167 nin0
    have sz_r167 : h0.size ≤ r167 := Nat.le_trans K166.1 szr167
    have K167 := K166.trans Kc167 all0
    refine Wp.go st167 ?_
    show Wp p e below _ (T167.setTop (mkF m 282 #[.val (.int p0), .val (.long q1), .second, .val (.int p3), .val (.int p4), .val (.int (1 : Int32)), .val (.ref b84), .val (.ref b90), .val (.ref r98), .val (.ref b106), .val (.ref r130), .val (.int (317 : Int32)), .unset] [(.ref r167)]))
    refine Wp.step (fun t k => XS.astore X167.here hx rfl (hb hby at_282) rfl rfl (l' := #[.val (.int p0), .val (.long q1), .second, .val (.int p3), .val (.int p4), .val (.int (1 : Int32)), .val (.ref b84), .val (.ref b90), .val (.ref r98), .val (.ref b106), .val (.ref r130), .val (.int (317 : Int32)), .val (.ref r167)]) rfl k) ?_
    show Wp p e below _ (T167.setTop (mkF m 284 #[.val (.int p0), .val (.long q1), .second, .val (.int p3), .val (.int p4), .val (.int (1 : Int32)), .val (.ref b84), .val (.ref b90), .val (.ref r98), .val (.ref b106), .val (.ref r130), .val (.int (317 : Int32)), .val (.ref r167)] []))
    refine Wp.step (fun t k => XS.aload X167.here hx rfl (hb hby at_284) rfl rfl k) ?_
    show Wp p e below _ (T167.setTop (mkF m 286 #[.val (.int p0), .val (.long q1), .second, .val (.int p3), .val (.int p4), .val (.int (1 : Int32)), .val (.ref b84), .val (.ref b90), .val (.ref r98), .val (.ref b106), .val (.ref r130), .val (.int (317 : Int32)), .val (.ref r167)] [(.ref r167)]))
    obtain ⟨cl173, Ar173, Sz173, Nn173, -⟩ := id B_r167
    refine Wp.step (X167.arraylength hx (by rw [e167]; exact Ar173.1) (State.isArrayOf_alike hZ.alike Ar173.2.1) (g := (mkF m 286 #[.val (.int p0), .val (.long q1), .second, .val (.int p3), .val (.int p4), .val (.int (1 : Int32)), .val (.ref b84), .val (.ref b90), .val (.ref r98), .val (.ref b106), .val (.ref r130), .val (.int (317 : Int32)), .val (.ref r167)] [(.ref r167)])) rfl rfl (hb hby at_286)) ?_
    rw [len_of Sz173 Nn173]
    show Wp p e below _ (T167.setTop (mkF m 287 #[.val (.int p0), .val (.long q1), .second, .val (.int p3), .val (.int p4), .val (.int (1 : Int32)), .val (.ref b84), .val (.ref b90), .val (.ref r98), .val (.ref b106), .val (.ref r130), .val (.int (317 : Int32)), .val (.ref r167)] [(.int (317 : Int32))]))
    refine Wp.step (fun t k => XS.iload X167.here hx rfl (hb hby at_287) rfl k) ?_
    show Wp p e below _ (T167.setTop (mkF m 289 #[.val (.int p0), .val (.long q1), .second, .val (.int p3), .val (.int p4), .val (.int (1 : Int32)), .val (.ref b84), .val (.ref b90), .val (.ref r98), .val (.ref b106), .val (.ref r130), .val (.int (317 : Int32)), .val (.ref r167)] [(.int (317 : Int32)), (.int (317 : Int32))]))
    refine Wp.step (fun t k => XS.icmpNo X167.here hx rfl (hb hby at_289) rfl (teq (show (317 : Int32) = (317 : Int32) by decide)).2 k) ?_
    show Wp p e below _ (T167.setTop (mkF m 292 #[.val (.int p0), .val (.long q1), .second, .val (.int p3), .val (.int p4), .val (.int (1 : Int32)), .val (.ref b84), .val (.ref b90), .val (.ref r98), .val (.ref b106), .val (.ref r130), .val (.int (317 : Int32)), .val (.ref r167)] []))
    refine Wp.step (fun t k => XS.aload X167.here hx rfl (hb hby at_292) rfl rfl k) ?_
    show Wp p e below _ (T167.setTop (mkF m 294 #[.val (.int p0), .val (.long q1), .second, .val (.int p3), .val (.int p4), .val (.int (1 : Int32)), .val (.ref b84), .val (.ref b90), .val (.ref r98), .val (.ref b106), .val (.ref r130), .val (.int (317 : Int32)), .val (.ref r167)] [(.ref r167)]))
    refine Wp.step (fun t k => XS.iconst X167.here hx rfl (hb hby at_294) k) ?_
    show Wp p e below _ (T167.setTop (mkF m 295 #[.val (.int p0), .val (.long q1), .second, .val (.int p3), .val (.int p4), .val (.int (1 : Int32)), .val (.ref b84), .val (.ref b90), .val (.ref r98), .val (.ref b106), .val (.ref r130), .val (.int (317 : Int32)), .val (.ref r167)] [(.int (0 : Int32)), (.ref r167)]))
    obtain ⟨cl175, Ar175, Sz175, Nn175, El175⟩ := id B_r167
    have hin175 : ¬ ((0 : Int32) < 0 ∨ cl175.slots.size ≤ ((0 : Int32)).toNatClampNeg) := inb_of Sz175 ⟨by decide, by decide⟩
    have hat175 : cl175.slots[((0 : Int32)).toNatClampNeg]? = some (.int ((own_copy (own_w1 (own_copy (own_upd (own_upd (fun _ => (0 : Int32)) ((0 : Int32)).toNatClampNeg (p3.toInt8.toInt32)) ((299 : Int32)).toNatClampNeg ((p3 >>> ((8 : Int32) &&& 31)).toInt8.toInt32)) (own_copy (own_w4 (own_w4 (own_w4 (own_w4 (fun _ => (0 : Int32)) (0 : Int32) p0) (4 : Int32) (q1 >>> ((32 : Int32) &&& 0x3f).toInt64).toInt32) (8 : Int32) q1.toInt32) (12 : Int32) (300 : Int32)) (fun _ => (0 : Int32)) (0 : Int32).toNatClampNeg (0 : Int32).toNatClampNeg (own_min (256 : Int32) (512 : Int32)).toNatClampNeg) (0 : Int32).toNatClampNeg (16 : Int32).toNatClampNeg (300 : Int32).toNatClampNeg) (316 : Int32) p3) (fun _ => (0 : Int32)) (0 : Int32).toNatClampNeg (0 : Int32).toNatClampNeg (own_min (512 : Int32) (317 : Int32)).toNatClampNeg) ((0 : Int32)).toNatClampNeg)) := (El175 _ (by have q := Nat.lt_of_not_le fun q => hin175 (Or.inr q); rw [Sz175] at q; exact q)).1
    rw [show ((own_copy (own_w1 (own_copy (own_upd (own_upd (fun _ => (0 : Int32)) ((0 : Int32)).toNatClampNeg (p3.toInt8.toInt32)) ((299 : Int32)).toNatClampNeg ((p3 >>> ((8 : Int32) &&& 31)).toInt8.toInt32)) (own_copy (own_w4 (own_w4 (own_w4 (own_w4 (fun _ => (0 : Int32)) (0 : Int32) p0) (4 : Int32) (q1 >>> ((32 : Int32) &&& 0x3f).toInt64).toInt32) (8 : Int32) q1.toInt32) (12 : Int32) (300 : Int32)) (fun _ => (0 : Int32)) (0 : Int32).toNatClampNeg (0 : Int32).toNatClampNeg (own_min (256 : Int32) (512 : Int32)).toNatClampNeg) (0 : Int32).toNatClampNeg (16 : Int32).toNatClampNeg (300 : Int32).toNatClampNeg) (316 : Int32) p3) (fun _ => (0 : Int32)) (0 : Int32).toNatClampNeg (0 : Int32).toNatClampNeg (own_min (512 : Int32) (317 : Int32)).toNatClampNeg) ((0 : Int32)).toNatClampNeg) = ((p0 >>> ((24 : Int32) &&& 31)).toInt8.toInt32) from rfl] at hat175
    refine Wp.step (X167.baloadBytes hx (j := (0 : Int32)) (v := (.int ((p0 >>> ((24 : Int32) &&& 31)).toInt8.toInt32))) (by rw [e167]; exact Ar175.1) (State.isArrayOf_alike hZ.alike Ar175.2.1) Ar175.2.2 hin175 hat175 (g := (mkF m 295 #[.val (.int p0), .val (.long q1), .second, .val (.int p3), .val (.int p4), .val (.int (1 : Int32)), .val (.ref b84), .val (.ref b90), .val (.ref r98), .val (.ref b106), .val (.ref r130), .val (.int (317 : Int32)), .val (.ref r167)] [(.int (0 : Int32)), (.ref r167)])) rfl rfl (hb hby at_295)) ?_
    show Wp p e below _ (T167.setTop (mkF m 296 #[.val (.int p0), .val (.long q1), .second, .val (.int p3), .val (.int p4), .val (.int (1 : Int32)), .val (.ref b84), .val (.ref b90), .val (.ref r98), .val (.ref b106), .val (.ref r130), .val (.int (317 : Int32)), .val (.ref r167)] [(.int ((p0 >>> ((24 : Int32) &&& 31)).toInt8.toInt32))]))
    refine Wp.step (fun t k => XS.iloadN X167.here hx rfl (hb hby at_296) rfl k) ?_
    show Wp p e below _ (T167.setTop (mkF m 297 #[.val (.int p0), .val (.long q1), .second, .val (.int p3), .val (.int p4), .val (.int (1 : Int32)), .val (.ref b84), .val (.ref b90), .val (.ref r98), .val (.ref b106), .val (.ref r130), .val (.int (317 : Int32)), .val (.ref r167)] [(.int p0), (.int ((p0 >>> ((24 : Int32) &&& 31)).toInt8.toInt32))]))
    refine Wp.step (fun t k => XS.bipush X167.here hx rfl (hb hby at_297) k) ?_
    show Wp p e below _ (T167.setTop (mkF m 299 #[.val (.int p0), .val (.long q1), .second, .val (.int p3), .val (.int p4), .val (.int (1 : Int32)), .val (.ref b84), .val (.ref b90), .val (.ref r98), .val (.ref b106), .val (.ref r130), .val (.int (317 : Int32)), .val (.ref r167)] [(.int (24 : Int32)), (.int p0), (.int ((p0 >>> ((24 : Int32) &&& 31)).toInt8.toInt32))]))
    refine Wp.step (fun t k => XS.iushr X167.here hx rfl (hb hby at_299) rfl k) ?_
    show Wp p e below _ (T167.setTop (mkF m 300 #[.val (.int p0), .val (.long q1), .second, .val (.int p3), .val (.int p4), .val (.int (1 : Int32)), .val (.ref b84), .val (.ref b90), .val (.ref r98), .val (.ref b106), .val (.ref r130), .val (.int (317 : Int32)), .val (.ref r167)] [(.int ((p0.toUInt32 >>> ((24 : Int32) &&& 31).toUInt32).toInt32)), (.int ((p0 >>> ((24 : Int32) &&& 31)).toInt8.toInt32))]))
    refine Wp.step (fun t k => XS.i2b X167.here hx rfl (hb hby at_300) rfl k) ?_
    show Wp p e below _ (T167.setTop (mkF m 301 #[.val (.int p0), .val (.long q1), .second, .val (.int p3), .val (.int p4), .val (.int (1 : Int32)), .val (.ref b84), .val (.ref b90), .val (.ref r98), .val (.ref b106), .val (.ref r130), .val (.int (317 : Int32)), .val (.ref r167)] [(.int (((p0.toUInt32 >>> ((24 : Int32) &&& 31).toUInt32).toInt32).toInt8.toInt32)), (.int ((p0 >>> ((24 : Int32) &&& 31)).toInt8.toInt32))]))
    refine Wp.step (fun t k => XS.icmpNo X167.here hx rfl (hb hby at_301) rfl (teq (show ((p0 >>> ((24 : Int32) &&& 31)).toInt8.toInt32) = (((p0.toUInt32 >>> ((24 : Int32) &&& 31).toUInt32).toInt32).toInt8.toInt32) from own_sh _ 24 24 (by decide) (by decide) (by decide))).2 k) ?_
    show Wp p e below _ (T167.setTop (mkF m 304 #[.val (.int p0), .val (.long q1), .second, .val (.int p3), .val (.int p4), .val (.int (1 : Int32)), .val (.ref b84), .val (.ref b90), .val (.ref r98), .val (.ref b106), .val (.ref r130), .val (.int (317 : Int32)), .val (.ref r167)] []))
    refine Wp.step (fun t k => XS.aload X167.here hx rfl (hb hby at_304) rfl rfl k) ?_
    show Wp p e below _ (T167.setTop (mkF m 306 #[.val (.int p0), .val (.long q1), .second, .val (.int p3), .val (.int p4), .val (.int (1 : Int32)), .val (.ref b84), .val (.ref b90), .val (.ref r98), .val (.ref b106), .val (.ref r130), .val (.int (317 : Int32)), .val (.ref r167)] [(.ref r167)]))
    refine Wp.step (fun t k => XS.iload X167.here hx rfl (hb hby at_306) rfl k) ?_
    show Wp p e below _ (T167.setTop (mkF m 308 #[.val (.int p0), .val (.long q1), .second, .val (.int p3), .val (.int p4), .val (.int (1 : Int32)), .val (.ref b84), .val (.ref b90), .val (.ref r98), .val (.ref b106), .val (.ref r130), .val (.int (317 : Int32)), .val (.ref r167)] [(.int (317 : Int32)), (.ref r167)]))
    refine Wp.step (fun t k => XS.iconst X167.here hx rfl (hb hby at_308) k) ?_
    show Wp p e below _ (T167.setTop (mkF m 309 #[.val (.int p0), .val (.long q1), .second, .val (.int p3), .val (.int p4), .val (.int (1 : Int32)), .val (.ref b84), .val (.ref b90), .val (.ref r98), .val (.ref b106), .val (.ref r130), .val (.int (317 : Int32)), .val (.ref r167)] [(.int (1 : Int32)), (.int (317 : Int32)), (.ref r167)]))
    refine Wp.step (fun t k => XS.isub X167.here hx rfl (hb hby at_309) rfl k) ?_
    show Wp p e below _ (T167.setTop (mkF m 310 #[.val (.int p0), .val (.long q1), .second, .val (.int p3), .val (.int p4), .val (.int (1 : Int32)), .val (.ref b84), .val (.ref b90), .val (.ref r98), .val (.ref b106), .val (.ref r130), .val (.int (317 : Int32)), .val (.ref r167)] [(.int (316 : Int32)), (.ref r167)]))
    obtain ⟨cl177, Ar177, Sz177, Nn177, El177⟩ := id B_r167
    have hin177 : ¬ ((316 : Int32) < 0 ∨ cl177.slots.size ≤ ((316 : Int32)).toNatClampNeg) := inb_of Sz177 ⟨by decide, by decide⟩
    have hat177 : cl177.slots[((316 : Int32)).toNatClampNeg]? = some (.int ((own_copy (own_w1 (own_copy (own_upd (own_upd (fun _ => (0 : Int32)) ((0 : Int32)).toNatClampNeg (p3.toInt8.toInt32)) ((299 : Int32)).toNatClampNeg ((p3 >>> ((8 : Int32) &&& 31)).toInt8.toInt32)) (own_copy (own_w4 (own_w4 (own_w4 (own_w4 (fun _ => (0 : Int32)) (0 : Int32) p0) (4 : Int32) (q1 >>> ((32 : Int32) &&& 0x3f).toInt64).toInt32) (8 : Int32) q1.toInt32) (12 : Int32) (300 : Int32)) (fun _ => (0 : Int32)) (0 : Int32).toNatClampNeg (0 : Int32).toNatClampNeg (own_min (256 : Int32) (512 : Int32)).toNatClampNeg) (0 : Int32).toNatClampNeg (16 : Int32).toNatClampNeg (300 : Int32).toNatClampNeg) (316 : Int32) p3) (fun _ => (0 : Int32)) (0 : Int32).toNatClampNeg (0 : Int32).toNatClampNeg (own_min (512 : Int32) (317 : Int32)).toNatClampNeg) ((316 : Int32)).toNatClampNeg)) := (El177 _ (by have q := Nat.lt_of_not_le fun q => hin177 (Or.inr q); rw [Sz177] at q; exact q)).1
    rw [show ((own_copy (own_w1 (own_copy (own_upd (own_upd (fun _ => (0 : Int32)) ((0 : Int32)).toNatClampNeg (p3.toInt8.toInt32)) ((299 : Int32)).toNatClampNeg ((p3 >>> ((8 : Int32) &&& 31)).toInt8.toInt32)) (own_copy (own_w4 (own_w4 (own_w4 (own_w4 (fun _ => (0 : Int32)) (0 : Int32) p0) (4 : Int32) (q1 >>> ((32 : Int32) &&& 0x3f).toInt64).toInt32) (8 : Int32) q1.toInt32) (12 : Int32) (300 : Int32)) (fun _ => (0 : Int32)) (0 : Int32).toNatClampNeg (0 : Int32).toNatClampNeg (own_min (256 : Int32) (512 : Int32)).toNatClampNeg) (0 : Int32).toNatClampNeg (16 : Int32).toNatClampNeg (300 : Int32).toNatClampNeg) (316 : Int32) p3) (fun _ => (0 : Int32)) (0 : Int32).toNatClampNeg (0 : Int32).toNatClampNeg (own_min (512 : Int32) (317 : Int32)).toNatClampNeg) ((316 : Int32)).toNatClampNeg) = (p3.toInt8.toInt32) from rfl] at hat177
    refine Wp.step (X167.baloadBytes hx (j := (316 : Int32)) (v := (.int (p3.toInt8.toInt32))) (by rw [e167]; exact Ar177.1) (State.isArrayOf_alike hZ.alike Ar177.2.1) Ar177.2.2 hin177 hat177 (g := (mkF m 310 #[.val (.int p0), .val (.long q1), .second, .val (.int p3), .val (.int p4), .val (.int (1 : Int32)), .val (.ref b84), .val (.ref b90), .val (.ref r98), .val (.ref b106), .val (.ref r130), .val (.int (317 : Int32)), .val (.ref r167)] [(.int (316 : Int32)), (.ref r167)])) rfl rfl (hb hby at_310)) ?_
    show Wp p e below _ (T167.setTop (mkF m 311 #[.val (.int p0), .val (.long q1), .second, .val (.int p3), .val (.int p4), .val (.int (1 : Int32)), .val (.ref b84), .val (.ref b90), .val (.ref r98), .val (.ref b106), .val (.ref r130), .val (.int (317 : Int32)), .val (.ref r167)] [(.int (p3.toInt8.toInt32))]))
    refine Wp.step (fun t k => XS.iloadN X167.here hx rfl (hb hby at_311) rfl k) ?_
    show Wp p e below _ (T167.setTop (mkF m 312 #[.val (.int p0), .val (.long q1), .second, .val (.int p3), .val (.int p4), .val (.int (1 : Int32)), .val (.ref b84), .val (.ref b90), .val (.ref r98), .val (.ref b106), .val (.ref r130), .val (.int (317 : Int32)), .val (.ref r167)] [(.int p3), (.int (p3.toInt8.toInt32))]))
    refine Wp.step (fun t k => XS.i2b X167.here hx rfl (hb hby at_312) rfl k) ?_
    show Wp p e below _ (T167.setTop (mkF m 313 #[.val (.int p0), .val (.long q1), .second, .val (.int p3), .val (.int p4), .val (.int (1 : Int32)), .val (.ref b84), .val (.ref b90), .val (.ref r98), .val (.ref b106), .val (.ref r130), .val (.int (317 : Int32)), .val (.ref r167)] [(.int (p3.toInt8.toInt32)), (.int (p3.toInt8.toInt32))]))
    refine Wp.step (fun t k => XS.icmpNo X167.here hx rfl (hb hby at_313) rfl (teq (show (p3.toInt8.toInt32) = (p3.toInt8.toInt32) from rfl)).2 k) ?_
    show Wp p e below _ (T167.setTop (mkF m 316 #[.val (.int p0), .val (.long q1), .second, .val (.int p3), .val (.int p4), .val (.int (1 : Int32)), .val (.ref b84), .val (.ref b90), .val (.ref r98), .val (.ref b106), .val (.ref r130), .val (.int (317 : Int32)), .val (.ref r167)] []))
    refine Wp.step (fun t k => XS.iconst X167.here hx rfl (hb hby at_316) k) ?_
    show Wp p e below _ (T167.setTop (mkF m 317 #[.val (.int p0), .val (.long q1), .second, .val (.int p3), .val (.int p4), .val (.int (1 : Int32)), .val (.ref b84), .val (.ref b90), .val (.ref r98), .val (.ref b106), .val (.ref r130), .val (.int (317 : Int32)), .val (.ref r167)] [(.int (1 : Int32))]))
    refine Wp.step (fun t k => XS.goto X167.here hx rfl (pc0 := 317) (pc' := 321) rfl (hb hby at_317) (by decide) (by decide) k) ?_
    show Wp p e below _ (T167.setTop (mkF m 321 #[.val (.int p0), .val (.long q1), .second, .val (.int p3), .val (.int p4), .val (.int (1 : Int32)), .val (.ref b84), .val (.ref b90), .val (.ref r98), .val (.ref b106), .val (.ref r130), .val (.int (317 : Int32)), .val (.ref r167)] [(.int (1 : Int32))]))
    refine Wp.retN X167 hx (t := .boolean) Bd.returns (by simp) (hb hby at_321) hlk ?_ (by decide) (by decide)
    show Q0 Z p0 q1 p3 p4 h0 n0 (some (.int (nar .boolean (1 : Int32)))) T167.heap _
    rw [e167]
    exact ⟨rfl, N167⟩
set_option maxRecDepth 65536 in
set_option maxHeartbeats 40000000 in
theorem comes_1 {Post : Tables → Env → Array Value → State → Outcome → State → Prop} (hpost : ∀ tb e args s v u, (limb_1_1.after args s (.returned v) u = true ∧ limb_1_2.after args s (.returned v) u = true ∧ True) → FrameEnd s (.returned v) u (Jvm.fieldLocs frame_1_writes args s ++ Jvm.arrayLocs frame_1_arrays args s ++ Jvm.staticLocs frame_1_statics s) 32 4032 → Post tb e args s (.returned v) u) :
    ArmFor flags0 classFile x code maxLocals ret World_1 tables_1 room_1 Calls_1 rest_1 Pre_1 Post := by
  intro l hfl _ _ p e ha hc hk s m args below hf hA hF happ hP
  obtain ⟨hcalls, hrest, hpre⟩ := hP
  obtain ⟨-, -, -, hnamed, -, -, -, hat⟩ := (Spec.applies_iff hf).mp happ
  obtain ⟨hg, hn⟩ := and_e (Cond.before_iff.mp (show (Jvm.Cond.and given_1 narrow_1).before args s = true from hpre))
  obtain ⟨hcnt, hr0⟩ := and_e hg
  obtain ⟨hi0, hr1⟩ := and_e hr0
  obtain ⟨hi1, hr2⟩ := and_e hr1
  obtain ⟨hi2, hi3⟩ := and_e hr2
  obtain ⟨w0, w1, w2, w3, rfl⟩ : ∃ w0 w1 w2 w3 : Value, args = #[w0, w1, w2, w3] := by
    have hs : args.size = 4 := by simpa [Cond.value, given_1] using hcnt
    obtain ⟨L⟩ := args
    match L, hs with
    | [w0, w1, w2, w3], _ => exact ⟨w0, w1, w2, w3, rfl⟩
  have hw := fun d (hd : d ∈ tables_1) => atoms_spec (ws := Jvm.Cond.code x code maxLocals ret :: tables_1) hat d (List.mem_cons_of_mem _ hd)
  have hfit : Fit s := fun {y c} hc i hi => by
    obtain ⟨ha, rfl⟩ := Array.getElem?_eq_some_iff.mp hc
    have q := List.all_eq_true.mp ((Array.all_eq_true_iff_forall_mem.mp hF) _ (Array.getElem_mem ha)) i (List.mem_range.mpr hi)
    simpa [Array.getElem?_eq_getElem hi] using q
  obtain ⟨i0, ei0⟩ := is_v hi0
  obtain rfl : w0 = (.int i0) := Option.some.inj ei0
  obtain ⟨i1, ei1⟩ := isL_v hi1
  obtain rfl : w1 = (.long i1) := Option.some.inj ei1
  obtain ⟨i2, ei2⟩ := is_v hi2
  obtain rfl : w2 = (.int i2) := Option.some.inj ei2
  obtain ⟨i3, ei3⟩ := is_v hi3
  obtain rfl : w3 = (.int i3) := Option.some.inj ei3
  obtain ⟨n, o, h1, h2, h3, _, L, rfl, ⟨rfl, N⟩, hq⟩ := rm0 l s _ hw tables_1 i0 i1 i2 i3 s.heap s.heap.size (Nat.le_refl _)  p e ha hc hk s m _ below hf ((Spec.applies_iff_loose hf).mp happ).1 ⟨rfl, State.Warmed39.refl s, rfl⟩ trivial
  refine ⟨n, _, h1, h2, h3, hpost _ _ _ _ _ _ ⟨Cond.after_iff.mpr rfl, Cond.after_iff.mpr (eq_i res_at (Term.int_eval (1)) rfl), trivial⟩ ⟨hq.1, hq.2.1, (hq.2.2.sift fun y hy => Or.inr (N y hy)).mono (by decide) (by decide)⟩⟩
theorem main_1_1 : Claimed_1_1 := comes_1 fun _ _ _ _ _ _ h hF => ⟨h.1, hF⟩
theorem main_1_2 : Claimed_1_2 := comes_1 fun _ _ _ _ _ _ h hF => ⟨h.2.1, hF⟩
end Jvm.Pilot.@@N@@
namespace Jvm.Pilot.@@N@@
open Jvm Jvm.ClassFile Sem Op Lib Jvm.Free Jvm.Stand Jvm.Pilot.@@N@@.Jvm.D
/-! MADE BY PROGRAM (witnessworld.py) out of the Statement's table words and the real class files: 12 classes; the members and pool entries that the words name. The judged class is class 1, her method 1. -/
namespace start1
open Jvm.ClassFile
def u (s : String) : CpInfo := .utf8 (stringToUtf16 s)
/-- a pool by its gaps: so many unusable entries, then the entry; so many at the end -/
def gap : Nat → List CpInfo → List CpInfo
  | 0, r => r
  | n + 1, r => .unusable :: gap n r
def poolList (es : List (Nat × CpInfo)) (last : Nat) : List CpInfo := es.foldr (fun e r => gap e.1 (e.2 :: r)) (gap last [])
def pool (es : List (Nat × CpInfo)) (last : Nat) : Array CpInfo := ⟨poolList es last⟩
def fileOf (pool : Array CpInfo) (this : Nat) (attrs : Array Attribute := #[]) (ms : Array MethodInfo := #[]) (fl : Nat := 33) (sup : Nat := 0) (ifs : Array Nat := #[]) (fds : Array FieldInfo := #[]) : ClassFile where
  minorVersion := 0
  majorVersion := 65
  constantPool := pool
  accessFlags := fl
  thisClass := this
  superClass := sup
  interfaces := ifs
  fields := fds
  methods := ms
  attributes := attrs
def plain (name : String) (sup : Option ClassId) : Class where
  name := name
  kind := .ordinary
  loader := none
  accessFlags := 33
  super := sup
  interfaces := #[]
  cf := none
  fields := #[]
  methods := #[]
  instanceTypes := #[]
  staticTypes := #[]
  resolved := #[]
  callSites := []
  init := .initialized
  statics := none
  mirror := none

def pool0 : Array CpInfo := pool [(5, u "<init>"), (0, u "()V"), (1, .class_ 10), (1, u "java/lang/Object")] 113

def k0c0 : Code := { maxStack := 0, maxLocals := 1, code := object_method_1_code, exceptionTable := #[], attributes := #[] }
def k0m0 : Method := { name := "<init>", desc := "()V", sig := { parameters := [], returnType := none }, accessFlags := 1, code := some k0c0 }
/-- java/lang/Object -/
def k0 : Class := { plain "java/lang/Object" none with
  accessFlags := 33
  interfaces := #[]
  cf := some (fileOf pool0 8 #[] #[{ accessFlags := 1, nameIndex := 5, descriptorIndex := 6, attributes := #[] }] 33 0 #[] #[])
  fields := #[]
  methods := #[k0m0]
  instanceTypes := #[]
  staticTypes := #[]
  resolved := Array.replicate 124 none
  statics := none }

def pool1 : Array CpInfo := pool [(2, .class_ 4), (0, .nameAndType 5 6), (0, u "java/lang/Object"), (0, u "<init>"), (0, u "()V"), (0, .class_ 8), (0, u "com/example/ulinzi/ulinzi/protocol/ProtocolWriter"), (0, .methodref 7 3), (0, .methodref 7 11), (0, .nameAndType 12 13), (0, u "toByteArray"), (0, u "()[B"), (0, .methodref 7 15), (0, .nameAndType 16 17), (0, u "writeInt32"), (0, u "(I)Lcom/example/ulinzi/ulinzi/protocol/ProtocolWriter;"), (0, .methodref 7 19), (0, .nameAndType 20 21), (0, u "writeInt64"), (0, u "(J)Lcom/example/ulinzi/ulinzi/protocol/ProtocolWriter;"), (0, .methodref 7 23), (0, .nameAndType 24 25), (0, u "writeBytes"), (0, u "([B)Lcom/example/ulinzi/ulinzi/protocol/ProtocolWriter;"), (0, .methodref 7 27), (0, .nameAndType 28 17), (0, u "writeInt8"), (0, .methodref 7 30), (0, .nameAndType 31 32), (0, u "size"), (0, u "()I"), (0, .methodref 34 35), (0, .class_ 36), (0, .nameAndType 37 38), (0, u "com/example/ulinzi/ulinzi/protocol/ProtocolWriterToByteArrayPinLaw"), (0, u "int32At"), (0, u "([BII)Z"), (2, u "law"), (0, u "(IJII)Z")] 5

def k1m0 : Method := { name := "<init>", desc := "()V", sig := { parameters := [], returnType := none }, accessFlags := 1, code := none }
def k1c1 : Code := { maxStack := 5, maxLocals := 13, code := code, exceptionTable := #[], attributes := #[] }
def k1m1 : Method := { name := "law", desc := "(IJII)Z", sig := { parameters := [.int, .long, .int, .int], returnType := some .boolean }, accessFlags := 9, code := some k1c1 }
def k1c2 : Code := { maxStack := 3, maxLocals := 3, code := method_3_code, exceptionTable := #[], attributes := #[] }
def k1m2 : Method := { name := "int32At", desc := "([BII)Z", sig := { parameters := [(.array .byte), .int, .int], returnType := some .boolean }, accessFlags := 10, code := some k1c2 }
/-- com/example/ulinzi/ulinzi/protocol/ProtocolWriterToByteArrayPinLaw -/
def k1 : Class := { plain "com/example/ulinzi/ulinzi/protocol/ProtocolWriterToByteArrayPinLaw" (some 0) with
  accessFlags := 49
  interfaces := #[]
  cf := some (fileOf pool1 34 #[] #[{ accessFlags := 1, nameIndex := 5, descriptorIndex := 6, attributes := #[] }, { accessFlags := 9, nameIndex := 41, descriptorIndex := 42, attributes := #[] }, { accessFlags := 10, nameIndex := 37, descriptorIndex := 38, attributes := #[] }] 49 2 #[] #[])
  fields := #[]
  methods := #[k1m0, k1m1, k1m2]
  instanceTypes := #[]
  staticTypes := #[]
  resolved := Array.replicate 48 none
  statics := none }

def pool2 : Array CpInfo := pool [(1, .methodref 2 3), (0, .class_ 4), (0, .nameAndType 5 6), (0, u "java/lang/Object"), (0, u "<init>"), (0, u "()V"), (0, .fieldref 8 9), (0, .class_ 10), (0, .nameAndType 11 12), (0, u "com/example/ulinzi/ulinzi/protocol/ProtocolWriter"), (0, u "bytes"), (0, u "[B"), (0, .methodref 8 14), (0, .nameAndType 15 16), (0, u "ensure"), (0, u "(I)V"), (0, .fieldref 8 18), (0, .nameAndType 19 20), (0, u "size"), (0, u "I"), (0, .methodref 8 22), (0, .nameAndType 23 24), (0, u "writeInt32"), (0, u "(I)Lcom/example/ulinzi/ulinzi/protocol/ProtocolWriter;"), (8, u "writeInt64"), (0, u "(J)Lcom/example/ulinzi/ulinzi/protocol/ProtocolWriter;"), (2, u "writeInt8"), (26, .methodref 8 65), (0, .nameAndType 66 67), (0, u "writeRaw"), (0, u "([B)Lcom/example/ulinzi/ulinzi/protocol/ProtocolWriter;"), (38, .methodref 107 108), (0, .class_ 109), (0, .nameAndType 110 111), (0, u "java/util/Arrays"), (0, u "copyOf"), (0, u "([BI)[B"), (17, .methodref 130 131), (0, .class_ 132), (0, .nameAndType 133 134), (0, u "java/lang/System"), (0, u "arraycopy"), (0, u "(Ljava/lang/Object;ILjava/lang/Object;II)V"), (0, .methodref 136 137), (0, .class_ 138), (0, .nameAndType 139 140), (0, u "java/lang/Math"), (0, u "max"), (0, u "(II)I"), (13, u "writeBytes"), (2, u "()I"), (0, u "toByteArray"), (0, u "()[B")] 18

def k2c0 : Code := { maxStack := 2, maxLocals := 1, code := prog_89_method_1_code, exceptionTable := #[], attributes := #[] }
def k2m0 : Method := { name := "<init>", desc := "()V", sig := { parameters := [], returnType := none }, accessFlags := 1, code := some k2c0 }
def k2c1 : Code := { maxStack := 5, maxLocals := 2, code := prog_89_method_2_code, exceptionTable := #[], attributes := #[] }
def k2m1 : Method := { name := "writeInt8", desc := "(I)Lcom/example/ulinzi/ulinzi/protocol/ProtocolWriter;", sig := { parameters := [.int], returnType := some (.object "com/example/ulinzi/ulinzi/protocol/ProtocolWriter") }, accessFlags := 1, code := some k2c1 }
def k2c2 : Code := { maxStack := 5, maxLocals := 2, code := prog_89_method_4_code, exceptionTable := #[], attributes := #[] }
def k2m2 : Method := { name := "writeInt32", desc := "(I)Lcom/example/ulinzi/ulinzi/protocol/ProtocolWriter;", sig := { parameters := [.int], returnType := some (.object "com/example/ulinzi/ulinzi/protocol/ProtocolWriter") }, accessFlags := 1, code := some k2c2 }
def k2c3 : Code := { maxStack := 4, maxLocals := 3, code := prog_89_method_5_code, exceptionTable := #[], attributes := #[] }
def k2m3 : Method := { name := "writeInt64", desc := "(J)Lcom/example/ulinzi/ulinzi/protocol/ProtocolWriter;", sig := { parameters := [.long], returnType := some (.object "com/example/ulinzi/ulinzi/protocol/ProtocolWriter") }, accessFlags := 1, code := some k2c3 }
def k2c4 : Code := { maxStack := 2, maxLocals := 2, code := prog_89_method_16_code, exceptionTable := #[], attributes := #[] }
def k2m4 : Method := { name := "writeBytes", desc := "([B)Lcom/example/ulinzi/ulinzi/protocol/ProtocolWriter;", sig := { parameters := [(.array .byte)], returnType := some (.object "com/example/ulinzi/ulinzi/protocol/ProtocolWriter") }, accessFlags := 1, code := some k2c4 }
def k2c5 : Code := { maxStack := 1, maxLocals := 1, code := prog_89_method_23_code, exceptionTable := #[], attributes := #[] }
def k2m5 : Method := { name := "size", desc := "()I", sig := { parameters := [], returnType := some .int }, accessFlags := 1, code := some k2c5 }
def k2c6 : Code := { maxStack := 2, maxLocals := 1, code := prog_89_method_24_code, exceptionTable := #[], attributes := #[] }
def k2m6 : Method := { name := "toByteArray", desc := "()[B", sig := { parameters := [], returnType := some (.array .byte) }, accessFlags := 1, code := some k2c6 }
def k2c7 : Code := { maxStack := 5, maxLocals := 2, code := prog_89_method_26_code, exceptionTable := #[], attributes := #[] }
def k2m7 : Method := { name := "writeRaw", desc := "([B)Lcom/example/ulinzi/ulinzi/protocol/ProtocolWriter;", sig := { parameters := [(.array .byte)], returnType := some (.object "com/example/ulinzi/ulinzi/protocol/ProtocolWriter") }, accessFlags := 2, code := some k2c7 }
def k2c8 : Code := { maxStack := 5, maxLocals := 2, code := prog_89_method_27_code, exceptionTable := #[], attributes := #[] }
def k2m8 : Method := { name := "ensure", desc := "(I)V", sig := { parameters := [.int], returnType := none }, accessFlags := 2, code := some k2c8 }
/-- com/example/ulinzi/ulinzi/protocol/ProtocolWriter -/
def k2 : Class := { plain "com/example/ulinzi/ulinzi/protocol/ProtocolWriter" (some 0) with
  accessFlags := 33
  interfaces := #[]
  cf := some (fileOf pool2 8 #[] #[{ accessFlags := 1, nameIndex := 5, descriptorIndex := 6, attributes := #[] }, { accessFlags := 1, nameIndex := 37, descriptorIndex := 24, attributes := #[] }, { accessFlags := 1, nameIndex := 23, descriptorIndex := 24, attributes := #[] }, { accessFlags := 1, nameIndex := 33, descriptorIndex := 34, attributes := #[] }, { accessFlags := 1, nameIndex := 154, descriptorIndex := 67, attributes := #[] }, { accessFlags := 1, nameIndex := 19, descriptorIndex := 157, attributes := #[] }, { accessFlags := 1, nameIndex := 158, descriptorIndex := 159, attributes := #[] }, { accessFlags := 2, nameIndex := 66, descriptorIndex := 67, attributes := #[] }, { accessFlags := 2, nameIndex := 15, descriptorIndex := 16, attributes := #[] }] 33 2 #[] #[{ accessFlags := 2, nameIndex := 11, descriptorIndex := 12, attributes := #[] }, { accessFlags := 2, nameIndex := 19, descriptorIndex := 20, attributes := #[] }])
  fields := #[{ name := "bytes", type := (.array .byte), accessFlags := 2, slot := 0, constantValue := 0 }, { name := "size", type := .int, accessFlags := 2, slot := 1, constantValue := 0 }]
  methods := #[k2m0, k2m1, k2m2, k2m3, k2m4, k2m5, k2m6, k2m7, k2m8]
  instanceTypes := #[(.array .byte), .int]
  staticTypes := #[]
  resolved := Array.replicate 178 none
  statics := none }

def pool3 : Array CpInfo := pool [(2, .class_ 4), (1, u "java/lang/Object"), (0, u "<init>"), (0, u "()V"), (7, .class_ 16), (1, u "java/util/Arrays"), (57, .class_ 76), (1, u "java/util/Arrays$NaturalOrder"), (36, .class_ 115), (1, u "java/util/Arrays$LegacyMergeSort"), (1, u "Z"), (32, .methodref 151 152), (0, .class_ 153), (0, .nameAndType 154 155), (0, u "java/lang/System"), (0, u "arraycopy"), (0, u "(Ljava/lang/Object;ILjava/lang/Object;II)V"), (146, u "copyOf"), (1, .methodref 305 306), (0, .class_ 307), (0, .nameAndType 308 309), (0, u "java/lang/Math"), (0, u "min"), (0, u "(II)I"), (65, .class_ 376), (0, u "java/util/Arrays$ArrayList"), (68, u "$assertionsDisabled"), (269, u "MIN_ARRAY_SORT_GRAN"), (0, u "I"), (2, u "INSERTIONSORT_THRESHOLD"), (149, u "([BI)[B"), (105, .class_ 976), (0, u "java/util/Arrays$ArrayItr")] 52

def k3m0 : Method := { name := "<init>", desc := "()V", sig := { parameters := [], returnType := none }, accessFlags := 2, code := none }
def k3c1 : Code := { maxStack := 6, maxLocals := 3, code := jdk_65_method_121_code, exceptionTable := #[], attributes := #[] }
def k3m1 : Method := { name := "copyOf", desc := "([BI)[B", sig := { parameters := [(.array .byte), .int], returnType := some (.array .byte) }, accessFlags := 9, code := some k3c1 }
/-- java/util/Arrays -/
def k3 : Class := { plain "java/util/Arrays" (some 0) with
  accessFlags := 49
  interfaces := #[]
  cf := some (fileOf pool3 14 #[.nestMembers #[975, 375, 113, 74]] #[{ accessFlags := 2, nameIndex := 5, descriptorIndex := 6, attributes := #[] }, { accessFlags := 9, nameIndex := 302, descriptorIndex := 869, attributes := #[] }] 49 2 #[] #[{ accessFlags := 26, nameIndex := 715, descriptorIndex := 716, attributes := #[] }, { accessFlags := 26, nameIndex := 719, descriptorIndex := 716, attributes := #[] }, { accessFlags := 4120, nameIndex := 445, descriptorIndex := 117, attributes := #[] }])
  fields := #[{ name := "MIN_ARRAY_SORT_GRAN", type := .int, accessFlags := 26, slot := 0, constantValue := 0 }, { name := "INSERTIONSORT_THRESHOLD", type := .int, accessFlags := 26, slot := 1, constantValue := 0 }, { name := "$assertionsDisabled", type := .boolean, accessFlags := 4120, slot := 2, constantValue := 0 }]
  methods := #[k3m0, k3m1]
  instanceTypes := #[]
  staticTypes := #[.int, .int, .boolean]
  resolved := Array.replicate 1029 none
  statics := none }

def pool4 : Array CpInfo := pool [(1, .class_ 2), (0, u "java/lang/Math"), (1, .class_ 6), (1, u "java/lang/Object"), (0, u "<init>"), (0, u "()V"), (89, .class_ 100), (1, u "java/lang/Math$RandomNumberGeneratorHolder"), (71, u "negativeZeroFloatBits"), (0, u "J"), (2, u "negativeZeroDoubleBits"), (21, u "max"), (2, u "min"), (43, u "$assertionsDisabled"), (0, u "Z"), (88, u "(II)I"), (2, u "twoToTheDoubleScaleDown"), (0, u "D"), (4, u "twoToTheDoubleScaleUp"), (9, u "E"), (3, u "PI"), (2, u "TAU"), (2, u "DEGREES_TO_RADIANS"), (0, u "RADIANS_TO_DEGREES")] 94

def k4m0 : Method := { name := "<init>", desc := "()V", sig := { parameters := [], returnType := none }, accessFlags := 2, code := none }
def k4c1 : Code := { maxStack := 2, maxLocals := 2, code := jdk_29_method_65_code, exceptionTable := #[], attributes := #[] }
def k4m1 : Method := { name := "max", desc := "(II)I", sig := { parameters := [.int, .int], returnType := some .int }, accessFlags := 9, code := some k4c1 }
def k4c2 : Code := { maxStack := 2, maxLocals := 2, code := jdk_29_method_69_code, exceptionTable := #[], attributes := #[] }
def k4m2 : Method := { name := "min", desc := "(II)I", sig := { parameters := [.int, .int], returnType := some .int }, accessFlags := 9, code := some k4c2 }
/-- java/lang/Math -/
def k4 : Class := { plain "java/lang/Math" (some 0) with
  accessFlags := 49
  interfaces := #[]
  cf := some (fileOf pool4 1 #[.nestMembers #[98]] #[{ accessFlags := 2, nameIndex := 7, descriptorIndex := 8, attributes := #[] }, { accessFlags := 9, nameIndex := 198, descriptorIndex := 335, attributes := #[] }, { accessFlags := 9, nameIndex := 201, descriptorIndex := 335, attributes := #[] }] 49 4 #[] #[{ accessFlags := 25, nameIndex := 354, descriptorIndex := 339, attributes := #[] }, { accessFlags := 25, nameIndex := 358, descriptorIndex := 339, attributes := #[] }, { accessFlags := 25, nameIndex := 361, descriptorIndex := 339, attributes := #[] }, { accessFlags := 26, nameIndex := 364, descriptorIndex := 339, attributes := #[] }, { accessFlags := 26, nameIndex := 365, descriptorIndex := 339, attributes := #[] }, { accessFlags := 26, nameIndex := 172, descriptorIndex := 173, attributes := #[] }, { accessFlags := 26, nameIndex := 176, descriptorIndex := 173, attributes := #[] }, { accessFlags := 8, nameIndex := 344, descriptorIndex := 339, attributes := #[] }, { accessFlags := 8, nameIndex := 338, descriptorIndex := 339, attributes := #[] }, { accessFlags := 4120, nameIndex := 245, descriptorIndex := 246, attributes := #[] }])
  fields := #[{ name := "E", type := .double, accessFlags := 25, slot := 0, constantValue := 0 }, { name := "PI", type := .double, accessFlags := 25, slot := 1, constantValue := 0 }, { name := "TAU", type := .double, accessFlags := 25, slot := 2, constantValue := 0 }, { name := "DEGREES_TO_RADIANS", type := .double, accessFlags := 26, slot := 3, constantValue := 0 }, { name := "RADIANS_TO_DEGREES", type := .double, accessFlags := 26, slot := 4, constantValue := 0 }, { name := "negativeZeroFloatBits", type := .long, accessFlags := 26, slot := 5, constantValue := 0 }, { name := "negativeZeroDoubleBits", type := .long, accessFlags := 26, slot := 6, constantValue := 0 }, { name := "twoToTheDoubleScaleUp", type := .double, accessFlags := 8, slot := 7, constantValue := 0 }, { name := "twoToTheDoubleScaleDown", type := .double, accessFlags := 8, slot := 8, constantValue := 0 }, { name := "$assertionsDisabled", type := .boolean, accessFlags := 4120, slot := 9, constantValue := 0 }]
  methods := #[k4m0, k4m1, k4m2]
  instanceTypes := #[]
  staticTypes := #[.double, .double, .double, .double, .double, .long, .long, .double, .double, .boolean]
  resolved := Array.replicate 460 none
  statics := none }

def pool5 : Array CpInfo := pool [(2, .class_ 4), (1, u "java/lang/Object"), (0, u "<init>"), (0, u "()V"), (1, .class_ 10), (1, u "java/lang/System"), (0, u "allowSecurityManager"), (0, u "I"), (16, u "cons"), (0, u "Ljava/io/Console;"), (77, .class_ 110), (1, u "java/lang/System$CallersHolder"), (43, u "initialErrStream"), (0, u "Ljava/io/PrintStream;"), (19, u "security"), (0, u "Ljava/lang/SecurityManager;"), (31, .class_ 209), (0, u "java/lang/System$1"), (7, u "props"), (0, u "Ljava/util/Properties;"), (2, u "lineSeparator"), (0, u "Ljava/lang/String;"), (96, .class_ 321), (1, u "java/lang/System$LoggerFinder"), (5, .class_ 328), (0, u "java/lang/System$Logger"), (67, u "err"), (2, u "out"), (91, u "notSupportedJnuEncoding"), (15, u "in"), (17, u "initialIn"), (0, u "Ljava/io/InputStream;"), (35, u "bootLayer"), (0, u "Ljava/lang/ModuleLayer;"), (99, .class_ 664), (0, u "java/lang/System$2"), (9, u "NEVER"), (2, u "MAYBE"), (49, u "arraycopy"), (0, u "(Ljava/lang/Object;ILjava/lang/Object;II)V"), (72, .class_ 802), (0, u "java/lang/System$Logger$Level")] 31

def k5m0 : Method := { name := "<init>", desc := "()V", sig := { parameters := [], returnType := none }, accessFlags := 2, code := none }
def k5m1 : Method := { name := "arraycopy", desc := "(Ljava/lang/Object;ILjava/lang/Object;II)V", sig := { parameters := [(.object "java/lang/Object"), .int, (.object "java/lang/Object"), .int, .int], returnType := none }, accessFlags := 265, code := none }
/-- java/lang/System -/
def k5 : Class := { plain "java/lang/System" (some 0) with
  accessFlags := 49
  interfaces := #[]
  cf := some (fileOf pool5 8 #[.nestMembers #[319, 327, 801, 108, 663, 208]] #[{ accessFlags := 2, nameIndex := 5, descriptorIndex := 6, attributes := #[] }, { accessFlags := 265, nameIndex := 727, descriptorIndex := 728, attributes := #[] }] 49 2 #[] #[{ accessFlags := 25, nameIndex := 507, descriptorIndex := 526, attributes := #[] }, { accessFlags := 25, nameIndex := 399, descriptorIndex := 155, attributes := #[] }, { accessFlags := 25, nameIndex := 396, descriptorIndex := 155, attributes := #[] }, { accessFlags := 10, nameIndex := 525, descriptorIndex := 526, attributes := #[] }, { accessFlags := 26, nameIndex := 674, descriptorIndex := 12, attributes := #[] }, { accessFlags := 26, nameIndex := 677, descriptorIndex := 12, attributes := #[] }, { accessFlags := 10, nameIndex := 11, descriptorIndex := 12, attributes := #[] }, { accessFlags := 74, nameIndex := 175, descriptorIndex := 176, attributes := #[] }, { accessFlags := 10, nameIndex := 491, descriptorIndex := 222, attributes := #[] }, { accessFlags := 74, nameIndex := 29, descriptorIndex := 30, attributes := #[] }, { accessFlags := 74, nameIndex := 154, descriptorIndex := 155, attributes := #[] }, { accessFlags := 10, nameIndex := 217, descriptorIndex := 218, attributes := #[] }, { accessFlags := 10, nameIndex := 221, descriptorIndex := 222, attributes := #[] }, { accessFlags := 8, nameIndex := 562, descriptorIndex := 563, attributes := #[] }])
  fields := #[{ name := "in", type := (.object "java/io/InputStream"), accessFlags := 25, slot := 0, constantValue := 0 }, { name := "out", type := (.object "java/io/PrintStream"), accessFlags := 25, slot := 1, constantValue := 0 }, { name := "err", type := (.object "java/io/PrintStream"), accessFlags := 25, slot := 2, constantValue := 0 }, { name := "initialIn", type := (.object "java/io/InputStream"), accessFlags := 10, slot := 3, constantValue := 0 }, { name := "NEVER", type := .int, accessFlags := 26, slot := 4, constantValue := 0 }, { name := "MAYBE", type := .int, accessFlags := 26, slot := 5, constantValue := 0 }, { name := "allowSecurityManager", type := .int, accessFlags := 10, slot := 6, constantValue := 0 }, { name := "security", type := (.object "java/lang/SecurityManager"), accessFlags := 74, slot := 7, constantValue := 0 }, { name := "notSupportedJnuEncoding", type := (.object "java/lang/String"), accessFlags := 10, slot := 8, constantValue := 0 }, { name := "cons", type := (.object "java/io/Console"), accessFlags := 74, slot := 9, constantValue := 0 }, { name := "initialErrStream", type := (.object "java/io/PrintStream"), accessFlags := 74, slot := 10, constantValue := 0 }, { name := "props", type := (.object "java/util/Properties"), accessFlags := 10, slot := 11, constantValue := 0 }, { name := "lineSeparator", type := (.object "java/lang/String"), accessFlags := 10, slot := 12, constantValue := 0 }, { name := "bootLayer", type := (.object "java/lang/ModuleLayer"), accessFlags := 8, slot := 13, constantValue := 0 }]
  methods := #[k5m0, k5m1]
  instanceTypes := #[]
  staticTypes := #[(.object "java/io/InputStream"), (.object "java/io/PrintStream"), (.object "java/io/PrintStream"), (.object "java/io/InputStream"), .int, .int, .int, (.object "java/lang/SecurityManager"), (.object "java/lang/String"), (.object "java/io/Console"), (.object "java/io/PrintStream"), (.object "java/util/Properties"), (.object "java/lang/String"), (.object "java/lang/ModuleLayer")]
  resolved := Array.replicate 834 none
  statics := none }

def pool6 : Array CpInfo := pool [(1, u "java/lang/Cloneable"), (0, .class_ 1), (0, u "java/lang/Object"), (0, .class_ 3)] 3

/-- java/lang/Cloneable -/
def k6 : Class := { plain "java/lang/Cloneable" (some 0) with
  accessFlags := 1537
  interfaces := #[]
  cf := some (fileOf pool6 2 #[] #[] 1537 4 #[] #[])
  fields := #[]
  methods := #[]
  instanceTypes := #[]
  staticTypes := #[]
  resolved := Array.replicate 8 none
  statics := none }

def pool7 : Array CpInfo := pool [(1, u "java/io/Serializable"), (0, .class_ 1), (0, u "java/lang/Object"), (0, .class_ 3)] 3

/-- java/io/Serializable -/
def k7 : Class := { plain "java/io/Serializable" (some 0) with
  accessFlags := 1537
  interfaces := #[]
  cf := some (fileOf pool7 2 #[] #[] 1537 4 #[] #[])
  fields := #[]
  methods := #[]
  instanceTypes := #[]
  staticTypes := #[]
  resolved := Array.replicate 8 none
  statics := none }

/-- the primitive byte -/
def k8 : Class := { plain "byte" none with kind := .primitive 'B', accessFlags := 0x411 }
/-- [B -/
def k9 : Class := { plain "[B" (some 0) with kind := .array 8 .byte, interfaces := #[6, 7], accessFlags := 1041 }

/-- the primitive int -/
def k10 : Class := { plain "int" none with kind := .primitive 'I', accessFlags := 0x411 }
/-- [I -/
def k11 : Class := { plain "[I" (some 0) with kind := .array 10 .int, interfaces := #[6, 7], accessFlags := 1041 }

def heap : Heap := #[]
def classes : Array Class := #[k0, k1, k2, k3, k4, k5, k6, k7, k8, k9, k10, k11]
def interned : List (Array UInt16 × Addr) := []
def slotsUsed : Nat := 0
def theMethod : MethodId := ⟨1, 1⟩
def args0 : Array Value := #[.int 5, .long 300, .int 7, .int 1]
def aboutOver (below : List Frame) : State where
  vm := { classes := classes, interned := interned.toArray }
  heap := heap
  slotsUsed := slotsUsed
  threads := #[{ frames := .invoking theMethod args0 :: below }]
def below0 : List Frame := [.native { method := ⟨0, 0⟩, args := #[] }]
def about1 : State := aboutOver below0
def p0 : Program := .bare "" "" ""
def e0 : Env := launch0.env 0 0 0
theorem w_frames : about1.frames = Frame.invoking theMethod args0 :: below0 := rfl
set_option maxRecDepth 65536 in
theorem w_args : argsFit about1.vm theMethod args0 = true := by decide +kernel
set_option maxRecDepth 65536 in
theorem w_heap : heapFits about1 = true := by decide +kernel
set_option maxRecDepth 65536 in
theorem w_runnable : about1.curStatus? = some .runnable := by decide +kernel
set_option maxRecDepth 65536 in
theorem w_alone : about1.alone = true := by decide +kernel
set_option maxRecDepth 65536 in
theorem w_named : about1.methodNamed? x = some theMethod := by decide +kernel
set_option maxRecDepth 65536 in
theorem w_hears : about1.hears theMethod below0 = true := by decide +kernel
set_option maxRecDepth 65536 in
theorem w_ripe : about1.ripe theMethod args0 below0 = true := by decide +kernel
theorem w_running : about1.status = .running := rfl
set_option maxRecDepth 65536 in
theorem w_room : about1.hasRoom e0.platform room_1 = true :=
  launch0.hasRoom_least _ room_1 (by decide +kernel) (by decide +kernel) (by decide +kernel) (by decide +kernel) (by decide +kernel) (by decide +kernel)
theorem allAtoms_all (ts : List Jvm.Cond) (a : Array Jvm.Value) (st : Jvm.State) : (allAtoms ts).before a st = ts.all (fun c => c.before a st) := by
  induction ts with
  | nil => rfl
  | cons c t ih =>
    show (Jvm.Cond.and c (allAtoms t)).before a st = _
    rw [Jvm.Cond.before_and, ih, List.all_cons]
def words1 : List Jvm.Cond := Jvm.Cond.code x code maxLocals ret :: tables_1
/-- a 'code' word, met by the world's own term for the bytes: nothing is compared byte by byte -/
theorem code_word {y : MethodName} {bytes : ByteArray} {mx : Nat} {rt : Option FieldType} {a : Array Value} {s : State} {m : MethodId} {meth : Method} {c : Code} (h1 : s.methodNamed? y = some m) (h2 : s.vm.method? m = some meth) (h3 : meth.code = some c) (h4 : c.code = bytes)
    (h5 : (c.maxLocals == mx && c.exceptionTable.isEmpty && decide (c.maxStack ≤ mostOperands) && decide (meth.sig.returnType = rt) && !meth.locks && decide (parseMethodDescriptor y.desc = some meth.sig)) = true) : (Jvm.Cond.code y bytes mx rt).before a s = true := by
  simp only [Bool.and_eq_true, beq_iff_eq, Bool.not_eq_true', decide_eq_true_eq] at h5
  obtain ⟨⟨⟨⟨⟨g1, g2⟩, g3⟩, g4⟩, g5⟩, g6⟩ := h5
  simp [Cond.before, Cond.holds, Cond.value, h1, h2, h3, h4, g1, g2, g3, g4, g5, g6]
def isCode : Jvm.Cond → Bool
  | .code _ _ _ _ => true
  | _ => false
theorem all_split {L : List Jvm.Cond} {P : Jvm.Cond → Bool} (h1 : L.all (fun c => isCode c || P c) = true) (h2 : ∀ c ∈ L.filter isCode, P c = true) : L.all P = true := by
  refine List.all_eq_true.mpr fun c hc => ?_
  have h := List.all_eq_true.mp h1 c hc
  rcases Bool.eq_false_or_eq_true (isCode c) with hi | hi
  · exact h2 c (List.mem_filter.mpr ⟨hc, hi⟩)
  · simpa [hi] using h
set_option maxRecDepth 65536 in
theorem w_c0 : (Jvm.Cond.code x code maxLocals ret).before args0 about1 = true := code_word (m := ⟨1, 1⟩) (meth := k1m1) (c := k1c1) (by decide +kernel) rfl rfl rfl (by decide +kernel)
set_option maxRecDepth 65536 in
theorem w_c1 : (Jvm.Cond.code ({ cls := "com/example/ulinzi/ulinzi/protocol/ProtocolWriter", name := "<init>", desc := "()V" } : Jvm.MethodName) prog_89_method_1_code (1 : Nat) (Option.none : Option Jvm.ClassFile.FieldType)).before args0 about1 = true := code_word (m := ⟨2, 0⟩) (meth := k2m0) (c := k2c0) (by decide +kernel) rfl rfl rfl (by decide +kernel)
set_option maxRecDepth 65536 in
theorem w_c2 : (Jvm.Cond.code ({ cls := "java/lang/Object", name := "<init>", desc := "()V" } : Jvm.MethodName) object_method_1_code (1 : Nat) (Option.none : Option Jvm.ClassFile.FieldType)).before args0 about1 = true := code_word (m := ⟨0, 0⟩) (meth := k0m0) (c := k0c0) (by decide +kernel) rfl rfl rfl (by decide +kernel)
set_option maxRecDepth 65536 in
theorem w_c3 : (Jvm.Cond.code ({ cls := "com/example/ulinzi/ulinzi/protocol/ProtocolWriter", name := "toByteArray", desc := "()[B" } : Jvm.MethodName) prog_89_method_24_code (1 : Nat) (Option.some (Jvm.ClassFile.FieldType.array Jvm.ClassFile.FieldType.byte))).before args0 about1 = true := code_word (m := ⟨2, 6⟩) (meth := k2m6) (c := k2c6) (by decide +kernel) rfl rfl rfl (by decide +kernel)
set_option maxRecDepth 65536 in
theorem w_c4 : (Jvm.Cond.code ({ cls := "java/util/Arrays", name := "copyOf", desc := "([BI)[B" } : Jvm.MethodName) jdk_65_method_121_code (3 : Nat) (Option.some (Jvm.ClassFile.FieldType.array Jvm.ClassFile.FieldType.byte))).before args0 about1 = true := code_word (m := ⟨3, 1⟩) (meth := k3m1) (c := k3c1) (by decide +kernel) rfl rfl rfl (by decide +kernel)
set_option maxRecDepth 65536 in
theorem w_c5 : (Jvm.Cond.code ({ cls := "java/lang/Math", name := "min", desc := "(II)I" } : Jvm.MethodName) jdk_29_method_69_code (2 : Nat) (Option.some Jvm.ClassFile.FieldType.int)).before args0 about1 = true := code_word (m := ⟨4, 2⟩) (meth := k4m2) (c := k4c2) (by decide +kernel) rfl rfl rfl (by decide +kernel)
set_option maxRecDepth 65536 in
theorem w_c6 : (Jvm.Cond.code ({ cls := "com/example/ulinzi/ulinzi/protocol/ProtocolWriter", name := "writeInt32", desc := "(I)Lcom/example/ulinzi/ulinzi/protocol/ProtocolWriter;" } : Jvm.MethodName) prog_89_method_4_code (2 : Nat) (Option.some (Jvm.ClassFile.FieldType.object "com/example/ulinzi/ulinzi/protocol/ProtocolWriter"))).before args0 about1 = true := code_word (m := ⟨2, 2⟩) (meth := k2m2) (c := k2c2) (by decide +kernel) rfl rfl rfl (by decide +kernel)
set_option maxRecDepth 65536 in
theorem w_c7 : (Jvm.Cond.code ({ cls := "com/example/ulinzi/ulinzi/protocol/ProtocolWriter", name := "ensure", desc := "(I)V" } : Jvm.MethodName) prog_89_method_27_code (2 : Nat) (Option.none : Option Jvm.ClassFile.FieldType)).before args0 about1 = true := code_word (m := ⟨2, 8⟩) (meth := k2m8) (c := k2c8) (by decide +kernel) rfl rfl rfl (by decide +kernel)
set_option maxRecDepth 65536 in
theorem w_c8 : (Jvm.Cond.code ({ cls := "com/example/ulinzi/ulinzi/protocol/ProtocolWriter", name := "writeInt64", desc := "(J)Lcom/example/ulinzi/ulinzi/protocol/ProtocolWriter;" } : Jvm.MethodName) prog_89_method_5_code (3 : Nat) (Option.some (Jvm.ClassFile.FieldType.object "com/example/ulinzi/ulinzi/protocol/ProtocolWriter"))).before args0 about1 = true := code_word (m := ⟨2, 3⟩) (meth := k2m3) (c := k2c3) (by decide +kernel) rfl rfl rfl (by decide +kernel)
set_option maxRecDepth 65536 in
theorem w_c9 : (Jvm.Cond.code ({ cls := "com/example/ulinzi/ulinzi/protocol/ProtocolWriter", name := "writeInt8", desc := "(I)Lcom/example/ulinzi/ulinzi/protocol/ProtocolWriter;" } : Jvm.MethodName) prog_89_method_2_code (2 : Nat) (Option.some (Jvm.ClassFile.FieldType.object "com/example/ulinzi/ulinzi/protocol/ProtocolWriter"))).before args0 about1 = true := code_word (m := ⟨2, 1⟩) (meth := k2m1) (c := k2c1) (by decide +kernel) rfl rfl rfl (by decide +kernel)
set_option maxRecDepth 65536 in
theorem w_c10 : (Jvm.Cond.code ({ cls := "com/example/ulinzi/ulinzi/protocol/ProtocolWriter", name := "size", desc := "()I" } : Jvm.MethodName) prog_89_method_23_code (1 : Nat) (Option.some Jvm.ClassFile.FieldType.int)).before args0 about1 = true := code_word (m := ⟨2, 5⟩) (meth := k2m5) (c := k2c5) (by decide +kernel) rfl rfl rfl (by decide +kernel)
set_option maxRecDepth 65536 in
theorem w_c11 : (Jvm.Cond.code ({ cls := "com/example/ulinzi/ulinzi/protocol/ProtocolWriterToByteArrayPinLaw", name := "int32At", desc := "([BII)Z" } : Jvm.MethodName) method_3_code (3 : Nat) (Option.some Jvm.ClassFile.FieldType.boolean)).before args0 about1 = true := code_word (m := ⟨1, 2⟩) (meth := k1m2) (c := k1c2) (by decide +kernel) rfl rfl rfl (by decide +kernel)
set_option maxRecDepth 65536 in
theorem w_c12 : (Jvm.Cond.code ({ cls := "com/example/ulinzi/ulinzi/protocol/ProtocolWriter", name := "writeBytes", desc := "([B)Lcom/example/ulinzi/ulinzi/protocol/ProtocolWriter;" } : Jvm.MethodName) prog_89_method_16_code (2 : Nat) (Option.some (Jvm.ClassFile.FieldType.object "com/example/ulinzi/ulinzi/protocol/ProtocolWriter"))).before args0 about1 = true := code_word (m := ⟨2, 4⟩) (meth := k2m4) (c := k2c4) (by decide +kernel) rfl rfl rfl (by decide +kernel)
set_option maxRecDepth 65536 in
theorem w_c13 : (Jvm.Cond.code ({ cls := "com/example/ulinzi/ulinzi/protocol/ProtocolWriter", name := "writeRaw", desc := "([B)Lcom/example/ulinzi/ulinzi/protocol/ProtocolWriter;" } : Jvm.MethodName) prog_89_method_26_code (2 : Nat) (Option.some (Jvm.ClassFile.FieldType.object "com/example/ulinzi/ulinzi/protocol/ProtocolWriter"))).before args0 about1 = true := code_word (m := ⟨2, 7⟩) (meth := k2m7) (c := k2c7) (by decide +kernel) rfl rfl rfl (by decide +kernel)
set_option maxRecDepth 65536 in
theorem w_c14 : (Jvm.Cond.code ({ cls := "java/lang/Math", name := "max", desc := "(II)I" } : Jvm.MethodName) jdk_29_method_65_code (2 : Nat) (Option.some Jvm.ClassFile.FieldType.int)).before args0 about1 = true := code_word (m := ⟨4, 1⟩) (meth := k4m1) (c := k4c1) (by decide +kernel) rfl rfl rfl (by decide +kernel)
def codes1 : List Jvm.Cond := [Jvm.Cond.code x code maxLocals ret, Jvm.Cond.code ({ cls := "com/example/ulinzi/ulinzi/protocol/ProtocolWriter", name := "<init>", desc := "()V" } : Jvm.MethodName) prog_89_method_1_code (1 : Nat) (Option.none : Option Jvm.ClassFile.FieldType), Jvm.Cond.code ({ cls := "java/lang/Object", name := "<init>", desc := "()V" } : Jvm.MethodName) object_method_1_code (1 : Nat) (Option.none : Option Jvm.ClassFile.FieldType), Jvm.Cond.code ({ cls := "com/example/ulinzi/ulinzi/protocol/ProtocolWriter", name := "toByteArray", desc := "()[B" } : Jvm.MethodName) prog_89_method_24_code (1 : Nat) (Option.some (Jvm.ClassFile.FieldType.array Jvm.ClassFile.FieldType.byte)), Jvm.Cond.code ({ cls := "java/util/Arrays", name := "copyOf", desc := "([BI)[B" } : Jvm.MethodName) jdk_65_method_121_code (3 : Nat) (Option.some (Jvm.ClassFile.FieldType.array Jvm.ClassFile.FieldType.byte)), Jvm.Cond.code ({ cls := "java/lang/Math", name := "min", desc := "(II)I" } : Jvm.MethodName) jdk_29_method_69_code (2 : Nat) (Option.some Jvm.ClassFile.FieldType.int), Jvm.Cond.code ({ cls := "com/example/ulinzi/ulinzi/protocol/ProtocolWriter", name := "writeInt32", desc := "(I)Lcom/example/ulinzi/ulinzi/protocol/ProtocolWriter;" } : Jvm.MethodName) prog_89_method_4_code (2 : Nat) (Option.some (Jvm.ClassFile.FieldType.object "com/example/ulinzi/ulinzi/protocol/ProtocolWriter")), Jvm.Cond.code ({ cls := "com/example/ulinzi/ulinzi/protocol/ProtocolWriter", name := "ensure", desc := "(I)V" } : Jvm.MethodName) prog_89_method_27_code (2 : Nat) (Option.none : Option Jvm.ClassFile.FieldType), Jvm.Cond.code ({ cls := "com/example/ulinzi/ulinzi/protocol/ProtocolWriter", name := "writeInt64", desc := "(J)Lcom/example/ulinzi/ulinzi/protocol/ProtocolWriter;" } : Jvm.MethodName) prog_89_method_5_code (3 : Nat) (Option.some (Jvm.ClassFile.FieldType.object "com/example/ulinzi/ulinzi/protocol/ProtocolWriter")), Jvm.Cond.code ({ cls := "com/example/ulinzi/ulinzi/protocol/ProtocolWriter", name := "writeInt8", desc := "(I)Lcom/example/ulinzi/ulinzi/protocol/ProtocolWriter;" } : Jvm.MethodName) prog_89_method_2_code (2 : Nat) (Option.some (Jvm.ClassFile.FieldType.object "com/example/ulinzi/ulinzi/protocol/ProtocolWriter")), Jvm.Cond.code ({ cls := "com/example/ulinzi/ulinzi/protocol/ProtocolWriter", name := "size", desc := "()I" } : Jvm.MethodName) prog_89_method_23_code (1 : Nat) (Option.some Jvm.ClassFile.FieldType.int), Jvm.Cond.code ({ cls := "com/example/ulinzi/ulinzi/protocol/ProtocolWriterToByteArrayPinLaw", name := "int32At", desc := "([BII)Z" } : Jvm.MethodName) method_3_code (3 : Nat) (Option.some Jvm.ClassFile.FieldType.boolean), Jvm.Cond.code ({ cls := "com/example/ulinzi/ulinzi/protocol/ProtocolWriter", name := "writeBytes", desc := "([B)Lcom/example/ulinzi/ulinzi/protocol/ProtocolWriter;" } : Jvm.MethodName) prog_89_method_16_code (2 : Nat) (Option.some (Jvm.ClassFile.FieldType.object "com/example/ulinzi/ulinzi/protocol/ProtocolWriter")), Jvm.Cond.code ({ cls := "com/example/ulinzi/ulinzi/protocol/ProtocolWriter", name := "writeRaw", desc := "([B)Lcom/example/ulinzi/ulinzi/protocol/ProtocolWriter;" } : Jvm.MethodName) prog_89_method_26_code (2 : Nat) (Option.some (Jvm.ClassFile.FieldType.object "com/example/ulinzi/ulinzi/protocol/ProtocolWriter")), Jvm.Cond.code ({ cls := "java/lang/Math", name := "max", desc := "(II)I" } : Jvm.MethodName) jdk_29_method_65_code (2 : Nat) (Option.some Jvm.ClassFile.FieldType.int)]
set_option maxRecDepth 65536 in
theorem codes_eq : words1.filter isCode = codes1 := rfl
theorem w_codes : ∀ c ∈ words1.filter isCode, c.before args0 about1 = true := by
  rw [codes_eq]
  intro c hc
  simp only [codes1, List.mem_cons, List.not_mem_nil, or_false] at hc
  rcases hc with rfl | rfl | rfl | rfl | rfl | rfl | rfl | rfl | rfl | rfl | rfl | rfl | rfl | rfl | rfl
  · exact w_c0
  · exact w_c1
  · exact w_c2
  · exact w_c3
  · exact w_c4
  · exact w_c5
  · exact w_c6
  · exact w_c7
  · exact w_c8
  · exact w_c9
  · exact w_c10
  · exact w_c11
  · exact w_c12
  · exact w_c13
  · exact w_c14
set_option maxRecDepth 65536 in
theorem w_t1 : (words1.take 24).all (fun c => isCode c || c.before args0 about1) = true := by decide +kernel
set_option maxRecDepth 65536 in
theorem w_t2 : ((words1.drop 24).take 24).all (fun c => isCode c || c.before args0 about1) = true := by decide +kernel
set_option maxRecDepth 65536 in
theorem w_t3 : (((words1.drop 24).drop 24).take 24).all (fun c => isCode c || c.before args0 about1) = true := by decide +kernel
set_option maxRecDepth 65536 in
theorem w_t4 : (((words1.drop 24).drop 24).drop 24).all (fun c => isCode c || c.before args0 about1) = true := by decide +kernel
theorem w_tables : (allAtoms (Jvm.Cond.code x code maxLocals ret :: tables_1)).before args0 about1 = true := by
  rw [allAtoms_all]
  show words1.all (fun c => c.before args0 about1) = true
  refine all_split ?_ w_codes
  rw [← List.take_append_drop 24 words1, List.all_append, w_t1, ← List.take_append_drop 24 (words1.drop 24), List.all_append, w_t2, ← List.take_append_drop 24 ((words1.drop 24).drop 24), List.all_append, w_t3, w_t4]
  rfl
set_option maxRecDepth 65536 in
theorem w_case : (Jvm.Cond.and given_1 narrow_1).before args0 about1 = true := by decide +kernel
theorem w_applies : (headSpec (Jvm.Cond.code x code maxLocals ret :: tables_1) room_1).applies x e0.platform about1 = true :=
  (Spec.applies_iff w_frames).mpr ⟨w_running, w_runnable, w_alone, w_named, w_hears, w_ripe, w_room, w_tables⟩
theorem atStart : AtStart classFile x code maxLocals ret World_1 tables_1 room_1 Calls_1 rest_1 Pre_1 launch0 p0 e0 about1 theMethod args0 below0 :=
  ⟨lists_1, trivial, launch0.admits_env _ _ _, launch0.least_env, fairChoices_fair.cas, fairChoices_fair.clock, w_frames, w_args, w_heap, w_applies, trivial, trivial, w_case⟩
end start1
theorem witness_1 : WitnessClaimed_1 := ⟨start1.p0, start1.e0, start1.about1, start1.theMethod, start1.args0, start1.below0, start1.atStart⟩
end Jvm.Pilot.@@N@@
