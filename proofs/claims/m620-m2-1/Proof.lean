import JvmDerived
import JvmDerived.Pilot.@@N@@Statement
import JvmDerived.Pilot.@@N@@Code
set_option linter.unusedVariables false
set_option linter.unusedSimpArgs false
namespace Jvm.Pilot.@@N@@
open Jvm Jvm.ClassFile Sem Op Lib Jvm.Free Jvm.Stand Jvm.LawKit Jvm.RoadKit Bundle Jvm.Pilot.@@N@@.Jvm.D
/-! a run from here comes to the end of the invocation, and Q holds there -/
section OwnWp
variable {p : Program} {l : Launch} {e : Env} {R : Room} {s : State} {m : MethodId} {args : Array Value} {below : List Frame} {meth : Method} {c : Code} {T : State} {locs : List Loc} {cells slots : Nat}
def Wp (p : Program) (e : Env) (below : List Frame) (Q : Outcome → State → Prop) (A : State) : Prop := ∃ s₂ o, Steps p.tables e below A s₂ ∧ s₂.status = .running ∧ Ended s₂ below o ∧ Q o s₂
def Out (s : State) (Q : Option Value → Heap → List Loc → Prop) (k n : Nat) (o : Outcome) (t : State) : Prop := ∃ v L, o = .returned v ∧ Q v t.heap L ∧ FrameEnd s o t L k n
theorem Wp.step {Q : Outcome → State → Prop} {A B : State} (h : ∀ t, Steps p.tables e below B t → Steps p.tables e below A t) (k : Wp p e below Q B) : Wp p e below Q A := by
  obtain ⟨s₂, o, h1, h2⟩ := k; exact ⟨s₂, o, h _ h1, h2⟩
theorem Wp.go {Q : Outcome → State → Prop} {A B : State} (h : Steps p.tables e below A B) (k : Wp p e below Q B) : Wp p e below Q A := Wp.step (fun _ q => h.trans q) k
theorem Wp.out (X : Stand p l e R s m args below meth c T locs cells slots) {A : State} {v : Option Value} {Q : Option Value → Heap → List Loc → Prop} {k n : Nat} (hv : meth.sig.returnType = none → v = none) (hlk : meth.locks = false)
    (hs : ∀ fs, (∀ (f : JFrame) (acts : List Action), f.method = m → f.locked = none → f.entered = [] → (doReturn e (T.setTop f) acts v).1 = T.setFrames fs) → Steps p.tables e below A (T.setFrames fs)) (hQ : Q v T.heap locs) (hk : cells ≤ k) (hn : slots ≤ n) : Wp p e below (Out s Q k n) A := by
  obtain ⟨fs, hr, hrun, hended, hW, hsame⟩ := X.leave (v := v) hv hlk
  exact ⟨_, _, hs fs hr, hrun, hended, _, _, rfl, hQ, ⟨_, rfl⟩, hW, hsame.mono hk hn⟩
theorem Wp.retV (X : Stand p l e R s m args below meth c T locs cells slots) (hx : p.tables.exec = Jvm.exec) {pc : Nat} {Ls : Array Slot} {Q : Option Value → Heap → List Loc → Prop} {k n : Nat} (hret : meth.sig.returnType = none) (hd : decode c.code pc = .ok (.return_, 1)) (hlk : meth.locks = false)
    (hQ : Q none T.heap locs) (hk : cells ≤ k) (hn : slots ≤ n) : Wp p e below (Out s Q k n) (T.setTop (mkF m pc Ls [])) := Wp.out X (fun _ => rfl) hlk (fun fs hr => X.returnOut hx hret hd hr) hQ hk hn
theorem Wp.retN (X : Stand p l e R s m args below meth c T locs cells slots) (hx : p.tables.exec = Jvm.exec) {pc : Nat} {Ls : Array Slot} {z : Int32} {rest : List Value} {t : FieldType} {Q : Option Value → Heap → List Loc → Prop} {k n : Nat} (hret : meth.sig.returnType = some t) (ht : t = .boolean ∨ t = .byte ∨ t = .char ∨ t = .short) (hd : decode c.code pc = .ok (.ireturn, 1)) (hlk : meth.locks = false)
    (hQ : Q (some (.int (nar t z))) T.heap locs) (hk : cells ≤ k) (hn : slots ≤ n) : Wp p e below (Out s Q k n) (T.setTop (mkF m pc Ls (.int z :: rest))) := Wp.out X (fun h => by rw [hret] at h; cases h) hlk (fun fs hr => Jvm.RoadKit.retN X hx hret ht hd hr) hQ hk hn
theorem Wp.retI (X : Stand p l e R s m args below meth c T locs cells slots) (hx : p.tables.exec = Jvm.exec) {pc : Nat} {Ls : Array Slot} {z : Int32} {rest : List Value} {Q : Option Value → Heap → List Loc → Prop} {k n : Nat} (hret : meth.sig.returnType = some .int) (hd : decode c.code pc = .ok (.ireturn, 1)) (hlk : meth.locks = false)
    (hQ : Q (some (.int z)) T.heap locs) (hk : cells ≤ k) (hn : slots ≤ n) : Wp p e below (Out s Q k n) (T.setTop (mkF m pc Ls (.int z :: rest))) := Wp.out X (fun h => by rw [hret] at h; cases h) hlk (fun fs hr => Jvm.RoadKit.retOut X hx hret rfl (Or.inl ⟨rfl, Or.inl rfl, z, rfl⟩) hd hr) hQ hk hn
theorem Wp.retJ (X : Stand p l e R s m args below meth c T locs cells slots) (hx : p.tables.exec = Jvm.exec) {pc : Nat} {Ls : Array Slot} {z : Int64} {rest : List Value} {Q : Option Value → Heap → List Loc → Prop} {k n : Nat} (hret : meth.sig.returnType = some .long) (hd : decode c.code pc = .ok (.lreturn, 1)) (hlk : meth.locks = false)
    (hQ : Q (some (.long z)) T.heap locs) (hk : cells ≤ k) (hn : slots ≤ n) : Wp p e below (Out s Q k n) (T.setTop (mkF m pc Ls (.long z :: rest))) := Wp.out X (fun h => by rw [hret] at h; cases h) hlk (fun fs hr => Jvm.RoadKit.retOut X hx hret rfl (Or.inr (Or.inl ⟨rfl, rfl, z, rfl⟩)) hd hr) hQ hk hn
theorem Wp.retA (X : Stand p l e R s m args below meth c T locs cells slots) (hx : p.tables.exec = Jvm.exec) {pc : Nat} {Ls : Array Slot} {w : Value} {rest : List Value} {t : FieldType} {Q : Option Value → Heap → List Loc → Prop} {k n : Nat} (hret : meth.sig.returnType = some t) (hw : w.isRef = true) (hd : decode c.code pc = .ok (.areturn, 1)) (hlk : meth.locks = false)
    (hQ : Q (some w) T.heap locs) (hk : cells ≤ k) (hn : slots ≤ n) (ht : t.isReference = true := by rfl) : Wp p e below (Out s Q k n) (T.setTop (mkF m pc Ls (w :: rest))) := Wp.out X (fun h => by rw [hret] at h; cases h) hlk (fun fs hr => Jvm.RoadKit.retOut X hx hret (by cases t <;> first | (cases ht; done) | (cases w <;> first | (cases hw; done) | rfl)) (Or.inr (Or.inr (Or.inr (Or.inr ⟨rfl, ht, hw⟩)))) hd hr) hQ hk hn
def OutW (s : State) (Q : Option Value → Heap → List Loc → Prop) (k n : Nat) (o : Outcome) (t : State) : Prop := ∃ v L, o = .returned v ∧ Q v t.heap L ∧ ReturnedEndW s o t L k n
theorem Wp.outW {vm0 : Vm} {k0 : Nat} (X : Stand p l e R (s.setVm vm0) m args below meth c T locs cells slots) (hS : s.Since vm0 k0) (hk0 : k0 ≤ T.heap.size) {A : State} {v : Option Value} {Q : Option Value → Heap → List Loc → Prop} {k n : Nat} (hv : meth.sig.returnType = none → v = none) (hlk : meth.locks = false)
    (hs : ∀ fs, (∀ (f : JFrame) (acts : List Action), f.method = m → f.locked = none → f.entered = [] → (doReturn e (T.setTop f) acts v).1 = T.setFrames fs) → Steps p.tables e below A (T.setFrames fs)) (hQ : Q v T.heap locs) (hk : cells ≤ k) (hn : slots ≤ n) : Wp p e below (OutW s Q k n) A := by
  obtain ⟨fs, hr, hrun, hended, h1, h2, h3, h4⟩ := X.leaveW hS hk0 (v := v) hv hlk
  exact ⟨_, _, hs fs hr, hrun, hended, _, _, rfl, hQ, h1, h2, h3, h4.mono hk hn⟩
theorem Wp.retVW {vm0 : Vm} {k0 : Nat} (X : Stand p l e R (s.setVm vm0) m args below meth c T locs cells slots) (hS : s.Since vm0 k0) (hk0 : k0 ≤ T.heap.size) (hx : p.tables.exec = Jvm.exec) {pc : Nat} {Ls : Array Slot} {Q : Option Value → Heap → List Loc → Prop} {k n : Nat} (hret : meth.sig.returnType = none) (hd : decode c.code pc = .ok (.return_, 1)) (hlk : meth.locks = false)
    (hQ : Q none T.heap locs) (hk : cells ≤ k) (hn : slots ≤ n) : Wp p e below (OutW s Q k n) (T.setTop (mkF m pc Ls [])) := Wp.outW X hS hk0 (fun _ => rfl) hlk (fun fs hr => X.returnOut hx hret hd hr) hQ hk hn
theorem Wp.retNW {vm0 : Vm} {k0 : Nat} (X : Stand p l e R (s.setVm vm0) m args below meth c T locs cells slots) (hS : s.Since vm0 k0) (hk0 : k0 ≤ T.heap.size) (hx : p.tables.exec = Jvm.exec) {pc : Nat} {Ls : Array Slot} {z : Int32} {rest : List Value} {t : FieldType} {Q : Option Value → Heap → List Loc → Prop} {k n : Nat} (hret : meth.sig.returnType = some t) (ht : t = .boolean ∨ t = .byte ∨ t = .char ∨ t = .short) (hd : decode c.code pc = .ok (.ireturn, 1)) (hlk : meth.locks = false)
    (hQ : Q (some (.int (nar t z))) T.heap locs) (hk : cells ≤ k) (hn : slots ≤ n) : Wp p e below (OutW s Q k n) (T.setTop (mkF m pc Ls (.int z :: rest))) := Wp.outW X hS hk0 (fun h => by rw [hret] at h; cases h) hlk (fun fs hr => Jvm.RoadKit.retN X hx hret ht hd hr) hQ hk hn
theorem Wp.retIW {vm0 : Vm} {k0 : Nat} (X : Stand p l e R (s.setVm vm0) m args below meth c T locs cells slots) (hS : s.Since vm0 k0) (hk0 : k0 ≤ T.heap.size) (hx : p.tables.exec = Jvm.exec) {pc : Nat} {Ls : Array Slot} {z : Int32} {rest : List Value} {Q : Option Value → Heap → List Loc → Prop} {k n : Nat} (hret : meth.sig.returnType = some .int) (hd : decode c.code pc = .ok (.ireturn, 1)) (hlk : meth.locks = false)
    (hQ : Q (some (.int z)) T.heap locs) (hk : cells ≤ k) (hn : slots ≤ n) : Wp p e below (OutW s Q k n) (T.setTop (mkF m pc Ls (.int z :: rest))) := Wp.outW X hS hk0 (fun h => by rw [hret] at h; cases h) hlk (fun fs hr => Jvm.RoadKit.retOut X hx hret rfl (Or.inl ⟨rfl, Or.inl rfl, z, rfl⟩) hd hr) hQ hk hn
theorem Wp.retAW {vm0 : Vm} {k0 : Nat} (X : Stand p l e R (s.setVm vm0) m args below meth c T locs cells slots) (hS : s.Since vm0 k0) (hk0 : k0 ≤ T.heap.size) (hx : p.tables.exec = Jvm.exec) {pc : Nat} {Ls : Array Slot} {w : Value} {rest : List Value} {t : FieldType} {Q : Option Value → Heap → List Loc → Prop} {k n : Nat} (hret : meth.sig.returnType = some t) (hw : w.isRef = true) (hd : decode c.code pc = .ok (.areturn, 1)) (hlk : meth.locks = false)
    (hQ : Q (some w) T.heap locs) (hk : cells ≤ k) (hn : slots ≤ n) (ht : t.isReference = true := by rfl) : Wp p e below (OutW s Q k n) (T.setTop (mkF m pc Ls (w :: rest))) := Wp.outW X hS hk0 (fun h => by rw [hret] at h; cases h) hlk (fun fs hr => Jvm.RoadKit.retOut X hx hret (by cases t <;> first | (cases ht; done) | (cases w <;> first | (cases hw; done) | rfl)) (Or.inr (Or.inr (Or.inr (Or.inr ⟨rfl, ht, hw⟩)))) hd hr) hQ hk hn
end OwnWp
theorem own_selP {Z s : State} {a0 args : Array Value} {y : MethodName} {n : Nat} (hZ : Z.Warmed39 s.vm) (wi : (Jvm.Cond.instantiable y.cls n).before a0 Z = true) (wp : (Jvm.Cond.privateMethod y).before a0 Z = true) (wm : (Jvm.Cond.instanceMethod y).before a0 Z = true) (hy : y.cls ≠ "java/lang/invoke/MethodHandle" ∧ y.cls ≠ "java/lang/invoke/VarHandle") : (Jvm.Cond.selects y.cls y y).before args s = true := by
  obtain ⟨c, k, h1, h2, -, h4, -⟩ := Cond.instantiable_spec (show (Jvm.Cond.instantiable y.cls n).before args s = true from mvT hZ wi)
  exact selects_self_of_private h1 h2 (by cases hq : k.isInterface <;> simp [hq] at h4 ⊢) (Cond.privateMethod_at (mvP hZ wp (args := #[]))) (mvT hZ wm) hy
/-! arrays of whole numbers as functions of the place -/
def own_IA (ty : FieldType) (Z : State) (h : Heap) (a : Addr) (len : Int32) (g : Nat → Int32) : Prop := ∃ cl : Cell, Arr Z h a cl ty ∧ cl.slots.size = len.toNatClampNeg ∧ ¬ len < 0 ∧ ∀ i : Nat, i < len.toNatClampNeg → cl.slots[i]? = some (.int (g i)) ∧ fits ty (.int (g i)) = true
def own_JA (Z : State) (h : Heap) (a : Addr) (len : Int32) (g : Nat → Int64) : Prop := ∃ cl : Cell, Arr Z h a cl .long ∧ cl.slots.size = len.toNatClampNeg ∧ ¬ len < 0 ∧ ∀ i : Nat, i < len.toNatClampNeg → cl.slots[i]? = some (.long (g i))
def own_upd (g : Nat → Int32) (k : Nat) (y : Int32) : Nat → Int32 := fun i => if i = k then y else g i
def own_updJ (g : Nat → Int64) (k : Nat) (y : Int64) : Nat → Int64 := fun i => if i = k then y else g i
section OwnArr
variable {ty : FieldType} {Z : State} {h h' : Heap} {a b : Addr} {len : Int32} {g g' : Nat → Int32} {gj gj' : Nat → Int64} {ws : List Addr} {sl : Nat} {v : Value}
theorem own_IA.lt (F : own_IA ty Z h a len g) : a < h.size := by obtain ⟨c, A, -⟩ := F; exact A.lt
theorem own_IA.ext (F : own_IA ty Z h a len g) (E : Ext h h') : own_IA ty Z h' a len g := by obtain ⟨c, A, r⟩ := F; exact ⟨c, A.ext E, r⟩
theorem own_IA.other (F : own_IA ty Z h b len g) (W : Wr h h' a sl v) (q : b ≠ a) : own_IA ty Z h' b len g := by obtain ⟨c, A, r⟩ := F; exact ⟨c, A.other W q, r⟩
theorem own_IA.keep (F : own_IA ty Z h a len g) (K : Keep h h' ws) (q : a ∉ ws) : own_IA ty Z h' a len g := by obtain ⟨c, A, r⟩ := F; exact ⟨c, ⟨K.2.1 a c A.1 q, A.2⟩, r⟩
theorem own_JA.lt (F : own_JA Z h a len gj) : a < h.size := by obtain ⟨c, A, -⟩ := F; exact A.lt
theorem own_JA.ext (F : own_JA Z h a len gj) (E : Ext h h') : own_JA Z h' a len gj := by obtain ⟨c, A, r⟩ := F; exact ⟨c, A.ext E, r⟩
theorem own_JA.other (F : own_JA Z h b len gj) (W : Wr h h' a sl v) (q : b ≠ a) : own_JA Z h' b len gj := by obtain ⟨c, A, r⟩ := F; exact ⟨c, A.other W q, r⟩
theorem own_JA.keep (F : own_JA Z h a len gj) (K : Keep h h' ws) (q : a ∉ ws) : own_JA Z h' a len gj := by obtain ⟨c, A, r⟩ := F; exact ⟨c, ⟨K.2.1 a c A.1 q, A.2⟩, r⟩
theorem own_narb (x : Int32) : nar .byte x.toInt8.toInt32 = x.toInt8.toInt32 := by simp [nar]
theorem own_IA.set {cl : Cell} {j x : Int32} (A : Arr Z h a cl ty) (S : cl.slots.size = len.toNatClampNeg) (N : ¬ len < 0) (H : ∀ i : Nat, i < len.toNatClampNeg → cl.slots[i]? = some (.int (g i)) ∧ fits ty (.int (g i)) = true) (W : Wr h h' a j.toNatClampNeg (.int x)) (hf : fits ty (.int x) = true) : own_IA ty Z h' a len (own_upd g j.toNatClampNeg x) := by
  refine ⟨_, A.same W, by rw [sz_set]; exact S, N, fun i hi => ?_⟩
  unfold own_upd
  by_cases q : i = j.toNatClampNeg
  · subst q; rw [if_pos rfl]; exact ⟨by simp [Cell.setSlot, S, hi], hf⟩
  · rw [if_neg q]; exact ⟨by rw [Jvm.LawKit.slot_ne cl _ (Ne.symm q)]; exact (H i hi).1, (H i hi).2⟩
theorem own_JA.set {cl : Cell} {j : Int32} {x : Int64} (A : Arr Z h a cl .long) (S : cl.slots.size = len.toNatClampNeg) (N : ¬ len < 0) (H : ∀ i : Nat, i < len.toNatClampNeg → cl.slots[i]? = some (.long (gj i))) (W : Wr h h' a j.toNatClampNeg (.long x)) : own_JA Z h' a len (own_updJ gj j.toNatClampNeg x) := by
  refine ⟨_, A.same W, by rw [sz_set]; exact S, N, fun i hi => ?_⟩
  unfold own_updJ
  by_cases q : i = j.toNatClampNeg
  · subst q; rw [if_pos rfl]; simp [Cell.setSlot, S, hi]
  · rw [if_neg q, Jvm.LawKit.slot_ne cl _ (Ne.symm q)]; exact H i hi
theorem own_IA.new {k : ClassId} {n : Int32} (A : Arr Z h a (newA k ty n) ty) (N : ¬ n < 0) (hd : defaultValue ty = .int 0) : own_IA ty Z h a n (fun _ => (0 : Int32)) :=
  ⟨_, A, sz_new _ _ _, N, fun i hi => ⟨by simp [newA, hi, hd], by rw [← hd]; cases ty <;> first | rfl | cases hd⟩⟩
theorem own_JA.new {k : ClassId} {n : Int32} (A : Arr Z h a (newA k .long n) .long) (N : ¬ n < 0) : own_JA Z h a n (fun _ => (0 : Int64)) :=
  ⟨_, A, sz_new _ _ _, N, fun i hi => by simp [newA, hi, defaultValue]⟩
theorem own_IA.cong (F : own_IA ty Z h a len g) (e : ∀ i, i < len.toNatClampNeg → g' i = g i) : own_IA ty Z h a len g' := by
  obtain ⟨c, A, S, N, H⟩ := F; exact ⟨c, A, S, N, fun i hi => by rw [e i hi]; exact H i hi⟩
theorem own_JA.cong (F : own_JA Z h a len gj) (e : ∀ i, i < len.toNatClampNeg → gj' i = gj i) : own_JA Z h a len gj' := by
  obtain ⟨c, A, S, N, H⟩ := F; exact ⟨c, A, S, N, fun i hi => by rw [e i hi]; exact H i hi⟩
theorem own_range {α : Type} (f : Nat → α) (n k : Nat) (d : α) (hk : k < n) : ((List.range n).map f).getD k d = f k := by
  simp [List.getD_eq_getElem?_getD, List.getElem?_map, List.getElem?_range hk]
theorem own_IA.arv (F : own_IA ty Z h a len g) : ∃ k, Arv Z h a k ty len ((List.range len.toNatClampNeg).map fun i => Value.int (g i)) (.int 0) := by
  obtain ⟨c, A, S, N, H⟩ := F
  exact ⟨c.cls, c, A, rfl, S, N, fun i hi => by rw [S] at hi; rw [own_range _ _ _ _ hi]; exact (H i hi).1, fun i hi => by rw [S] at hi; rw [own_range _ _ _ _ hi]; exact (H i hi).2⟩
theorem own_IA.ofArv {k : ClassId} {vs : List Value} {dv : Value} (F : Arv Z h a k ty len vs dv) (H : ∀ i, i < len.toNatClampNeg → vs.getD i dv = .int (g i)) : own_IA ty Z h a len g := by
  obtain ⟨c, A, -, S, N, G1, G2⟩ := F
  exact ⟨c, A, S, N, fun i hi => ⟨by rw [← H i hi]; exact G1 i (by rw [S]; exact hi), by rw [← H i hi]; exact G2 i (by rw [S]; exact hi)⟩⟩
theorem own_JA.arv (F : own_JA Z h a len gj) : ∃ k, Arv Z h a k .long len ((List.range len.toNatClampNeg).map fun i => Value.long (gj i)) (.long 0) := by
  obtain ⟨c, A, S, N, H⟩ := F
  exact ⟨c.cls, c, A, rfl, S, N, fun i hi => by rw [S] at hi; rw [own_range _ _ _ _ hi]; exact H i hi, fun i hi => by rw [S] at hi; rw [own_range _ _ _ _ hi]; rfl⟩
theorem own_JA.ofArv {k : ClassId} {vs : List Value} {dv : Value} (F : Arv Z h a k .long len vs dv) (H : ∀ i, i < len.toNatClampNeg → vs.getD i dv = .long (gj i)) : own_JA Z h a len gj := by
  obtain ⟨c, A, -, S, N, G1, G2⟩ := F
  exact ⟨c, A, S, N, fun i hi => by rw [← H i hi]; exact G1 i (by rw [S]; exact hi)⟩
def own_copy {α : Type} (gs gd : Nat → α) (sp dp nn : Nat) : Nat → α := fun i => if dp ≤ i ∧ i < dp + nn then gs (sp + (i - dp)) else gd i
theorem own_copy_list {α : Type} (gs gd : Nat → α) (us : List α) (B sp dp nn : Nat) (d : α) (l2 : us.length = nn) (hu : ∀ k, k < nn → us[k]? = some (gs (sp + k))) (h2 : dp + nn ≤ B) (i : Nat) (hi : i < B) :
    ((((List.range B).map gd).take dp ++ us ++ ((List.range B).map gd).drop (dp + nn)).getD i d) = own_copy gs gd sp dp nn i := by
  have l1 : (((List.range B).map gd).take dp).length = dp := by simp; omega
  unfold own_copy
  simp only [List.getD_eq_getElem?_getD]
  by_cases q1 : i < dp
  · rw [if_neg (by omega), List.append_assoc, List.getElem?_append_left (by rw [l1]; exact q1), List.getElem?_take_of_lt q1, List.getElem?_map, List.getElem?_range hi]; rfl
  · by_cases q2 : i < dp + nn
    · rw [if_pos ⟨by omega, q2⟩, List.append_assoc, List.getElem?_append_right (by rw [l1]; omega), l1, List.getElem?_append_left (by rw [l2]; omega), hu _ (by omega)]; rfl
    · rw [if_neg (by omega), List.getElem?_append_right (by rw [List.length_append, l1, l2]; omega), List.length_append, l1, l2, List.getElem?_drop, show dp + nn + (i - (dp + nn)) = i by omega, List.getElem?_map, List.getElem?_range hi]; rfl
theorem own_copy_us {α : Type} (gs : Nat → α) (A sp nn : Nat) (d : α) (h1 : sp + nn ≤ A) (k : Nat) (hk : k < nn) : ((List.range nn).map (fun i => ((List.range A).map gs).getD (sp + i) d))[k]? = some (gs (sp + k)) := by
  rw [List.getElem?_map, List.getElem?_range hk]
  show some (((List.range A).map gs).getD (sp + k) d) = _
  rw [own_range _ _ _ _ (by omega)]
section OwnCp
variable {p : Program} {l : Launch} {e : Env} {R : Room} {s : State} {m : MethodId} {args : Array Value} {below : List Frame} {meth : Method} {c : Code} {T : State} {locs : List Loc} {cells slots : Nat}
theorem own_cpI (X : Stand p l e R s m args below meth c T locs cells slots) (hx : p.tables.exec = Jvm.exec) (hZ : Z.Warmed39 s.vm) {a0 : Array Value} {own : String} {index : Nat} (hown : s.vm.findClass own = some m.cls)
    (w1 : (Jvm.Cond.methodLink own index Jvm.Stand.acN).before a0 Z = true) (w2 : (Jvm.Cond.native Jvm.Stand.acN).before a0 Z = true) (w3 : (Jvm.Cond.static Jvm.Stand.acN).before a0 Z = true) (w4 : (Jvm.Cond.initialized "java/lang/System").before a0 Z = true) (eT : T.heap = h)
    {z z' sp dp nn : Int32} {gs gd : Nat → Int32} (A : own_IA ty Z h a z gs) (B : own_IA ty Z h b z' gd) (hty : refKind ty = false)
    (h1 : ¬ sp < 0) (h2 : ¬ dp < 0) (h3 : ¬ nn < 0) (h4 : sp.toNatClampNeg + nn.toNatClampNeg ≤ z.toNatClampNeg) (h5 : dp.toNatClampNeg + nn.toNatClampNeg ≤ z'.toNatClampNeg) {n0 : Nat} (N : Fr n0 locs) (ge : n0 ≤ b)
    {g : JFrame} (hg : g.method = m) (hsize : g.locals.size = c.maxLocals) {rest : List Value} (hs : g.stack = .int nn :: .int dp :: .ref b :: .int sp :: .ref a :: rest) (hd : decode c.code g.pc = .ok (.invokestatic index, 3))
    (hf : 1 ≤ R.frames) {W : Nat} (hW : 2 * g.monitorRoom + (rest.map fun v => v.category).sum ≤ W) (hlo : W + (nativeFrameWords "java/lang/System" "arraycopy" 5 + 11) ≤ R.locals) :
    ∃ T' h' L, Stand p l e R s m args below meth c T' L cells slots ∧ T'.heap = h' ∧ Fr n0 L ∧ Keep h h' [b] ∧ own_IA ty Z h' b z' (own_copy gs gd sp.toNatClampNeg dp.toNatClampNeg nn.toNatClampNeg) ∧
      ∀ target, Steps p.tables e below (T'.setTop { g with pc := g.pc + 3, stack := rest }) target → Steps p.tables e below (T.setTop g) target := by
  obtain ⟨k1, A1⟩ := A.arv
  obtain ⟨k2, B1⟩ := B.arv
  obtain ⟨T', h', L, q1, q2, q3, q4, q5, q6⟩ := cpA X hx hZ hown w1 w2 w3 w4 eT A1 B1 (Or.inl ⟨rfl, hty⟩) h1 h2 h3 h4 h5 rfl (by simpa using h5) N ge hg hsize hs hd hf hW hlo
  refine ⟨T', h', L, q1, q2, q3, q4, own_IA.ofArv q5 fun i hi => ?_, q6⟩
  have r := own_copy_list (fun i => Value.int (gs i)) (fun i => Value.int (gd i)) _ z'.toNatClampNeg sp.toNatClampNeg dp.toNatClampNeg nn.toNatClampNeg (.int 0) (by simp) (own_copy_us (fun i => Value.int (gs i)) z.toNatClampNeg sp.toNatClampNeg nn.toNatClampNeg (.int 0) h4) h5 i hi
  rw [r]; unfold own_copy; split <;> rfl
theorem own_cpJ (X : Stand p l e R s m args below meth c T locs cells slots) (hx : p.tables.exec = Jvm.exec) (hZ : Z.Warmed39 s.vm) {a0 : Array Value} {own : String} {index : Nat} (hown : s.vm.findClass own = some m.cls)
    (w1 : (Jvm.Cond.methodLink own index Jvm.Stand.acN).before a0 Z = true) (w2 : (Jvm.Cond.native Jvm.Stand.acN).before a0 Z = true) (w3 : (Jvm.Cond.static Jvm.Stand.acN).before a0 Z = true) (w4 : (Jvm.Cond.initialized "java/lang/System").before a0 Z = true) (eT : T.heap = h)
    {z z' sp dp nn : Int32} {gs gd : Nat → Int64} (A : own_JA Z h a z gs) (B : own_JA Z h b z' gd)
    (h1 : ¬ sp < 0) (h2 : ¬ dp < 0) (h3 : ¬ nn < 0) (h4 : sp.toNatClampNeg + nn.toNatClampNeg ≤ z.toNatClampNeg) (h5 : dp.toNatClampNeg + nn.toNatClampNeg ≤ z'.toNatClampNeg) {n0 : Nat} (N : Fr n0 locs) (ge : n0 ≤ b)
    {g : JFrame} (hg : g.method = m) (hsize : g.locals.size = c.maxLocals) {rest : List Value} (hs : g.stack = .int nn :: .int dp :: .ref b :: .int sp :: .ref a :: rest) (hd : decode c.code g.pc = .ok (.invokestatic index, 3))
    (hf : 1 ≤ R.frames) {W : Nat} (hW : 2 * g.monitorRoom + (rest.map fun v => v.category).sum ≤ W) (hlo : W + (nativeFrameWords "java/lang/System" "arraycopy" 5 + 11) ≤ R.locals) :
    ∃ T' h' L, Stand p l e R s m args below meth c T' L cells slots ∧ T'.heap = h' ∧ Fr n0 L ∧ Keep h h' [b] ∧ own_JA Z h' b z' (own_copy gs gd sp.toNatClampNeg dp.toNatClampNeg nn.toNatClampNeg) ∧
      ∀ target, Steps p.tables e below (T'.setTop { g with pc := g.pc + 3, stack := rest }) target → Steps p.tables e below (T.setTop g) target := by
  obtain ⟨k1, A1⟩ := A.arv
  obtain ⟨k2, B1⟩ := B.arv
  obtain ⟨T', h', L, q1, q2, q3, q4, q5, q6⟩ := cpA X hx hZ hown w1 w2 w3 w4 eT A1 B1 (Or.inl ⟨rfl, rfl⟩) h1 h2 h3 h4 h5 rfl (by simpa using h5) N ge hg hsize hs hd hf hW hlo
  refine ⟨T', h', L, q1, q2, q3, q4, own_JA.ofArv q5 fun i hi => ?_, q6⟩
  have r := own_copy_list (fun i => Value.long (gs i)) (fun i => Value.long (gd i)) _ z'.toNatClampNeg sp.toNatClampNeg dp.toNatClampNeg nn.toNatClampNeg (.long 0) (by simp) (own_copy_us (fun i => Value.long (gs i)) z.toNatClampNeg sp.toNatClampNeg nn.toNatClampNeg (.long 0) h4) h5 i hi
  rw [r]; unfold own_copy; split <;> rfl
end OwnCp
end OwnArr
theorem own_hk {k : Nat} {T : State} {h : Heap} (e : T.heap = h) (q : k ≤ h.size) : k ≤ T.heap.size := by rw [e]; exact q
theorem own_ns {Z : State} {h : Heap} {a : Addr} {C : String} (E : Exa Z h a C) : ∃ c : Cell, h[a]? = some c ∧ c.vm.isStatics = false := by obtain ⟨c, k, h1, h2, h3, h4, h5⟩ := E; exact ⟨c, h1, h4⟩
theorem own_sta_keep {Z : State} {h h' : Heap} {ws : List Addr} {C n d : String} {v : Value} (F : Sta Z h C n d v) (K : Keep h h' ws) (q : ∀ x ∈ ws, ∃ c : Cell, h[x]? = some c ∧ c.vm.isStatics = false) : Sta Z h' C n d v := by
  obtain ⟨cf, i, k, f, st, cell, h1, h2, h3, h4, h5, h6, h7⟩ := F
  refine ⟨cf, i, k, f, st, cell, h1, h2, h3, h4, K.2.1 st cell h5 fun hm => ?_, h6, h7⟩
  obtain ⟨c, q1, q2⟩ := q st hm
  rw [h5] at q1; cases q1; rw [h6] at q2; cases q2
theorem own_ne_cls {Z : State} {h : Heap} {a b : Addr} {C D : String} (E : Exa Z h a C) (F : Exa Z h b D) (q : C ≠ D) : a ≠ b := fun e => by
  subst e
  obtain ⟨c, k, h1, h2, -⟩ := E; obtain ⟨c', k', g1, g2, -⟩ := F
  rw [h1] at g1; cases g1
  obtain ⟨z, z1, z2⟩ := Vm.findClass_spec h2; obtain ⟨w, w1, w2⟩ := Vm.findClass_spec g2
  rw [z1] at w1; cases w1; exact q (z2.symm.trans w2)
theorem own_nfc {args : Array Value} {s : State} {C : String} {x z y : MethodName} (hsel : (Jvm.Cond.selects C x z).before args s = true) (hc : z.cls = y.cls) : NotFace s y := fun r0 h0 => by
  obtain ⟨c2, r2, m2, q1, q2, q3, q4, kP, hkP, hkPi⟩ := Cond.selects_spec hsel
  have e1 := findClass_of_methodNamed h0
  have e2 := findClass_of_methodNamed q3
  rw [hc, e1] at e2
  exact ⟨kP, by rw [Option.some.inj e2]; exact hkP, hkPi⟩
theorem own_wS {Z : State} {a0 : Array Value} (hw : ∀ d ∈ tables_1, d.before a0 Z = true) : ∀ a ∈ Bundle.stringAtoms, a.before a0 Z = true := fun d hd => by
  simp only [Bundle.stringAtoms, List.mem_cons, List.not_mem_nil, or_false] at hd
  rcases hd with rfl | rfl | rfl | rfl | rfl | rfl | rfl
  · exact (hw _ (List.mem_of_getElem? (i := 6) rfl))
  · exact (hw _ (List.mem_of_getElem? (i := 5) rfl))
  · exact (hw _ (List.mem_of_getElem? (i := 19) rfl))
  · exact (hw _ (List.mem_of_getElem? (i := 20) rfl))
  · exact (hw _ (List.mem_of_getElem? (i := 21) rfl))
  · exact (hw _ (List.mem_of_getElem? (i := 22) rfl))
  · exact (hw _ (List.mem_of_getElem? (i := 23) rfl))
/-! what the tables hold of the constant "" of String: nothing new since the case's start, or she is loaded and known -/
def own_TA (Z : State) (vm : Vm) (h : Heap) : Prop := IB Z vm [] ∧ ∀ (b : Addr) (cl : Cell), Z.heap[b]? = some cl → h[b]? = some cl
def own_TB (Z : State) (vm : Vm) (h : Heap) : Prop := ∃ (a v : Addr) (k : ClassId), Lit (Z.setVm vm) "java/lang/String" 7 a ∧ Exa Z h a "java/lang/String" ∧ Fld Z h a "java/lang/String" "coder" "B" (.int 0) ∧ Fld Z h a "java/lang/String" "value" "[B" (.ref v) ∧ Arv Z h v k .byte 0 [] (.int 0)
def own_T (Z : State) (vm : Vm) (h : Heap) : Prop := own_TA Z vm h ∨ own_TB Z vm h
theorem own_T.keep {Z : State} {vm : Vm} {h h' : Heap} (t : own_T Z vm h) (K : Keep h h' []) : own_T Z vm h' := by
  rcases t with ⟨t1, t2⟩ | ⟨a, v, k, t1, t2, t3, t4, t5⟩
  · exact Or.inl ⟨t1, fun b cl q => K.2.1 b cl (t2 b cl q) (by simp)⟩
  · exact Or.inr ⟨a, v, k, t1, t2.keep K, t3.keep K (by simp), t4.keep K (by simp), t5.keep K (by simp)⟩
theorem own_T.warm {Z s : State} {vm vm1 : Vm} {h : Heap} (t : own_T Z vm h) (hW : (s.setVm vm).WarmedH vm1) : own_T Z vm1 h := by
  rcases t with ⟨⟨more, t1, t1'⟩, t2⟩ | ⟨a, v, k, t1, t2⟩
  · exact Or.inl ⟨⟨more, hW.interned_eq.trans t1, t1'⟩, t2⟩
  · exact Or.inr ⟨a, v, k, State.resolvedAt?_warmed39 (s := s.setVm vm) hW.wide (show (s.setVm vm).resolvedAt? "java/lang/String" 7 = some (.string a) from t1), t2⟩
theorem own_ne_fld {Z : State} {h : Heap} {a b : Addr} {C n d : String} {v w : Value} (F : Fld Z h a C n d v) (G : Fld Z h b C n d w) (q : v ≠ w) : a ≠ b := fun e => by
  subst e
  obtain ⟨cell1, cf1, kf1, i1, fc, g1, g2, g3, g4, g5, g6, g7⟩ := F
  obtain ⟨cell2, cf2, kf2, i2, fv, v1, v2, v3, v4, v5, v6, v7⟩ := G
  cases g1.symm.trans v1
  cases g2.symm.trans v2
  exact q (Option.some.inj (g7.symm.trans v7))
section OwnTab
variable {p : Program} {l : Launch} {e : Env} {R : Room} {s : State} {m : MethodId} {args : Array Value} {below : List Frame} {meth : Method} {c : Code} {T : State} {locs : List Loc} {cells slots : Nat} {Z : State} {a0 : Array Value} {h : Heap} {vm0 : Vm}
theorem own_ldcE (X : Stand p l e R (s.setVm vm0) m args below meth c T locs cells slots) (hx : p.tables.exec = Jvm.exec) (hZ : Z.Warmed39 vm0) (hown : vm0.findClass "java/lang/String" = some m.cls) (w : (Jvm.Cond.stringLink "java/lang/String" 7 "").before a0 Z = true) (wS : ∀ a ∈ Bundle.stringAtoms, a.before a0 Z = true)
    (eT : T.heap = h) {k0 : Nat} (hS : s.Since vm0 k0) (hk : k0 ≤ h.size) (N : Fr s.heap.size locs) (t : own_T Z vm0 s.heap) (hh : Jvm.Lit.constHeld Z "java/lang/String" 7) (hcw : Jvm.Lit.compactW.before a0 Z = true)
    {g : JFrame} (hg : g.method = m) (hd : decode c.code g.pc = .ok (.ldc 7, 2)) (hc : cells + 2 ≤ R.cells) (hl : slots + 4 ≤ R.slots) :
    ∃ (a : Addr) (T' : State) (h' : Heap) (k1 : Nat) (b : Addr) (k : ClassId), Stand p l e R (s.setVm T'.vm) m args below meth c T' locs (cells + 2) (slots + 4) ∧ T'.heap = h' ∧ Ext h h' ∧ s.Since T'.vm k1 ∧ k1 ≤ h'.size ∧ Z.Warmed39 (s.setVm T'.vm).vm ∧ (s.setVm T'.vm).vm.findClass "java/lang/String" = some m.cls ∧
      Exa Z h' a "java/lang/String" ∧ Fld Z h' a "java/lang/String" "coder" "B" (.int 0) ∧ Fld Z h' a "java/lang/String" "value" "[B" (.ref b) ∧ Arv Z h' b k .byte 0 [] (.int 0) ∧ Lit (s.setVm T'.vm) "java/lang/String" 7 a ∧
      ∀ target, Steps p.tables e below (T'.setTop { g with pc := g.pc + 2, stack := .ref a :: g.stack }) target → Steps p.tables e below (T.setTop g) target := by
  rcases t with ⟨t1, t2⟩ | ⟨a, v, k, t1, t2, t3, t4, t5⟩
  · obtain ⟨a, T', h', k1, b, k, r1, r2, r3, r4, r5, r6, r7, r8, r9, r10, r11, r12, r13, r14, r15, r16⟩ := ldcSVL X hx hZ hown w wS eT hS hk N t2 t1 (by simp) hh hcw (vs := []) (z := 0) ⟨by simp, rfl⟩ (by decide) rfl hg hd (n := 0) (by decide) (by decide) hc hl
    exact ⟨a, T', h', k1, b, k, r1, r2, r3, r4, r5, r6, r7, r8, r9, r10, r11, r15, r16⟩
  · subst eT
    have E : Ext s.heap T.heap := ⟨X.same.2.1, fun b cl q => oldF X N b cl q⟩
    have L : Lit (s.setVm vm0) "java/lang/String" 7 a := t1
    have X' := (X.mono (Nat.le_add_right cells 2) (Nat.le_add_right slots 4)).retabled X.warmed.wide
    refine ⟨a, T, _, T.heap.size, v, k, X', rfl, ⟨Nat.le_refl _, fun _ _ q => q⟩, hS.trans (X.warmed.since T.heap.size) hk, Nat.le_refl _, State.Warmed39.trans (t := s.setVm vm0) hZ X.warmed.wide, (X.warmed.alike.findClass _ _).trans hown, t2.ext E, t3.ext E, t4.ext E, t5.ext E, L.stays X.warmed.wide, ldcAgain X hx hZ hown w L hg hd⟩
/-- a callee that may load "": its law speaks of the tables too -/
theorem own_backOfX {y : MethodName} {bytes : ByteArray} {maxL : Nat} {ret : Option FieldType} {rm : Room} {len W : Nat} {as' : Array Value} {Q : Option Value → Heap → List Loc → Prop}
    (hM : MetFree l y (head1 [Jvm.Cond.code y bytes maxL ret] rm) (fun a U => a = as' ∧ (Z.Warmed39 U.vm ∧ own_T Z U.vm h) ∧ U.heap = h) (fun _ _ _ _ _ => True) (fun _ U o U' => ∃ v L, o = .returned v ∧ (Q v U'.heap L ∧ own_T Z U'.vm U'.heap) ∧ ReturnedEndW U o U' L rm.cells rm.slots))
    (hZ : Z.Warmed39 (s.setVm vm0).vm) (hT : own_T Z (s.setVm vm0).vm h) (wc : (Jvm.Cond.code y bytes maxL ret).before a0 Z = true) (wz : (Jvm.Cond.initialized y.cls).before a0 Z = true) (hf : rm.frames + 1 ≤ R.frames) (hl : W + (maxL + 11) + rm.locals ≤ R.locals) :
    BackS l R p e below (s.setVm vm0) args y len W (fun A a => a = as' ∧ A.U.heap = h ∧ A.cells + rm.cells ≤ R.cells ∧ A.slots + rm.slots ≤ R.slots)
      (fun A _ v B => ∃ L, (Q v B.U.heap L ∧ own_T Z B.U.vm B.U.heap) ∧ B.locs = A.locs ++ L ∧ B.cells = A.cells + rm.cells ∧ B.slots = A.slots + rm.slots) :=
  BackS.of_freeW (bytes := bytes) (maxL := maxL) (ret := ret) (E := fun _ _ o t L k n => k = rm.cells ∧ n = rm.slots ∧ ∃ v, o = .returned v ∧ (Q v t.heap L ∧ own_T Z t.vm t.heap)) hM hf hl
    (fun m meth c A a Y hp => have hU : Z.Warmed39 A.U.vm := wtrans hZ Y.warmed
      ⟨by show (Jvm.Cond.and _ .tt).before a A.U = true; rw [Cond.before_and, mv hU wc]; rfl, mv hU wc, mv hU wz, hp.2.2.1, hp.2.2.2⟩)
    (fun m meth c A a g mk Y hp => ⟨hp.1, ⟨wtrans hZ Y.warmed, hT.warm (s := s) Y.warmed⟩, hp.2.1⟩) (fun _ _ _ _ _ _ _ _ _ => trivial)
    (fun _ _ _ _ ⟨v, L, h1, h2, h3⟩ => ⟨L, _, _, h3, rfl, rfl, v, h1, h2⟩)
    (fun m meth c A a g mk v t L k n Y hp _ _ ⟨e1, e2, v', e3, e4⟩ => by cases e3; subst e1 e2; exact ⟨L, e4, rfl, rfl, rfl⟩)
def OutX (Z s : State) (Q : Option Value → Heap → List Loc → Prop) (k n : Nat) (o : Outcome) (t : State) : Prop := ∃ v L, o = .returned v ∧ (Q v t.heap L ∧ own_T Z t.vm t.heap) ∧ ReturnedEndW s o t L k n
theorem Wp.outX {k0 : Nat} (X : Stand p l e R (s.setVm vm0) m args below meth c T locs cells slots) (hS : s.Since vm0 k0) (hk0 : k0 ≤ T.heap.size) (hT : own_T Z vm0 T.heap) {A : State} {v : Option Value} {Q : Option Value → Heap → List Loc → Prop} {k n : Nat} (hv : meth.sig.returnType = none → v = none) (hlk : meth.locks = false)
    (hs : ∀ fs, (∀ (f : JFrame) (acts : List Action), f.method = m → f.locked = none → f.entered = [] → (doReturn e (T.setTop f) acts v).1 = T.setFrames fs) → Steps p.tables e below A (T.setFrames fs)) (hQ : Q v T.heap locs) (hk : cells ≤ k) (hn : slots ≤ n) : Wp p e below (OutX Z s Q k n) A := by
  obtain ⟨fs, hr, hrun, hended, h1, h2, h3, h4⟩ := X.leaveW hS hk0 (v := v) hv hlk
  exact ⟨_, _, hs fs hr, hrun, hended, _, _, rfl, ⟨hQ, hT.warm (s := s) X.warmed⟩, h1, h2, h3, h4.mono hk hn⟩
theorem Wp.retVX {k0 : Nat} (X : Stand p l e R (s.setVm vm0) m args below meth c T locs cells slots) (hS : s.Since vm0 k0) (hk0 : k0 ≤ T.heap.size) (hT : own_T Z vm0 T.heap) (hx : p.tables.exec = Jvm.exec) {pc : Nat} {Ls : Array Slot} {Q : Option Value → Heap → List Loc → Prop} {k n : Nat} (hret : meth.sig.returnType = none) (hd : decode c.code pc = .ok (.return_, 1)) (hlk : meth.locks = false)
    (hQ : Q none T.heap locs) (hk : cells ≤ k) (hn : slots ≤ n) : Wp p e below (OutX Z s Q k n) (T.setTop (mkF m pc Ls [])) := Wp.outX X hS hk0 hT (fun _ => rfl) hlk (fun fs hr => X.returnOut hx hret hd hr) hQ hk hn
theorem Wp.retNX {k0 : Nat} (X : Stand p l e R (s.setVm vm0) m args below meth c T locs cells slots) (hS : s.Since vm0 k0) (hk0 : k0 ≤ T.heap.size) (hT : own_T Z vm0 T.heap) (hx : p.tables.exec = Jvm.exec) {pc : Nat} {Ls : Array Slot} {z : Int32} {rest : List Value} {t : FieldType} {Q : Option Value → Heap → List Loc → Prop} {k n : Nat} (hret : meth.sig.returnType = some t) (ht : t = .boolean ∨ t = .byte ∨ t = .char ∨ t = .short) (hd : decode c.code pc = .ok (.ireturn, 1)) (hlk : meth.locks = false)
    (hQ : Q (some (.int (nar t z))) T.heap locs) (hk : cells ≤ k) (hn : slots ≤ n) : Wp p e below (OutX Z s Q k n) (T.setTop (mkF m pc Ls (.int z :: rest))) := Wp.outX X hS hk0 hT (fun h => by rw [hret] at h; cases h) hlk (fun fs hr => Jvm.RoadKit.retN X hx hret ht hd hr) hQ hk hn
theorem Wp.retAX {k0 : Nat} (X : Stand p l e R (s.setVm vm0) m args below meth c T locs cells slots) (hS : s.Since vm0 k0) (hk0 : k0 ≤ T.heap.size) (hT : own_T Z vm0 T.heap) (hx : p.tables.exec = Jvm.exec) {pc : Nat} {Ls : Array Slot} {w : Value} {rest : List Value} {t : FieldType} {Q : Option Value → Heap → List Loc → Prop} {k n : Nat} (hret : meth.sig.returnType = some t) (hw : w.isRef = true) (hd : decode c.code pc = .ok (.areturn, 1)) (hlk : meth.locks = false)
    (hQ : Q (some w) T.heap locs) (hk : cells ≤ k) (hn : slots ≤ n) (ht : t.isReference = true := by rfl) : Wp p e below (OutX Z s Q k n) (T.setTop (mkF m pc Ls (w :: rest))) := Wp.outX X hS hk0 hT (fun h => by rw [hret] at h; cases h) hlk (fun fs hr => Jvm.RoadKit.retOut X hx hret (by cases t <;> first | (cases ht; done) | (cases w <;> first | (cases hw; done) | rfl)) (Or.inr (Or.inr (Or.inr (Or.inr ⟨rfl, ht, hw⟩)))) hd hr) hQ hk hn
end OwnTab

def own_ch (c0 c1 : Int32) : Nat → Int32 := fun i => if i = 0 then c0 else c1
def own_isC (c : Int32) : Prop := 0 ≤ c.toInt ∧ c.toInt < 65536
def own_n (x : Int32) : Nat := x.toBitVec.toNat
theorem own_n_inj {a b : Int32} (h : own_n a = own_n b) : a = b := Int32.toBitVec_inj.mp (BitVec.eq_of_toNat_eq h)
theorem own_n_isC {c : Int32} (h : own_isC c) : own_n c < 65536 := by
  unfold own_isC at h
  rw [← Int32.toInt_toBitVec, BitVec.toInt_eq_toNat_cond] at h
  have := c.toBitVec.isLt
  unfold own_n
  split at h <;> omega
theorem own_n_b8 (x : Int32) : own_n (x.toInt8.toInt32 &&& 255) = own_n x % 256 := by
  have e : (x.toInt8.toInt32 &&& 255).toBitVec = x.toBitVec &&& 255#32 := by
    rw [Int32.toBitVec_and, Int8.toBitVec_toInt32, Int32.toBitVec_toInt8, show (255 : Int32).toBitVec = 255#32 from rfl]
    have q : ∀ i : Fin 32, (255#32).getLsbD i.val = decide (i.val < 8) := by decide
    apply BitVec.eq_of_getLsbD_eq
    intro i hi
    have := q ⟨i, hi⟩
    simp only [BitVec.getLsbD_and, BitVec.getLsbD_signExtend, BitVec.getLsbD_setWidth, BitVec.msb_setWidth] at this ⊢
    rw [this]
    by_cases h8 : i < 8 <;> simp [h8, hi]
  unfold own_n
  rw [e, BitVec.toNat_and, show (255#32).toNat = 2 ^ 8 - 1 by decide, Nat.and_two_pow_sub_one_eq_mod]
theorem own_n_i2c (x : Int32) : own_n (x.toUInt32.toUInt16.toUInt32.toInt32) = own_n x % 65536 := by
  unfold own_n
  show (x.toUInt32.toUInt16.toUInt32).toBitVec.toNat = _
  show x.toUInt32.toUInt16.toUInt32.toNat = _
  rw [UInt16.toNat_toUInt32, UInt32.toNat_toUInt16]; rfl
theorem own_n_sh8 {x : Int32} (h : own_n x < 65536) : own_n (x >>> ((8 : Int32) &&& 31)) = own_n x / 256 := by
  unfold own_n at *
  rw [Int32.toBitVec_shiftRight, BitVec.sshiftRight', show (((8 : Int32) &&& 31).toBitVec.smod 32).toNat = 8 by decide, BitVec.sshiftRight_eq_of_msb_false (by rw [BitVec.msb_eq_decide]; simpa using (by omega : x.toBitVec.toNat < 2 ^ 31)), BitVec.toNat_ushiftRight, Nat.shiftRight_eq_div_pow]
theorem own_sh0 (x : Int32) : x >>> ((0 : Int32) &&& 31) = x := by
  apply Int32.toBitVec_inj.mp
  rw [Int32.toBitVec_shiftRight, BitVec.sshiftRight', show (((0 : Int32) &&& 31).toBitVec.smod 32).toNat = 0 by decide, BitVec.sshiftRight_zero]
theorem own_shl0 (x : Int32) : x <<< ((0 : Int32) &&& 31) = x := by
  apply Int32.toBitVec_inj.mp
  rw [Int32.toBitVec_shiftLeft, BitVec.shiftLeft_eq', show (((0 : Int32) &&& 31).toBitVec.smod 32).toNat = 0 by decide, BitVec.shiftLeft_zero]
theorem own_n_shl8 {x : Int32} (h : own_n x < 256) : own_n (x <<< ((8 : Int32) &&& 31)) = 2 ^ 8 * own_n x := by
  unfold own_n at *
  rw [Int32.toBitVec_shiftLeft, BitVec.shiftLeft_eq', show (((8 : Int32) &&& 31).toBitVec.smod 32).toNat = 8 by decide, BitVec.toNat_shiftLeft, Nat.shiftLeft_eq]; omega
theorem own_n_or {x y : Int32} {k : Nat} (hy : own_n y = 2 ^ 8 * k) (hx : own_n x < 256) : own_n (x ||| y) = own_n y + own_n x := by
  unfold own_n at *
  rw [Int32.toBitVec_or, BitVec.toNat_or, hy, Nat.or_comm]
  exact (@Nat.two_pow_add_eq_or_of_lt 8 x.toBitVec.toNat (by simpa using hx) k).symm
def own_i2c (x : Int32) : Int32 := x.toUInt32.toUInt16.toUInt32.toInt32
theorem own_i2c_id {c : Int32} (h : own_isC c) : own_i2c c = c := own_n_inj (by unfold own_i2c; rw [own_n_i2c, Nat.mod_eq_of_lt (own_n_isC h)])
theorem own_i2c_isC (x : Int32) : own_isC (own_i2c x) := by
  have h := own_n_i2c x
  unfold own_isC own_i2c
  rw [← Int32.toInt_toBitVec, BitVec.toInt_eq_toNat_cond]
  unfold own_n at h
  have := Nat.mod_lt x.toBitVec.toNat (show 0 < 65536 by decide)
  split <;> omega
theorem own_lat1 {c : Int32} (h : own_isC c) (hl : ¬ (255 : Int32) < c) : own_i2c (c.toInt8.toInt32 &&& 255) = c := by
  have h2 := own_n_isC h
  have h3 : own_n c < 256 := by
    rw [Int32.lt_iff_toInt_lt] at hl
    unfold own_isC at h
    rw [← Int32.toInt_toBitVec c, BitVec.toInt_eq_toNat_cond] at hl
    simp only [Int32.reduceToInt] at hl
    unfold own_n at h2 ⊢
    split at hl <;> omega
  apply own_n_inj; unfold own_i2c; rw [own_n_i2c, own_n_b8]; omega
theorem own_utf1 {c : Int32} (h : own_isC c) : own_i2c ((((c >>> ((0 : Int32) &&& 31)).toInt8.toInt32 &&& 255) <<< ((0 : Int32) &&& 31)) ||| (((c >>> ((8 : Int32) &&& 31)).toInt8.toInt32 &&& 255) <<< ((8 : Int32) &&& 31))) = c := by
  have h2 := own_n_isC h
  rw [own_sh0, own_shl0]
  have a1 := own_n_b8 c
  have a2 := own_n_b8 (c >>> ((8 : Int32) &&& 31))
  rw [own_n_sh8 h2] at a2
  have a3 := own_n_shl8 (x := (c >>> ((8 : Int32) &&& 31)).toInt8.toInt32 &&& 255) (by omega)
  have a4 := own_n_or (x := c.toInt8.toInt32 &&& 255) a3 (by omega)
  apply own_n_inj; unfold own_i2c; rw [own_n_i2c, a4, a3, a2, a1]; omega
def own_lc (g : Nat → Int32) (u : Int32) : Int32 := (((g u.toNatClampNeg) &&& (255 : Int32)).toUInt32.toUInt16.toUInt32.toInt32)
def own_gc (g : Nat → Int32) (u : Int32) : Int32 := (((((g (u <<< ((1 : Int32) &&& 31)).toNatClampNeg) &&& (255 : Int32)) <<< ((0 : Int32) &&& 31)) ||| (((g ((u <<< ((1 : Int32) &&& 31)) + (1 : Int32)).toNatClampNeg) &&& (255 : Int32)) <<< ((8 : Int32) &&& 31))).toUInt32.toUInt16.toUInt32.toInt32)
def own_pc (g : Nat → Int32) (u c : Int32) : Nat → Int32 := own_upd (own_upd g (u <<< ((1 : Int32) &&& 31)).toNatClampNeg ((c >>> ((0 : Int32) &&& 31)).toInt8.toInt32)) ((u <<< ((1 : Int32) &&& 31)) + (1 : Int32)).toNatClampNeg ((c >>> ((8 : Int32) &&& 31)).toInt8.toInt32)
def own_bc (g : Nat → Int32) (u c : Int32) : Nat → Int32 := own_upd g u.toNatClampNeg (c.toInt8.toInt32)
def own_cal (u len : Int32) : Int32 := ((((u - len).toUInt32 >>> ((31 : Int32) &&& 31).toUInt32).toInt32).toInt8.toInt32)
theorem own_gc_pc {g : Nat → Int32} {u c : Int32} (h : own_isC c) (hu : u = 0 ∨ u = 1) : own_gc (own_pc g u c) u = c := by
  have := own_utf1 h
  rcases hu with rfl | rfl <;> exact this
theorem own_gc_pc0 {g : Nat → Int32} {c d : Int32} (h : own_isC c) : own_gc (own_pc (own_pc g 0 c) 1 d) 0 = c := by
  have := own_utf1 h
  exact this
/-- the two ways to hold n chars in bytes -/
def own_enc (n : Int32) (len cc : Int32) (g : Nat → Int32) (f : Nat → Int32) : Prop :=
  (cc = 0 ∧ len = n ∧ ∀ u : Int32, ¬ u < 0 → u < n → own_lc g u = f u.toNatClampNeg) ∨ (cc = 1 ∧ len = n + n ∧ ∀ u : Int32, ¬ u < 0 → u < n → own_gc g u = f u.toNatClampNeg)
theorem own_idx1 {u : Int32} (h1 : ¬ u < 0) (h2 : u < 1) : u = 0 := by
  rw [Int32.lt_iff_toInt_lt] at h1 h2
  simp only [Int32.reduceToInt] at h1 h2
  exact Int32.toInt_inj.mp (by simp only [Int32.reduceToInt]; omega)
theorem own_idx2 {u : Int32} (h1 : ¬ u < 0) (h2 : u < 2) : u = 0 ∨ u = 1 := by
  rw [Int32.lt_iff_toInt_lt] at h1 h2
  simp only [Int32.reduceToInt] at h1 h2
  rcases (show u.toInt = 0 ∨ u.toInt = 1 by omega) with h | h
  · exact Or.inl (Int32.toInt_inj.mp (by simpa using h))
  · exact Or.inr (Int32.toInt_inj.mp (by simpa using h))
theorem own_enc0 (g f : Nat → Int32) : own_enc 0 0 0 g f := Or.inl ⟨rfl, rfl, fun u h1 h2 => absurd h2 h1⟩
theorem own_encL1 {g : Nat → Int32} {c0 c1 : Int32} (h0 : own_isC c0) (l0 : ¬ (255 : Int32) < c0) : own_enc 1 1 0 (own_bc g 0 c0) (own_ch c0 c1) :=
  Or.inl ⟨rfl, rfl, fun u h1 h2 => by obtain rfl := own_idx1 h1 h2; exact own_lat1 h0 l0⟩
theorem own_encL2 {g : Nat → Int32} {c0 c1 : Int32} (h0 : own_isC c0) (h1 : own_isC c1) (l0 : ¬ (255 : Int32) < c0) (l1 : ¬ (255 : Int32) < c1) : own_enc 2 2 0 (own_bc (own_bc g 0 c0) 1 c1) (own_ch c0 c1) :=
  Or.inl ⟨rfl, rfl, fun u a b => by
    rcases own_idx2 a b with rfl | rfl
    · exact own_lat1 h0 l0
    · exact own_lat1 h1 l1⟩
theorem own_encU1 {g : Nat → Int32} {c0 c1 : Int32} (h0 : own_isC c0) : own_enc 1 2 1 (own_pc g 0 c0) (own_ch c0 c1) :=
  Or.inr ⟨rfl, rfl, fun u h1 h2 => by obtain rfl := own_idx1 h1 h2; exact own_gc_pc h0 (Or.inl rfl)⟩
theorem own_encU2 {g : Nat → Int32} {c0 c1 : Int32} (h0 : own_isC c0) (h1 : own_isC c1) : own_enc 2 4 1 (own_pc (own_pc g 0 c0) 1 c1) (own_ch c0 c1) :=
  Or.inr ⟨rfl, rfl, fun u a b => by
    rcases own_idx2 a b with rfl | rfl
    · exact own_gc_pc0 h0
    · exact own_gc_pc h1 (Or.inr rfl)⟩
def own_n3 (n : Int32) : Prop := n = 0 ∨ n = 1 ∨ n = 2
theorem own_len {n len cc : Int32} {g f : Nat → Int32} (hn : own_n3 n) (h : own_enc n len cc g f) : (len >>> (cc &&& 31)) = n := by
  rcases h with ⟨rfl, rfl, -⟩ | ⟨rfl, rfl, -⟩ <;> rcases hn with rfl | rfl | rfl <;> decide
theorem own_cc {n len cc : Int32} {g f : Nat → Int32} (h : own_enc n len cc g f) : cc = 0 ∨ cc = 1 := by
  rcases h with ⟨h, -⟩ | ⟨h, -⟩
  · exact Or.inl h
  · exact Or.inr h
def own_il (cc : Int32) : Int32 := if cc = 0 then 1 else 0
theorem own_pickL {n len cc : Int32} {g f : Nat → Int32} (h : own_enc n len cc g f) (q : ¬ own_il cc = 0) : len = n ∧ ∀ u : Int32, ¬ u < 0 → u < n → own_lc g u = f u.toNatClampNeg := by
  rcases h with ⟨rfl, h⟩ | ⟨rfl, h⟩
  · exact h
  · exact absurd (by decide) q
theorem own_pickU {n len cc : Int32} {g f : Nat → Int32} (h : own_enc n len cc g f) (q : own_il cc = 0) : len = n + n ∧ ∀ u : Int32, ¬ u < 0 → u < n → own_gc g u = f u.toNatClampNeg := by
  rcases h with ⟨rfl, h⟩ | ⟨rfl, h⟩
  · exact absurd q (by decide)
  · exact h
theorem own_u16 {n len u : Int32} (hn : own_n3 n) (hl : len = n + n) (h1 : ¬ u < 0) (h2 : u < n) : u < (len >>> ((1 : Int32) &&& 31)) ∧ (¬ (u <<< ((1 : Int32) &&& 31)) < 0 ∧ (u <<< ((1 : Int32) &&& 31)) < len) ∧ (¬ ((u <<< ((1 : Int32) &&& 31)) + (1 : Int32)) < 0 ∧ ((u <<< ((1 : Int32) &&& 31)) + (1 : Int32)) < len) := by
  subst hl
  rcases hn with rfl | rfl | rfl
  · exact absurd h2 h1
  · obtain rfl := own_idx1 h1 h2; decide
  · rcases own_idx2 h1 h2 with rfl | rfl <;> decide
/-! the order -/
def own_sgn (x : Int32) : Int32 := if x < 0 then -1 else if 0 < x then 1 else 0
def own_key (v : Int32) : Int32 := if v < 55296 then v else if 57343 < v then v else v + 65536
def own_rank (v : Int32) : Int32 := if v < 57344 then (if v < 55296 then v else v + 8192) else v - 2048
def own_icmp (a b : Int32) : Int32 := if a < b then -1 else if a = b then 0 else 1
def own_min (a b : Int32) : Int32 := if b < a then b else a
def own_cs (n k : Int32) (f g : Nat → Int32) : Int32 := if 0 < own_min n k then (if f 0 = g 0 then (if 1 < own_min n k then (if f 1 = g 1 then own_icmp n k else own_icmp (own_rank (f 1)) (own_rank (g 1))) else own_icmp n k) else own_icmp (own_rank (f 0)) (own_rank (g 0))) else own_icmp n k
theorem own_add_toInt {a : Int32} {k : Int32} {s : Int} (h : a.toInt + k.toInt = s) (h1 : -2147483648 ≤ s) (h2 : s < 2147483648) : (a + k).toInt = s := by
  rw [Int32.toInt_add, h]; exact Int.bmod_eq_of_le (by omega) (by omega)
theorem own_sub_toInt {a : Int32} {k : Int32} {s : Int} (h : a.toInt - k.toInt = s) (h1 : -2147483648 ≤ s) (h2 : s < 2147483648) : (a - k).toInt = s := by
  rw [Int32.toInt_sub, h]; exact Int.bmod_eq_of_le (by omega) (by omega)
theorem own_key_toInt {v : Int32} (h : own_isC v) : (own_key v).toInt = if v.toInt < 55296 then v.toInt else if 57343 < v.toInt then v.toInt else v.toInt + 65536 := by
  unfold own_isC at h
  unfold own_key
  simp only [Int32.lt_iff_toInt_lt, Int32.reduceToInt]
  split
  · rfl
  · split
    · rfl
    · exact own_add_toInt rfl (by omega) (by omega)
theorem own_rank_toInt {v : Int32} (h : own_isC v) : (own_rank v).toInt = if v.toInt < 57344 then (if v.toInt < 55296 then v.toInt else v.toInt + 8192) else v.toInt - 2048 := by
  unfold own_isC at h
  unfold own_rank
  simp only [Int32.lt_iff_toInt_lt, Int32.reduceToInt]
  split
  · split
    · rfl
    · exact own_add_toInt rfl (by omega) (by omega)
  · exact own_sub_toInt rfl (by omega) (by omega)
theorem own_sgn_sub {a b x y : Int32} {s : Int} (h : (a - b).toInt = s) (h1 : s < 0 ↔ x.toInt < y.toInt) (h2 : 0 < s ↔ y.toInt < x.toInt) : own_sgn (a - b) = own_icmp x y := by
  unfold own_sgn own_icmp
  simp only [Int32.lt_iff_toInt_lt, ← Int32.toInt_inj, Int32.reduceToInt, h]
  by_cases c1 : s < 0
  · rw [if_pos c1, if_pos (h1.mp c1)]
  · rw [if_neg c1, if_neg (fun q => c1 (h1.mpr q))]
    by_cases c2 : 0 < s
    · have := h2.mp c2; rw [if_pos c2, if_neg (by omega)]
    · have n1 := fun q => c1 (h1.mpr q); have n2 := fun q => c2 (h2.mpr q); rw [if_neg c2, if_pos (by omega)]
theorem own_kr {a b : Int32} (ha : own_isC a) (hb : own_isC b) : own_sgn (own_key a - own_key b) = own_icmp (own_rank a) (own_rank b) := by
  have ka := own_key_toInt ha; have kb := own_key_toInt hb; have ra := own_rank_toInt ha; have rb := own_rank_toInt hb
  unfold own_isC at ha hb
  have hs : (own_key a - own_key b).toInt = (own_key a).toInt - (own_key b).toInt := own_sub_toInt rfl (by rw [ka, kb]; split <;> split <;> (try split) <;> (try split) <;> omega) (by rw [ka, kb]; split <;> split <;> (try split) <;> (try split) <;> omega)
  refine own_sgn_sub hs ?_ ?_ <;> rw [ka, kb, ra, rb] <;> constructor <;> intro h <;> (repeat' split at h) <;> (repeat' split) <;> omega
theorem own_sgn_icmp (a b : Int32) : own_sgn (own_icmp a b) = own_icmp a b := by
  unfold own_icmp; split
  · decide
  · split <;> decide
theorem own_icmp_swap (a b : Int32) : own_icmp b a = - own_icmp a b := by
  unfold own_icmp
  simp only [Int32.lt_iff_toInt_lt, ← Int32.toInt_inj]
  by_cases c1 : a.toInt < b.toInt
  · rw [if_neg (by omega), if_neg (by omega), if_pos c1]; decide
  · by_cases c2 : a.toInt = b.toInt
    · rw [if_neg (by omega), if_pos c2.symm, if_neg c1, if_pos c2]; decide
    · rw [if_pos (by omega), if_neg c1, if_neg c2]
theorem own_min_swap (a b : Int32) : own_min b a = own_min a b := by
  unfold own_min
  simp only [Int32.lt_iff_toInt_lt]
  split <;> split <;> first | rfl | omega | (apply Int32.toInt_inj.mp; omega)
theorem own_cs_sgn (n k : Int32) (f g : Nat → Int32) : own_sgn (own_cs n k f g) = own_cs n k f g := by
  unfold own_cs; (repeat' split) <;> exact own_sgn_icmp _ _
theorem own_cs_swap (n k : Int32) (f g : Nat → Int32) : own_cs k n g f = - own_cs n k f g := by
  unfold own_cs
  rw [own_min_swap n k]
  split
  · by_cases c : f 0 = g 0
    · rw [if_pos c, if_pos c.symm]
      split
      · by_cases c' : f 1 = g 1
        · rw [if_pos c', if_pos c'.symm]; exact own_icmp_swap _ _
        · rw [if_neg c', if_neg (Ne.symm c')]; exact own_icmp_swap _ _
      · exact own_icmp_swap _ _
    · rw [if_neg c, if_neg (Ne.symm c)]; exact own_icmp_swap _ _
  · exact own_icmp_swap _ _
theorem own_min_lt {j a b : Int32} : j < own_min a b ↔ j < a ∧ j < b := by
  unfold own_min
  simp only [Int32.lt_iff_toInt_lt]
  split <;> omega
theorem own_sub3 {a b : Int32} (ha : own_n3 a) (hb : own_n3 b) : own_sgn (a - b) = own_icmp a b := by
  rcases ha with rfl | rfl | rfl <;> rcases hb with rfl | rfl | rfl <;> decide
theorem own_case0 {a b : Int32} {f g : Nat → Int32} (h0 : own_isC (f 0)) (h1 : own_isC (g 0)) (ca : 0 < a) (cb : 0 < b) (cc : ¬ f 0 = g 0) : own_cs a b f g = own_sgn (own_key (f 0) - own_key (g 0)) := by
  unfold own_cs; rw [if_pos (own_min_lt.mpr ⟨ca, cb⟩), if_neg cc, own_kr h0 h1]
theorem own_case1 {a b : Int32} {f g : Nat → Int32} (h0 : own_isC (f 1)) (h1 : own_isC (g 1)) (hn : ¬ (0 < a ∧ 0 < b ∧ ¬ f 0 = g 0)) (ca : 1 < a) (cb : 1 < b) (cc : ¬ f 1 = g 1) : own_cs a b f g = own_sgn (own_key (f 1) - own_key (g 1)) := by
  have ca0 : 0 < a := Int32.lt_trans (by decide) ca
  have cb0 : 0 < b := Int32.lt_trans (by decide) cb
  unfold own_cs; rw [if_pos (own_min_lt.mpr ⟨ca0, cb0⟩), if_pos (Classical.byContradiction fun q => hn ⟨ca0, cb0, q⟩), if_pos (own_min_lt.mpr ⟨ca, cb⟩), if_neg cc, own_kr h0 h1]
theorem own_case2 {a b : Int32} {f g : Nat → Int32} (ha : own_n3 a) (hb : own_n3 b) (hn : ¬ (0 < a ∧ 0 < b ∧ ¬ f 0 = g 0)) (hm : ¬ (1 < a ∧ 1 < b ∧ ¬ f 1 = g 1)) : own_cs a b f g = own_sgn (a - b) := by
  rw [own_sub3 ha hb]
  unfold own_cs
  by_cases c : 0 < own_min a b
  · have c' := own_min_lt.mp c
    rw [if_pos c, if_pos (Classical.byContradiction fun q => hn ⟨c'.1, c'.2, q⟩)]
    by_cases d : 1 < own_min a b
    · have d' := own_min_lt.mp d
      rw [if_pos d, if_pos (Classical.byContradiction fun q => hm ⟨d'.1, d'.2, q⟩)]
    · rw [if_neg d]
  · rw [if_neg c]
theorem own_rem3 (x : Int32) : own_n3 ((x &&& 3) % 3) := by
  have h : own_n (x &&& 3) < 4 := by
    unfold own_n; rw [Int32.toBitVec_and, BitVec.toNat_and, show (3 : Int32).toBitVec.toNat = 2 ^ 2 - 1 by decide, Nat.and_two_pow_sub_one_eq_mod]; exact Nat.mod_lt _ (by decide)
  generalize x &&& 3 = y at *
  obtain ⟨k, hk⟩ : ∃ k : Fin 4, y = Int32.ofNat k.val := ⟨⟨own_n y, h⟩, own_n_inj (by
    show own_n y = (Int32.ofNat (own_n y)).toBitVec.toNat
    show own_n y = (BitVec.ofNat 32 (own_n y)).toNat
    rw [BitVec.toNat_ofNat, Nat.mod_eq_of_lt (by omega)])⟩
  subst hk
  have q : ∀ k : Fin 4, own_n3 ((Int32.ofNat k.val) % 3) := by unfold own_n3; decide
  exact q k

theorem own_nsB {ty : FieldType} {Z : State} {h : Heap} {a : Addr} {len : Int32} {g : Nat → Int32} (F : own_IA ty Z h a len g) : ∃ c : Cell, h[a]? = some c ∧ c.vm.isStatics = false := by obtain ⟨c, A, -⟩ := F; exact ⟨c, A.1, A.plain⟩
theorem own_ne_arr {ty : FieldType} {Z : State} {h : Heap} {a b : Addr} {len : Int32} {g : Nat → Int32} {C : String} {n : Nat} {a0 : Array Value} (E : Exa Z h a C) (wi : (Jvm.Cond.instantiable C n).before a0 Z = true) (F : own_IA ty Z h b len g) : b ≠ a := fun q => by
  subst q
  obtain ⟨cell, k, h1, h2, h3, -⟩ := E
  obtain ⟨c, A, -⟩ := F
  cases h1.symm.trans A.1
  obtain ⟨-, k', hk', comp, hkind⟩ := A.2.1
  obtain ⟨cI, kI, hfI, hkI, hkindI, -⟩ := Cond.instantiable_spec wi
  cases h2.symm.trans hfI
  cases hkI.symm.trans hk'
  rw [hkindI] at hkind; cases hkind
theorem own_narc (x : Int32) : nar .char (x.toUInt32.toUInt16.toUInt32.toInt32) = x.toUInt32.toUInt16.toUInt32.toInt32 := own_i2c_id (own_i2c_isC x)
theorem own_nar_isC {c : Int32} (h : own_isC c) : nar .char c = c := own_i2c_id h
/-- a String that holds n chars -/
def own_S (Z : State) (h : Heap) (o : Addr) (n : Int32) (f : Nat → Int32) : Prop :=
  ∃ (va : Addr) (cc len : Int32) (g : Nat → Int32), Exa Z h o "java/lang/String" ∧ Fld Z h o "java/lang/String" "value" "[B" (.ref va) ∧ Fld Z h o "java/lang/String" "coder" "B" (.int cc) ∧ own_IA .byte Z h va len g ∧ own_n3 n ∧ own_enc n len cc g f
theorem own_S.exa {Z : State} {h : Heap} {o : Addr} {n : Int32} {f : Nat → Int32} (F : own_S Z h o n f) : Exa Z h o "java/lang/String" := by obtain ⟨va, cc, len, g, h1, -⟩ := F; exact h1
theorem own_S.lt {Z : State} {h : Heap} {o : Addr} {n : Int32} {f : Nat → Int32} (F : own_S Z h o n f) : o < h.size := F.exa.lt
theorem own_S.keep {Z : State} {h h' : Heap} {o : Addr} {n : Int32} {f : Nat → Int32} (F : own_S Z h o n f) (K : Keep h h' []) : own_S Z h' o n f := by
  obtain ⟨va, cc, len, g, h1, h2, h3, h4, h5⟩ := F
  exact ⟨va, cc, len, g, h1.keep K, h2.keep K nin0, h3.keep K nin0, h4.keep K nin0, h5⟩
theorem d9_0 : decode jdk_29_method_69_code 0 = .ok (.iload_n 0, 1) := by decide +kernel
theorem d9_1 : decode jdk_29_method_69_code 1 = .ok (.iload_n 1, 1) := by decide +kernel
theorem d9_2 : decode jdk_29_method_69_code 2 = .ok (.if_icmp .gt 7, 3) := by decide +kernel
theorem d9_5 : decode jdk_29_method_69_code 5 = .ok (.iload_n 0, 1) := by decide +kernel
theorem d9_6 : decode jdk_29_method_69_code 6 = .ok (.goto 4, 3) := by decide +kernel
theorem d9_9 : decode jdk_29_method_69_code 9 = .ok (.iload_n 1, 1) := by decide +kernel
theorem d9_10 : decode jdk_29_method_69_code 10 = .ok (.ireturn, 1) := by decide +kernel
theorem ef_9_00 (m : MethodId) (x0 : Int32) (x1 : Int32) : entryFrame m #[(.int x0), (.int x1)] 2 = mkF m 0 #[.val (.int x0), .val (.int x1)] [] := by first | (simp [entryFrame, mkF, argsToLocals, Value.category]; done) | rfl
def Q9 (Z : State) (u0 : Int32) (u1 : Int32) (h0 : Heap) (n0 : Nat) (v : Option Value) (h : Heap) (L : List Loc) : Prop := v = some (.int (own_min u0 u1)) ∧ Fr n0 L ∧ h = h0
set_option maxRecDepth 65536 in
set_option maxHeartbeats 40000000 in
theorem rm9 (l : Launch) (Z : State) (a0 : Array Value) (hw : ∀ d ∈ tables_1, d.before a0 Z = true) (ws : List Jvm.Cond) (u0 : Int32) (u1 : Int32) (h0 : Heap) (n0 : Nat) (Z0 : n0 ≤ h0.size) :
    MetFree l (⟨"java/lang/Math", "min", "(II)I"⟩ : MethodName) (head1 (Jvm.Cond.code (⟨"java/lang/Math", "min", "(II)I"⟩ : MethodName) jdk_29_method_69_code 2 (some .int) :: ws) ({ frames := 0, cells := 0, slots := 0, locals := 0 } : Room)) (fun a U => a = #[(.int u0), (.int u1)] ∧ Z.Warmed39 U.vm ∧ U.heap = h0) (fun _ _ _ _ _ => True) (fun _ U o U' => ∃ v L, o = .returned v ∧ Q9 Z u0 u1 h0 n0 v U'.heap L ∧ FrameEnd U o U' L ({ frames := 0, cells := 0, slots := 0, locals := 0 } : Room).cells ({ frames := 0, cells := 0, slots := 0, locals := 0 } : Room).slots) := by
  refine MetFree.of_bodySF (Jvm.Free.JP.mathPlain rfl (by decide +kernel)) hisR ?_
  intro p e s m args below meth c s₁ Bd hml0 hP hK
  obtain ⟨rfl, hZ, hh⟩ := hP
  have hx := Bd.exec
  have hby := Bd.bytes
  have hlk : meth.locks = false := Bd.notSynchronized
  have hml : c.maxLocals = 2 := hml0
  have hown : s.vm.findClass "java/lang/Math" = some m.cls := findClass_of_methodNamed Bd.named
  have hnm := (name_of_methodNamed Bd.named Bd.method).1
  have X0 : Stand p l e ({ frames := 0, cells := 0, slots := 0, locals := 0 } : Room) s m #[(.int u0), (.int u1)] below meth c s₁ [] 0 0 := Stand.of_body Bd
  have e0 : s₁.heap = h0 := by rw [← hh, Bd.state]; rfl
  have N0 := Fr.nil n0
  have K0 : Keep h0 h0 [] := Keep.refl h0 _
  show Wp p e below (Out s (Q9 Z u0 u1 h0 n0) ({ frames := 0, cells := 0, slots := 0, locals := 0 } : Room).cells ({ frames := 0, cells := 0, slots := 0, locals := 0 } : Room).slots) (s₁.setTop (entryFrame m #[(.int u0), (.int u1)] 2))
  rw [ef_9_00]
  show Wp p e below _ (s₁.setTop (mkF m 0 #[.val (.int u0), .val (.int u1)] []))
  refine Wp.step (fun t k => XS.iloadN X0.here hx rfl (hb hby d9_0) rfl k) ?_
  show Wp p e below _ (s₁.setTop (mkF m 1 #[.val (.int u0), .val (.int u1)] [(.int u0)]))
  refine Wp.step (fun t k => XS.iloadN X0.here hx rfl (hb hby d9_1) rfl k) ?_
  show Wp p e below _ (s₁.setTop (mkF m 2 #[.val (.int u0), .val (.int u1)] [(.int u1), (.int u0)]))
  by_cases hc1 : u1 < u0
  · refine Wp.step (fun t k => XS.icmpYes X0.here hx rfl (pc0 := 2) (pc' := 9) rfl (hb hby d9_2) rfl (tlt hc1).2.2.1 (by decide) (by decide) k) ?_
    show Wp p e below _ (s₁.setTop (mkF m 9 #[.val (.int u0), .val (.int u1)] []))
    refine Wp.step (fun t k => XS.iloadN X0.here hx rfl (hb hby d9_9) rfl k) ?_
    show Wp p e below _ (s₁.setTop (mkF m 10 #[.val (.int u0), .val (.int u1)] [(.int u1)]))
    refine Wp.retI X0 hx Bd.returns (hb hby d9_10) hlk ?_ (by decide) (by decide)
    show Q9 Z u0 u1 h0 n0 (some (.int u1)) s₁.heap _
    rw [e0]
    exact ⟨(by rw [own_min, if_pos hc1]), N0, rfl⟩
  · refine Wp.step (fun t k => XS.icmpNo X0.here hx rfl (hb hby d9_2) rfl (flt hc1).2.2.1 k) ?_
    show Wp p e below _ (s₁.setTop (mkF m 5 #[.val (.int u0), .val (.int u1)] []))
    refine Wp.step (fun t k => XS.iloadN X0.here hx rfl (hb hby d9_5) rfl k) ?_
    show Wp p e below _ (s₁.setTop (mkF m 6 #[.val (.int u0), .val (.int u1)] [(.int u0)]))
    refine Wp.step (fun t k => XS.goto X0.here hx rfl (pc0 := 6) (pc' := 10) rfl (hb hby d9_6) (by decide) (by decide) k) ?_
    show Wp p e below _ (s₁.setTop (mkF m 10 #[.val (.int u0), .val (.int u1)] [(.int u0)]))
    refine Wp.retI X0 hx Bd.returns (hb hby d9_10) hlk ?_ (by decide) (by decide)
    show Q9 Z u0 u1 h0 n0 (some (.int u0)) s₁.heap _
    rw [e0]
    exact ⟨(by rw [own_min, if_neg hc1]), N0, rfl⟩
theorem d10_0 : decode jdk_33_method_40_code 0 = .ok (.iload_n 0, 1) := by decide +kernel
theorem d10_1 : decode jdk_33_method_40_code 1 = .ok (.iload_n 1, 1) := by decide +kernel
theorem d10_2 : decode jdk_33_method_40_code 2 = .ok (.if_icmp .ge 7, 3) := by decide +kernel
theorem d10_5 : decode jdk_33_method_40_code 5 = .ok (.iconst (-1), 1) := by decide +kernel
theorem d10_6 : decode jdk_33_method_40_code 6 = .ok (.goto 13, 3) := by decide +kernel
theorem d10_9 : decode jdk_33_method_40_code 9 = .ok (.iload_n 0, 1) := by decide +kernel
theorem d10_10 : decode jdk_33_method_40_code 10 = .ok (.iload_n 1, 1) := by decide +kernel
theorem d10_11 : decode jdk_33_method_40_code 11 = .ok (.if_icmp .ne 7, 3) := by decide +kernel
theorem d10_14 : decode jdk_33_method_40_code 14 = .ok (.iconst 0, 1) := by decide +kernel
theorem d10_15 : decode jdk_33_method_40_code 15 = .ok (.goto 4, 3) := by decide +kernel
theorem d10_18 : decode jdk_33_method_40_code 18 = .ok (.iconst 1, 1) := by decide +kernel
theorem d10_19 : decode jdk_33_method_40_code 19 = .ok (.ireturn, 1) := by decide +kernel
theorem pn_java_lang_Integer : plainName "java/lang/Integer" = true := by first | (simp [plainName, overriddenIn]; done) | decide +kernel
theorem ef_10_00 (m : MethodId) (x0 : Int32) (x1 : Int32) : entryFrame m #[(.int x0), (.int x1)] 2 = mkF m 0 #[.val (.int x0), .val (.int x1)] [] := by first | (simp [entryFrame, mkF, argsToLocals, Value.category]; done) | rfl
def Q10 (Z : State) (u0 : Int32) (u1 : Int32) (h0 : Heap) (n0 : Nat) (v : Option Value) (h : Heap) (L : List Loc) : Prop := v = some (.int (own_icmp u0 u1)) ∧ Fr n0 L ∧ h = h0
set_option maxRecDepth 65536 in
set_option maxHeartbeats 40000000 in
theorem rm10 (l : Launch) (Z : State) (a0 : Array Value) (hw : ∀ d ∈ tables_1, d.before a0 Z = true) (ws : List Jvm.Cond) (u0 : Int32) (u1 : Int32) (h0 : Heap) (n0 : Nat) (Z0 : n0 ≤ h0.size) :
    MetFree l (⟨"java/lang/Integer", "compare", "(II)I"⟩ : MethodName) (head1 (Jvm.Cond.code (⟨"java/lang/Integer", "compare", "(II)I"⟩ : MethodName) jdk_33_method_40_code 2 (some .int) :: ws) ({ frames := 0, cells := 0, slots := 0, locals := 0 } : Room)) (fun a U => a = #[(.int u0), (.int u1)] ∧ Z.Warmed39 U.vm ∧ U.heap = h0) (fun _ _ _ _ _ => True) (fun _ U o U' => ∃ v L, o = .returned v ∧ Q10 Z u0 u1 h0 n0 v U'.heap L ∧ FrameEnd U o U' L ({ frames := 0, cells := 0, slots := 0, locals := 0 } : Room).cells ({ frames := 0, cells := 0, slots := 0, locals := 0 } : Room).slots) := by
  refine MetFree.of_bodySF (plainFor_of_name pn_java_lang_Integer) hisR ?_
  intro p e s m args below meth c s₁ Bd hml0 hP hK
  obtain ⟨rfl, hZ, hh⟩ := hP
  have hx := Bd.exec
  have hby := Bd.bytes
  have hlk : meth.locks = false := Bd.notSynchronized
  have hml : c.maxLocals = 2 := hml0
  have hown : s.vm.findClass "java/lang/Integer" = some m.cls := findClass_of_methodNamed Bd.named
  have hnm := (name_of_methodNamed Bd.named Bd.method).1
  have X0 : Stand p l e ({ frames := 0, cells := 0, slots := 0, locals := 0 } : Room) s m #[(.int u0), (.int u1)] below meth c s₁ [] 0 0 := Stand.of_body Bd
  have e0 : s₁.heap = h0 := by rw [← hh, Bd.state]; rfl
  have N0 := Fr.nil n0
  have K0 : Keep h0 h0 [] := Keep.refl h0 _
  show Wp p e below (Out s (Q10 Z u0 u1 h0 n0) ({ frames := 0, cells := 0, slots := 0, locals := 0 } : Room).cells ({ frames := 0, cells := 0, slots := 0, locals := 0 } : Room).slots) (s₁.setTop (entryFrame m #[(.int u0), (.int u1)] 2))
  rw [ef_10_00]
  show Wp p e below _ (s₁.setTop (mkF m 0 #[.val (.int u0), .val (.int u1)] []))
  refine Wp.step (fun t k => XS.iloadN X0.here hx rfl (hb hby d10_0) rfl k) ?_
  show Wp p e below _ (s₁.setTop (mkF m 1 #[.val (.int u0), .val (.int u1)] [(.int u0)]))
  refine Wp.step (fun t k => XS.iloadN X0.here hx rfl (hb hby d10_1) rfl k) ?_
  show Wp p e below _ (s₁.setTop (mkF m 2 #[.val (.int u0), .val (.int u1)] [(.int u1), (.int u0)]))
  by_cases hc1 : u0 < u1
  · refine Wp.step (fun t k => XS.icmpNo X0.here hx rfl (hb hby d10_2) rfl (tlt hc1).2.1 k) ?_
    show Wp p e below _ (s₁.setTop (mkF m 5 #[.val (.int u0), .val (.int u1)] []))
    refine Wp.step (fun t k => XS.iconst X0.here hx rfl (hb hby d10_5) k) ?_
    show Wp p e below _ (s₁.setTop (mkF m 6 #[.val (.int u0), .val (.int u1)] [(.int (-1 : Int32))]))
    refine Wp.step (fun t k => XS.goto X0.here hx rfl (pc0 := 6) (pc' := 19) rfl (hb hby d10_6) (by decide) (by decide) k) ?_
    show Wp p e below _ (s₁.setTop (mkF m 19 #[.val (.int u0), .val (.int u1)] [(.int (-1 : Int32))]))
    refine Wp.retI X0 hx Bd.returns (hb hby d10_19) hlk ?_ (by decide) (by decide)
    show Q10 Z u0 u1 h0 n0 (some (.int (-1 : Int32))) s₁.heap _
    rw [e0]
    exact ⟨(by rw [own_icmp, if_pos hc1]), N0, rfl⟩
  · refine Wp.step (fun t k => XS.icmpYes X0.here hx rfl (pc0 := 2) (pc' := 9) rfl (hb hby d10_2) rfl (flt hc1).2.1 (by decide) (by decide) k) ?_
    show Wp p e below _ (s₁.setTop (mkF m 9 #[.val (.int u0), .val (.int u1)] []))
    refine Wp.step (fun t k => XS.iloadN X0.here hx rfl (hb hby d10_9) rfl k) ?_
    show Wp p e below _ (s₁.setTop (mkF m 10 #[.val (.int u0), .val (.int u1)] [(.int u0)]))
    refine Wp.step (fun t k => XS.iloadN X0.here hx rfl (hb hby d10_10) rfl k) ?_
    show Wp p e below _ (s₁.setTop (mkF m 11 #[.val (.int u0), .val (.int u1)] [(.int u1), (.int u0)]))
    by_cases hc2 : u0 = u1
    · refine Wp.step (fun t k => XS.icmpNo X0.here hx rfl (hb hby d10_11) rfl (teq hc2).2 k) ?_
      show Wp p e below _ (s₁.setTop (mkF m 14 #[.val (.int u0), .val (.int u1)] []))
      refine Wp.step (fun t k => XS.iconst X0.here hx rfl (hb hby d10_14) k) ?_
      show Wp p e below _ (s₁.setTop (mkF m 15 #[.val (.int u0), .val (.int u1)] [(.int (0 : Int32))]))
      refine Wp.step (fun t k => XS.goto X0.here hx rfl (pc0 := 15) (pc' := 19) rfl (hb hby d10_15) (by decide) (by decide) k) ?_
      show Wp p e below _ (s₁.setTop (mkF m 19 #[.val (.int u0), .val (.int u1)] [(.int (0 : Int32))]))
      refine Wp.retI X0 hx Bd.returns (hb hby d10_19) hlk ?_ (by decide) (by decide)
      show Q10 Z u0 u1 h0 n0 (some (.int (0 : Int32))) s₁.heap _
      rw [e0]
      exact ⟨(by rw [own_icmp, if_neg hc1, if_pos hc2]), N0, rfl⟩
    · refine Wp.step (fun t k => XS.icmpYes X0.here hx rfl (pc0 := 11) (pc' := 18) rfl (hb hby d10_11) rfl (feq hc2).2 (by decide) (by decide) k) ?_
      show Wp p e below _ (s₁.setTop (mkF m 18 #[.val (.int u0), .val (.int u1)] []))
      refine Wp.step (fun t k => XS.iconst X0.here hx rfl (hb hby d10_18) k) ?_
      show Wp p e below _ (s₁.setTop (mkF m 19 #[.val (.int u0), .val (.int u1)] [(.int (1 : Int32))]))
      refine Wp.retI X0 hx Bd.returns (hb hby d10_19) hlk ?_ (by decide) (by decide)
      show Q10 Z u0 u1 h0 n0 (some (.int (1 : Int32))) s₁.heap _
      rw [e0]
      exact ⟨(by rw [own_icmp, if_neg hc1, if_neg hc2]), N0, rfl⟩
theorem d5_0 : decode method_5_code 0 = .ok (.iload_n 0, 1) := by decide +kernel
theorem d5_1 : decode method_5_code 1 = .ok (.ifCond .ge 5, 3) := by decide +kernel
theorem d5_4 : decode method_5_code 4 = .ok (.iconst (-1), 1) := by decide +kernel
theorem d5_5 : decode method_5_code 5 = .ok (.ireturn, 1) := by decide +kernel
theorem d5_6 : decode method_5_code 6 = .ok (.iload_n 0, 1) := by decide +kernel
theorem d5_7 : decode method_5_code 7 = .ok (.ifCond .le 5, 3) := by decide +kernel
theorem d5_10 : decode method_5_code 10 = .ok (.iconst 1, 1) := by decide +kernel
theorem d5_11 : decode method_5_code 11 = .ok (.ireturn, 1) := by decide +kernel
theorem d5_12 : decode method_5_code 12 = .ok (.iconst 0, 1) := by decide +kernel
theorem d5_13 : decode method_5_code 13 = .ok (.ireturn, 1) := by decide +kernel
theorem pn_com_example_rank_merge_rankmerge_model_IdOrderComparePinLaw : plainName "com/example/rank_merge/rankmerge/model/IdOrderComparePinLaw" = true := by first | (simp [plainName, overriddenIn]; done) | decide +kernel
theorem ef_5_0 (m : MethodId) (x0 : Int32) : entryFrame m #[(.int x0)] 1 = mkF m 0 #[.val (.int x0)] [] := by first | (simp [entryFrame, mkF, argsToLocals, Value.category]; done) | rfl
def Q5 (Z : State) (u0 : Int32) (h0 : Heap) (n0 : Nat) (v : Option Value) (h : Heap) (L : List Loc) : Prop := v = some (.int (own_sgn u0)) ∧ Fr n0 L ∧ h = h0
set_option maxRecDepth 65536 in
set_option maxHeartbeats 40000000 in
theorem rm5 (l : Launch) (Z : State) (a0 : Array Value) (hw : ∀ d ∈ tables_1, d.before a0 Z = true) (ws : List Jvm.Cond) (u0 : Int32) (h0 : Heap) (n0 : Nat) (Z0 : n0 ≤ h0.size) :
    MetFree l (⟨"com/example/rank_merge/rankmerge/model/IdOrderComparePinLaw", "sign", "(I)I"⟩ : MethodName) (head1 (Jvm.Cond.code (⟨"com/example/rank_merge/rankmerge/model/IdOrderComparePinLaw", "sign", "(I)I"⟩ : MethodName) method_5_code 1 (some .int) :: ws) ({ frames := 0, cells := 0, slots := 0, locals := 0 } : Room)) (fun a U => a = #[(.int u0)] ∧ Z.Warmed39 U.vm ∧ U.heap = h0) (fun _ _ _ _ _ => True) (fun _ U o U' => ∃ v L, o = .returned v ∧ Q5 Z u0 h0 n0 v U'.heap L ∧ FrameEnd U o U' L ({ frames := 0, cells := 0, slots := 0, locals := 0 } : Room).cells ({ frames := 0, cells := 0, slots := 0, locals := 0 } : Room).slots) := by
  refine MetFree.of_bodySF (plainFor_of_name pn_com_example_rank_merge_rankmerge_model_IdOrderComparePinLaw) hisR ?_
  intro p e s m args below meth c s₁ Bd hml0 hP hK
  obtain ⟨rfl, hZ, hh⟩ := hP
  have hx := Bd.exec
  have hby := Bd.bytes
  have hlk : meth.locks = false := Bd.notSynchronized
  have hml : c.maxLocals = 1 := hml0
  have hown : s.vm.findClass "com/example/rank_merge/rankmerge/model/IdOrderComparePinLaw" = some m.cls := findClass_of_methodNamed Bd.named
  have hnm := (name_of_methodNamed Bd.named Bd.method).1
  have X0 : Stand p l e ({ frames := 0, cells := 0, slots := 0, locals := 0 } : Room) s m #[(.int u0)] below meth c s₁ [] 0 0 := Stand.of_body Bd
  have e0 : s₁.heap = h0 := by rw [← hh, Bd.state]; rfl
  have N0 := Fr.nil n0
  have K0 : Keep h0 h0 [] := Keep.refl h0 _
  show Wp p e below (Out s (Q5 Z u0 h0 n0) ({ frames := 0, cells := 0, slots := 0, locals := 0 } : Room).cells ({ frames := 0, cells := 0, slots := 0, locals := 0 } : Room).slots) (s₁.setTop (entryFrame m #[(.int u0)] 1))
  rw [ef_5_0]
  show Wp p e below _ (s₁.setTop (mkF m 0 #[.val (.int u0)] []))
  refine Wp.step (fun t k => XS.iloadN X0.here hx rfl (hb hby d5_0) rfl k) ?_
  show Wp p e below _ (s₁.setTop (mkF m 1 #[.val (.int u0)] [(.int u0)]))
  by_cases hc1 : u0 < (0 : Int32)
  · refine Wp.step (fun t k => XS.ifNo X0.here hx rfl (hb hby d5_1) rfl ((if0 _ _).trans (tlt hc1).2.1) k) ?_
    show Wp p e below _ (s₁.setTop (mkF m 4 #[.val (.int u0)] []))
    refine Wp.step (fun t k => XS.iconst X0.here hx rfl (hb hby d5_4) k) ?_
    show Wp p e below _ (s₁.setTop (mkF m 5 #[.val (.int u0)] [(.int (-1 : Int32))]))
    refine Wp.retI X0 hx Bd.returns (hb hby d5_5) hlk ?_ (by decide) (by decide)
    show Q5 Z u0 h0 n0 (some (.int (-1 : Int32))) s₁.heap _
    rw [e0]
    exact ⟨(by rw [own_sgn, if_pos hc1]), N0, rfl⟩
  · refine Wp.step (fun t k => XS.ifYes X0.here hx rfl (pc0 := 1) (pc' := 6) rfl (hb hby d5_1) rfl ((if0 _ _).trans (flt hc1).2.1) (by decide) (by decide) k) ?_
    show Wp p e below _ (s₁.setTop (mkF m 6 #[.val (.int u0)] []))
    refine Wp.step (fun t k => XS.iloadN X0.here hx rfl (hb hby d5_6) rfl k) ?_
    show Wp p e below _ (s₁.setTop (mkF m 7 #[.val (.int u0)] [(.int u0)]))
    by_cases hc2 : (0 : Int32) < u0
    · refine Wp.step (fun t k => XS.ifNo X0.here hx rfl (hb hby d5_7) rfl ((if0 _ _).trans (tlt hc2).2.2.2) k) ?_
      show Wp p e below _ (s₁.setTop (mkF m 10 #[.val (.int u0)] []))
      refine Wp.step (fun t k => XS.iconst X0.here hx rfl (hb hby d5_10) k) ?_
      show Wp p e below _ (s₁.setTop (mkF m 11 #[.val (.int u0)] [(.int (1 : Int32))]))
      refine Wp.retI X0 hx Bd.returns (hb hby d5_11) hlk ?_ (by decide) (by decide)
      show Q5 Z u0 h0 n0 (some (.int (1 : Int32))) s₁.heap _
      rw [e0]
      exact ⟨(by rw [own_sgn, if_neg hc1, if_pos hc2]), N0, rfl⟩
    · refine Wp.step (fun t k => XS.ifYes X0.here hx rfl (pc0 := 7) (pc' := 12) rfl (hb hby d5_7) rfl ((if0 _ _).trans (flt hc2).2.2.2) (by decide) (by decide) k) ?_
      show Wp p e below _ (s₁.setTop (mkF m 12 #[.val (.int u0)] []))
      refine Wp.step (fun t k => XS.iconst X0.here hx rfl (hb hby d5_12) k) ?_
      show Wp p e below _ (s₁.setTop (mkF m 13 #[.val (.int u0)] [(.int (0 : Int32))]))
      refine Wp.retI X0 hx Bd.returns (hb hby d5_13) hlk ?_ (by decide) (by decide)
      show Q5 Z u0 h0 n0 (some (.int (0 : Int32))) s₁.heap _
      rw [e0]
      exact ⟨(by rw [own_sgn, if_neg hc1, if_neg hc2]), N0, rfl⟩
theorem d14_0 : decode method_4_code 0 = .ok (.iload_n 0, 1) := by decide +kernel
theorem d14_1 : decode method_4_code 1 = .ok (.istore_n 1, 1) := by decide +kernel
theorem d14_2 : decode method_4_code 2 = .ok (.iload_n 1, 1) := by decide +kernel
theorem d14_3 : decode method_4_code 3 = .ok (.ldc 32, 2) := by decide +kernel
theorem d14_5 : decode method_4_code 5 = .ok (.if_icmp .lt 14, 3) := by decide +kernel
theorem d14_8 : decode method_4_code 8 = .ok (.iload_n 1, 1) := by decide +kernel
theorem d14_9 : decode method_4_code 9 = .ok (.ldc 33, 2) := by decide +kernel
theorem d14_11 : decode method_4_code 11 = .ok (.if_icmp .gt 8, 3) := by decide +kernel
theorem d14_14 : decode method_4_code 14 = .ok (.iload_n 1, 1) := by decide +kernel
theorem d14_15 : decode method_4_code 15 = .ok (.ldc 34, 2) := by decide +kernel
theorem d14_17 : decode method_4_code 17 = .ok (.iadd, 1) := by decide +kernel
theorem d14_18 : decode method_4_code 18 = .ok (.ireturn, 1) := by decide +kernel
theorem d14_19 : decode method_4_code 19 = .ok (.iload_n 1, 1) := by decide +kernel
theorem d14_20 : decode method_4_code 20 = .ok (.ireturn, 1) := by decide +kernel
theorem ef_14_0 (m : MethodId) (x0 : Int32) : entryFrame m #[(.int x0)] 2 = mkF m 0 #[.val (.int x0), .unset] [] := by first | (simp [entryFrame, mkF, argsToLocals, Value.category]; done) | rfl
def Q14 (Z : State) (u0 : Int32) (h0 : Heap) (n0 : Nat) (v : Option Value) (h : Heap) (L : List Loc) : Prop := v = some (.int (own_key u0)) ∧ Fr n0 L ∧ h = h0
set_option maxRecDepth 65536 in
set_option maxHeartbeats 40000000 in
theorem rm14 (l : Launch) (Z : State) (a0 : Array Value) (hw : ∀ d ∈ tables_1, d.before a0 Z = true) (ws : List Jvm.Cond) (u0 : Int32) (h0 : Heap) (n0 : Nat) (Z0 : n0 ≤ h0.size) :
    MetFree l (⟨"com/example/rank_merge/rankmerge/model/IdOrderComparePinLaw", "key", "(C)I"⟩ : MethodName) (head1 (Jvm.Cond.code (⟨"com/example/rank_merge/rankmerge/model/IdOrderComparePinLaw", "key", "(C)I"⟩ : MethodName) method_4_code 2 (some .int) :: ws) ({ frames := 0, cells := 0, slots := 0, locals := 0 } : Room)) (fun a U => a = #[(.int u0)] ∧ Z.Warmed39 U.vm ∧ U.heap = h0) (fun _ _ _ _ _ => True) (fun _ U o U' => ∃ v L, o = .returned v ∧ Q14 Z u0 h0 n0 v U'.heap L ∧ FrameEnd U o U' L ({ frames := 0, cells := 0, slots := 0, locals := 0 } : Room).cells ({ frames := 0, cells := 0, slots := 0, locals := 0 } : Room).slots) := by
  refine MetFree.of_bodySF (plainFor_of_name pn_com_example_rank_merge_rankmerge_model_IdOrderComparePinLaw) hisR ?_
  intro p e s m args below meth c s₁ Bd hml0 hP hK
  obtain ⟨rfl, hZ, hh⟩ := hP
  have hx := Bd.exec
  have hby := Bd.bytes
  have hlk : meth.locks = false := Bd.notSynchronized
  have hml : c.maxLocals = 2 := hml0
  have hown : s.vm.findClass "com/example/rank_merge/rankmerge/model/IdOrderComparePinLaw" = some m.cls := findClass_of_methodNamed Bd.named
  have hnm := (name_of_methodNamed Bd.named Bd.method).1
  have X0 : Stand p l e ({ frames := 0, cells := 0, slots := 0, locals := 0 } : Room) s m #[(.int u0)] below meth c s₁ [] 0 0 := Stand.of_body Bd
  have e0 : s₁.heap = h0 := by rw [← hh, Bd.state]; rfl
  have N0 := Fr.nil n0
  have K0 : Keep h0 h0 [] := Keep.refl h0 _
  show Wp p e below (Out s (Q14 Z u0 h0 n0) ({ frames := 0, cells := 0, slots := 0, locals := 0 } : Room).cells ({ frames := 0, cells := 0, slots := 0, locals := 0 } : Room).slots) (s₁.setTop (entryFrame m #[(.int u0)] 2))
  rw [ef_14_0]
  show Wp p e below _ (s₁.setTop (mkF m 0 #[.val (.int u0), .unset] []))
  refine Wp.step (fun t k => XS.iloadN X0.here hx rfl (hb hby d14_0) rfl k) ?_
  show Wp p e below _ (s₁.setTop (mkF m 1 #[.val (.int u0), .unset] [(.int u0)]))
  refine Wp.step (fun t k => XS.istoreN X0.here hx rfl (hb hby d14_1) rfl (l' := #[.val (.int u0), .val (.int u0)]) rfl k) ?_
  show Wp p e below _ (s₁.setTop (mkF m 2 #[.val (.int u0), .val (.int u0)] []))
  refine Wp.step (fun t k => XS.iloadN X0.here hx rfl (hb hby d14_2) rfl k) ?_
  show Wp p e below _ (s₁.setTop (mkF m 3 #[.val (.int u0), .val (.int u0)] [(.int u0)]))
  refine Wp.step (X0.ldcInt hx hown (mvT hZ (hw _ (List.mem_of_getElem? (i := 65) rfl))) (g := (mkF m 3 #[.val (.int u0), .val (.int u0)] [(.int u0)])) rfl (hb hby d14_3)) ?_
  show Wp p e below _ (s₁.setTop (mkF m 5 #[.val (.int u0), .val (.int u0)] [(.int (55296 : Int32)), (.int u0)]))
  by_cases hc1 : u0 < (55296 : Int32)
  · refine Wp.step (fun t k => XS.icmpYes X0.here hx rfl (pc0 := 5) (pc' := 19) rfl (hb hby d14_5) rfl (tlt hc1).1 (by decide) (by decide) k) ?_
    show Wp p e below _ (s₁.setTop (mkF m 19 #[.val (.int u0), .val (.int u0)] []))
    refine Wp.step (fun t k => XS.iloadN X0.here hx rfl (hb hby d14_19) rfl k) ?_
    show Wp p e below _ (s₁.setTop (mkF m 20 #[.val (.int u0), .val (.int u0)] [(.int u0)]))
    refine Wp.retI X0 hx Bd.returns (hb hby d14_20) hlk ?_ (by decide) (by decide)
    show Q14 Z u0 h0 n0 (some (.int u0)) s₁.heap _
    rw [e0]
    exact ⟨(by rw [own_key, if_pos hc1]), N0, rfl⟩
  · refine Wp.step (fun t k => XS.icmpNo X0.here hx rfl (hb hby d14_5) rfl (flt hc1).1 k) ?_
    show Wp p e below _ (s₁.setTop (mkF m 8 #[.val (.int u0), .val (.int u0)] []))
    refine Wp.step (fun t k => XS.iloadN X0.here hx rfl (hb hby d14_8) rfl k) ?_
    show Wp p e below _ (s₁.setTop (mkF m 9 #[.val (.int u0), .val (.int u0)] [(.int u0)]))
    refine Wp.step (X0.ldcInt hx hown (mvT hZ (hw _ (List.mem_of_getElem? (i := 122) rfl))) (g := (mkF m 9 #[.val (.int u0), .val (.int u0)] [(.int u0)])) rfl (hb hby d14_9)) ?_
    show Wp p e below _ (s₁.setTop (mkF m 11 #[.val (.int u0), .val (.int u0)] [(.int (57343 : Int32)), (.int u0)]))
    by_cases hc2 : (57343 : Int32) < u0
    · refine Wp.step (fun t k => XS.icmpYes X0.here hx rfl (pc0 := 11) (pc' := 19) rfl (hb hby d14_11) rfl (tlt hc2).2.2.1 (by decide) (by decide) k) ?_
      show Wp p e below _ (s₁.setTop (mkF m 19 #[.val (.int u0), .val (.int u0)] []))
      refine Wp.step (fun t k => XS.iloadN X0.here hx rfl (hb hby d14_19) rfl k) ?_
      show Wp p e below _ (s₁.setTop (mkF m 20 #[.val (.int u0), .val (.int u0)] [(.int u0)]))
      refine Wp.retI X0 hx Bd.returns (hb hby d14_20) hlk ?_ (by decide) (by decide)
      show Q14 Z u0 h0 n0 (some (.int u0)) s₁.heap _
      rw [e0]
      exact ⟨(by rw [own_key, if_neg hc1, if_pos hc2]), N0, rfl⟩
    · refine Wp.step (fun t k => XS.icmpNo X0.here hx rfl (hb hby d14_11) rfl (flt hc2).2.2.1 k) ?_
      show Wp p e below _ (s₁.setTop (mkF m 14 #[.val (.int u0), .val (.int u0)] []))
      refine Wp.step (fun t k => XS.iloadN X0.here hx rfl (hb hby d14_14) rfl k) ?_
      show Wp p e below _ (s₁.setTop (mkF m 15 #[.val (.int u0), .val (.int u0)] [(.int u0)]))
      refine Wp.step (X0.ldcInt hx hown (mvT hZ (hw _ (List.mem_of_getElem? (i := 123) rfl))) (g := (mkF m 15 #[.val (.int u0), .val (.int u0)] [(.int u0)])) rfl (hb hby d14_15)) ?_
      show Wp p e below _ (s₁.setTop (mkF m 17 #[.val (.int u0), .val (.int u0)] [(.int (65536 : Int32)), (.int u0)]))
      refine Wp.step (fun t k => XS.iadd X0.here hx rfl (hb hby d14_17) rfl k) ?_
      show Wp p e below _ (s₁.setTop (mkF m 18 #[.val (.int u0), .val (.int u0)] [(.int (u0 + (65536 : Int32)))]))
      refine Wp.retI X0 hx Bd.returns (hb hby d14_18) hlk ?_ (by decide) (by decide)
      show Q14 Z u0 h0 n0 (some (.int (u0 + (65536 : Int32)))) s₁.heap _
      rw [e0]
      exact ⟨(by rw [own_key, if_neg hc1, if_neg hc2]), N0, rfl⟩
theorem d20_0 : decode prog_65_method_3_code 0 = .ok (.iload_n 0, 1) := by decide +kernel
theorem d20_1 : decode prog_65_method_3_code 1 = .ok (.ldc 34, 2) := by decide +kernel
theorem d20_3 : decode prog_65_method_3_code 3 = .ok (.if_icmp .lt 9, 3) := by decide +kernel
theorem d20_6 : decode prog_65_method_3_code 6 = .ok (.iload_n 0, 1) := by decide +kernel
theorem d20_7 : decode prog_65_method_3_code 7 = .ok (.sipush 2048, 3) := by decide +kernel
theorem d20_10 : decode prog_65_method_3_code 10 = .ok (.isub, 1) := by decide +kernel
theorem d20_11 : decode prog_65_method_3_code 11 = .ok (.ireturn, 1) := by decide +kernel
theorem d20_12 : decode prog_65_method_3_code 12 = .ok (.iload_n 0, 1) := by decide +kernel
theorem d20_13 : decode prog_65_method_3_code 13 = .ok (.ldc 35, 2) := by decide +kernel
theorem d20_15 : decode prog_65_method_3_code 15 = .ok (.if_icmp .lt 9, 3) := by decide +kernel
theorem d20_18 : decode prog_65_method_3_code 18 = .ok (.iload_n 0, 1) := by decide +kernel
theorem d20_19 : decode prog_65_method_3_code 19 = .ok (.sipush 8192, 3) := by decide +kernel
theorem d20_22 : decode prog_65_method_3_code 22 = .ok (.iadd, 1) := by decide +kernel
theorem d20_23 : decode prog_65_method_3_code 23 = .ok (.ireturn, 1) := by decide +kernel
theorem d20_24 : decode prog_65_method_3_code 24 = .ok (.iload_n 0, 1) := by decide +kernel
theorem d20_25 : decode prog_65_method_3_code 25 = .ok (.ireturn, 1) := by decide +kernel
theorem pn_com_example_rank_merge_rankmerge_model_IdOrder : plainName "com/example/rank_merge/rankmerge/model/IdOrder" = true := by first | (simp [plainName, overriddenIn]; done) | decide +kernel
theorem ef_20_0 (m : MethodId) (x0 : Int32) : entryFrame m #[(.int x0)] 1 = mkF m 0 #[.val (.int x0)] [] := by first | (simp [entryFrame, mkF, argsToLocals, Value.category]; done) | rfl
def Q20 (Z : State) (u0 : Int32) (h0 : Heap) (n0 : Nat) (v : Option Value) (h : Heap) (L : List Loc) : Prop := v = some (.int (own_rank u0)) ∧ Fr n0 L ∧ h = h0
set_option maxRecDepth 65536 in
set_option maxHeartbeats 40000000 in
theorem rm20 (l : Launch) (Z : State) (a0 : Array Value) (hw : ∀ d ∈ tables_1, d.before a0 Z = true) (ws : List Jvm.Cond) (u0 : Int32) (h0 : Heap) (n0 : Nat) (Z0 : n0 ≤ h0.size) :
    MetFree l (⟨"com/example/rank_merge/rankmerge/model/IdOrder", "codePointRank", "(C)I"⟩ : MethodName) (head1 (Jvm.Cond.code (⟨"com/example/rank_merge/rankmerge/model/IdOrder", "codePointRank", "(C)I"⟩ : MethodName) prog_65_method_3_code 1 (some .int) :: ws) ({ frames := 0, cells := 0, slots := 0, locals := 0 } : Room)) (fun a U => a = #[(.int u0)] ∧ Z.Warmed39 U.vm ∧ U.heap = h0) (fun _ _ _ _ _ => True) (fun _ U o U' => ∃ v L, o = .returned v ∧ Q20 Z u0 h0 n0 v U'.heap L ∧ FrameEnd U o U' L ({ frames := 0, cells := 0, slots := 0, locals := 0 } : Room).cells ({ frames := 0, cells := 0, slots := 0, locals := 0 } : Room).slots) := by
  refine MetFree.of_bodySF (plainFor_of_name pn_com_example_rank_merge_rankmerge_model_IdOrder) hisR ?_
  intro p e s m args below meth c s₁ Bd hml0 hP hK
  obtain ⟨rfl, hZ, hh⟩ := hP
  have hx := Bd.exec
  have hby := Bd.bytes
  have hlk : meth.locks = false := Bd.notSynchronized
  have hml : c.maxLocals = 1 := hml0
  have hown : s.vm.findClass "com/example/rank_merge/rankmerge/model/IdOrder" = some m.cls := findClass_of_methodNamed Bd.named
  have hnm := (name_of_methodNamed Bd.named Bd.method).1
  have X0 : Stand p l e ({ frames := 0, cells := 0, slots := 0, locals := 0 } : Room) s m #[(.int u0)] below meth c s₁ [] 0 0 := Stand.of_body Bd
  have e0 : s₁.heap = h0 := by rw [← hh, Bd.state]; rfl
  have N0 := Fr.nil n0
  have K0 : Keep h0 h0 [] := Keep.refl h0 _
  show Wp p e below (Out s (Q20 Z u0 h0 n0) ({ frames := 0, cells := 0, slots := 0, locals := 0 } : Room).cells ({ frames := 0, cells := 0, slots := 0, locals := 0 } : Room).slots) (s₁.setTop (entryFrame m #[(.int u0)] 1))
  rw [ef_20_0]
  show Wp p e below _ (s₁.setTop (mkF m 0 #[.val (.int u0)] []))
  refine Wp.step (fun t k => XS.iloadN X0.here hx rfl (hb hby d20_0) rfl k) ?_
  show Wp p e below _ (s₁.setTop (mkF m 1 #[.val (.int u0)] [(.int u0)]))
  refine Wp.step (X0.ldcInt hx hown (mvT hZ (hw _ (List.mem_of_getElem? (i := 91) rfl))) (g := (mkF m 1 #[.val (.int u0)] [(.int u0)])) rfl (hb hby d20_1)) ?_
  show Wp p e below _ (s₁.setTop (mkF m 3 #[.val (.int u0)] [(.int (57344 : Int32)), (.int u0)]))
  by_cases hc1 : u0 < (57344 : Int32)
  · refine Wp.step (fun t k => XS.icmpYes X0.here hx rfl (pc0 := 3) (pc' := 12) rfl (hb hby d20_3) rfl (tlt hc1).1 (by decide) (by decide) k) ?_
    show Wp p e below _ (s₁.setTop (mkF m 12 #[.val (.int u0)] []))
    refine Wp.step (fun t k => XS.iloadN X0.here hx rfl (hb hby d20_12) rfl k) ?_
    show Wp p e below _ (s₁.setTop (mkF m 13 #[.val (.int u0)] [(.int u0)]))
    refine Wp.step (X0.ldcInt hx hown (mvT hZ (hw _ (List.mem_of_getElem? (i := 92) rfl))) (g := (mkF m 13 #[.val (.int u0)] [(.int u0)])) rfl (hb hby d20_13)) ?_
    show Wp p e below _ (s₁.setTop (mkF m 15 #[.val (.int u0)] [(.int (55296 : Int32)), (.int u0)]))
    by_cases hc2 : u0 < (55296 : Int32)
    · refine Wp.step (fun t k => XS.icmpYes X0.here hx rfl (pc0 := 15) (pc' := 24) rfl (hb hby d20_15) rfl (tlt hc2).1 (by decide) (by decide) k) ?_
      show Wp p e below _ (s₁.setTop (mkF m 24 #[.val (.int u0)] []))
      refine Wp.step (fun t k => XS.iloadN X0.here hx rfl (hb hby d20_24) rfl k) ?_
      show Wp p e below _ (s₁.setTop (mkF m 25 #[.val (.int u0)] [(.int u0)]))
      refine Wp.retI X0 hx Bd.returns (hb hby d20_25) hlk ?_ (by decide) (by decide)
      show Q20 Z u0 h0 n0 (some (.int u0)) s₁.heap _
      rw [e0]
      exact ⟨(by rw [own_rank, if_pos hc1, if_pos hc2]), N0, rfl⟩
    · refine Wp.step (fun t k => XS.icmpNo X0.here hx rfl (hb hby d20_15) rfl (flt hc2).1 k) ?_
      show Wp p e below _ (s₁.setTop (mkF m 18 #[.val (.int u0)] []))
      refine Wp.step (fun t k => XS.iloadN X0.here hx rfl (hb hby d20_18) rfl k) ?_
      show Wp p e below _ (s₁.setTop (mkF m 19 #[.val (.int u0)] [(.int u0)]))
      refine Wp.step (fun t k => XS.sipush X0.here hx rfl (hb hby d20_19) k) ?_
      show Wp p e below _ (s₁.setTop (mkF m 22 #[.val (.int u0)] [(.int (8192 : Int32)), (.int u0)]))
      refine Wp.step (fun t k => XS.iadd X0.here hx rfl (hb hby d20_22) rfl k) ?_
      show Wp p e below _ (s₁.setTop (mkF m 23 #[.val (.int u0)] [(.int (u0 + (8192 : Int32)))]))
      refine Wp.retI X0 hx Bd.returns (hb hby d20_23) hlk ?_ (by decide) (by decide)
      show Q20 Z u0 h0 n0 (some (.int (u0 + (8192 : Int32)))) s₁.heap _
      rw [e0]
      exact ⟨(by rw [own_rank, if_pos hc1, if_neg hc2]), N0, rfl⟩
  · refine Wp.step (fun t k => XS.icmpNo X0.here hx rfl (hb hby d20_3) rfl (flt hc1).1 k) ?_
    show Wp p e below _ (s₁.setTop (mkF m 6 #[.val (.int u0)] []))
    refine Wp.step (fun t k => XS.iloadN X0.here hx rfl (hb hby d20_6) rfl k) ?_
    show Wp p e below _ (s₁.setTop (mkF m 7 #[.val (.int u0)] [(.int u0)]))
    refine Wp.step (fun t k => XS.sipush X0.here hx rfl (hb hby d20_7) k) ?_
    show Wp p e below _ (s₁.setTop (mkF m 10 #[.val (.int u0)] [(.int (2048 : Int32)), (.int u0)]))
    refine Wp.step (fun t k => XS.isub X0.here hx rfl (hb hby d20_10) rfl k) ?_
    show Wp p e below _ (s₁.setTop (mkF m 11 #[.val (.int u0)] [(.int (u0 - (2048 : Int32)))]))
    refine Wp.retI X0 hx Bd.returns (hb hby d20_11) hlk ?_ (by decide) (by decide)
    show Q20 Z u0 h0 n0 (some (.int (u0 - (2048 : Int32)))) s₁.heap _
    rw [e0]
    exact ⟨(by rw [own_rank, if_neg hc1]), N0, rfl⟩
theorem d19_0 : decode jdk_41_method_11_code 0 = .ok (.iload_n 0, 1) := by decide +kernel
theorem d19_1 : decode jdk_41_method_11_code 1 = .ok (.ifCond .lt 8, 3) := by decide +kernel
theorem d19_4 : decode jdk_41_method_11_code 4 = .ok (.iload_n 0, 1) := by decide +kernel
theorem d19_5 : decode jdk_41_method_11_code 5 = .ok (.iload_n 1, 1) := by decide +kernel
theorem d19_6 : decode jdk_41_method_11_code 6 = .ok (.if_icmp .lt 10, 3) := by decide +kernel
theorem d19_16 : decode jdk_41_method_11_code 16 = .ok (.iload_n 0, 1) := by decide +kernel
theorem d19_17 : decode jdk_41_method_11_code 17 = .ok (.ireturn, 1) := by decide +kernel
theorem pn_jdk_internal_util_Preconditions : plainName "jdk/internal/util/Preconditions" = true := by first | (simp [plainName, overriddenIn]; done) | decide +kernel
theorem ef_19_001 (m : MethodId) (x0 : Int32) (x1 : Int32) : entryFrame m #[(.int x0), (.int x1), .null] 3 = mkF m 0 #[.val (.int x0), .val (.int x1), .val .null] [] := by first | (simp [entryFrame, mkF, argsToLocals, Value.category]; done) | rfl
def Q19_n (Z : State) (u0 : Int32) (u1 : Int32) (h0 : Heap) (n0 : Nat) (v : Option Value) (h : Heap) (L : List Loc) : Prop := v = some (.int u0) ∧ Fr n0 L ∧ h = h0
set_option maxRecDepth 65536 in
set_option maxHeartbeats 40000000 in
theorem rm19_n (l : Launch) (Z : State) (a0 : Array Value) (hw : ∀ d ∈ tables_1, d.before a0 Z = true) (ws : List Jvm.Cond) (u0 : Int32) (u1 : Int32) (h0 : Heap) (n0 : Nat) (Z0 : n0 ≤ h0.size) (hj : ¬ u0 < 0) (hj2 : u0 < u1) :
    MetFree l (⟨"jdk/internal/util/Preconditions", "checkIndex", "(IILjava/util/function/BiFunction;)I"⟩ : MethodName) (head1 (Jvm.Cond.code (⟨"jdk/internal/util/Preconditions", "checkIndex", "(IILjava/util/function/BiFunction;)I"⟩ : MethodName) jdk_41_method_11_code 3 (some .int) :: ws) ({ frames := 0, cells := 0, slots := 0, locals := 0 } : Room)) (fun a U => a = #[(.int u0), (.int u1), .null] ∧ Z.Warmed39 U.vm ∧ U.heap = h0) (fun _ _ _ _ _ => True) (fun _ U o U' => ∃ v L, o = .returned v ∧ Q19_n Z u0 u1 h0 n0 v U'.heap L ∧ FrameEnd U o U' L ({ frames := 0, cells := 0, slots := 0, locals := 0 } : Room).cells ({ frames := 0, cells := 0, slots := 0, locals := 0 } : Room).slots) := by
  refine MetFree.of_bodySF (plainFor_of_name pn_jdk_internal_util_Preconditions) hisR ?_
  intro p e s m args below meth c s₁ Bd hml0 hP hK
  obtain ⟨rfl, hZ, hh⟩ := hP
  have hx := Bd.exec
  have hby := Bd.bytes
  have hlk : meth.locks = false := Bd.notSynchronized
  have hml : c.maxLocals = 3 := hml0
  have hown : s.vm.findClass "jdk/internal/util/Preconditions" = some m.cls := findClass_of_methodNamed Bd.named
  have hnm := (name_of_methodNamed Bd.named Bd.method).1
  have X0 : Stand p l e ({ frames := 0, cells := 0, slots := 0, locals := 0 } : Room) s m #[(.int u0), (.int u1), .null] below meth c s₁ [] 0 0 := Stand.of_body Bd
  have e0 : s₁.heap = h0 := by rw [← hh, Bd.state]; rfl
  have N0 := Fr.nil n0
  have K0 : Keep h0 h0 [] := Keep.refl h0 _
  show Wp p e below (Out s (Q19_n Z u0 u1 h0 n0) ({ frames := 0, cells := 0, slots := 0, locals := 0 } : Room).cells ({ frames := 0, cells := 0, slots := 0, locals := 0 } : Room).slots) (s₁.setTop (entryFrame m #[(.int u0), (.int u1), .null] 3))
  rw [ef_19_001]
  show Wp p e below _ (s₁.setTop (mkF m 0 #[.val (.int u0), .val (.int u1), .val .null] []))
  refine Wp.step (fun t k => XS.iloadN X0.here hx rfl (hb hby d19_0) rfl k) ?_
  show Wp p e below _ (s₁.setTop (mkF m 1 #[.val (.int u0), .val (.int u1), .val .null] [(.int u0)]))
  refine Wp.step (fun t k => XS.ifNo X0.here hx rfl (hb hby d19_1) rfl ((if0 _ _).trans (flt (show ¬ (u0 < (0 : Int32)) from hj)).1) k) ?_
  show Wp p e below _ (s₁.setTop (mkF m 4 #[.val (.int u0), .val (.int u1), .val .null] []))
  refine Wp.step (fun t k => XS.iloadN X0.here hx rfl (hb hby d19_4) rfl k) ?_
  show Wp p e below _ (s₁.setTop (mkF m 5 #[.val (.int u0), .val (.int u1), .val .null] [(.int u0)]))
  refine Wp.step (fun t k => XS.iloadN X0.here hx rfl (hb hby d19_5) rfl k) ?_
  show Wp p e below _ (s₁.setTop (mkF m 6 #[.val (.int u0), .val (.int u1), .val .null] [(.int u1), (.int u0)]))
  refine Wp.step (fun t k => XS.icmpYes X0.here hx rfl (pc0 := 6) (pc' := 16) rfl (hb hby d19_6) rfl (tlt (show u0 < u1 from hj2)).1 (by decide) (by decide) k) ?_
  show Wp p e below _ (s₁.setTop (mkF m 16 #[.val (.int u0), .val (.int u1), .val .null] []))
  refine Wp.step (fun t k => XS.iloadN X0.here hx rfl (hb hby d19_16) rfl k) ?_
  show Wp p e below _ (s₁.setTop (mkF m 17 #[.val (.int u0), .val (.int u1), .val .null] [(.int u0)]))
  refine Wp.retI X0 hx Bd.returns (hb hby d19_17) hlk ?_ (by decide) (by decide)
  show Q19_n Z u0 u1 h0 n0 (some (.int u0)) s₁.heap _
  rw [e0]
  exact ⟨rfl, N0, rfl⟩
theorem ef_19_000 (m : MethodId) (x0 : Int32) (x1 : Int32) (x2 : Addr) : entryFrame m #[(.int x0), (.int x1), (.ref x2)] 3 = mkF m 0 #[.val (.int x0), .val (.int x1), .val (.ref x2)] [] := by first | (simp [entryFrame, mkF, argsToLocals, Value.category]; done) | rfl
def Q19_r (Z : State) (u0 : Int32) (u1 : Int32) (d0 : Addr) (h0 : Heap) (n0 : Nat) (v : Option Value) (h : Heap) (L : List Loc) : Prop := v = some (.int u0) ∧ Fr n0 L ∧ h = h0
set_option maxRecDepth 65536 in
set_option maxHeartbeats 40000000 in
theorem rm19_r (l : Launch) (Z : State) (a0 : Array Value) (hw : ∀ d ∈ tables_1, d.before a0 Z = true) (ws : List Jvm.Cond) (u0 : Int32) (u1 : Int32) (d0 : Addr) (h0 : Heap) (n0 : Nat) (Z0 : n0 ≤ h0.size) (hj : ¬ u0 < 0) (hj2 : u0 < u1) :
    MetFree l (⟨"jdk/internal/util/Preconditions", "checkIndex", "(IILjava/util/function/BiFunction;)I"⟩ : MethodName) (head1 (Jvm.Cond.code (⟨"jdk/internal/util/Preconditions", "checkIndex", "(IILjava/util/function/BiFunction;)I"⟩ : MethodName) jdk_41_method_11_code 3 (some .int) :: ws) ({ frames := 0, cells := 0, slots := 0, locals := 0 } : Room)) (fun a U => a = #[(.int u0), (.int u1), (.ref d0)] ∧ Z.Warmed39 U.vm ∧ U.heap = h0) (fun _ _ _ _ _ => True) (fun _ U o U' => ∃ v L, o = .returned v ∧ Q19_r Z u0 u1 d0 h0 n0 v U'.heap L ∧ FrameEnd U o U' L ({ frames := 0, cells := 0, slots := 0, locals := 0 } : Room).cells ({ frames := 0, cells := 0, slots := 0, locals := 0 } : Room).slots) := by
  refine MetFree.of_bodySF (plainFor_of_name pn_jdk_internal_util_Preconditions) hisR ?_
  intro p e s m args below meth c s₁ Bd hml0 hP hK
  obtain ⟨rfl, hZ, hh⟩ := hP
  have hx := Bd.exec
  have hby := Bd.bytes
  have hlk : meth.locks = false := Bd.notSynchronized
  have hml : c.maxLocals = 3 := hml0
  have hown : s.vm.findClass "jdk/internal/util/Preconditions" = some m.cls := findClass_of_methodNamed Bd.named
  have hnm := (name_of_methodNamed Bd.named Bd.method).1
  have X0 : Stand p l e ({ frames := 0, cells := 0, slots := 0, locals := 0 } : Room) s m #[(.int u0), (.int u1), (.ref d0)] below meth c s₁ [] 0 0 := Stand.of_body Bd
  have e0 : s₁.heap = h0 := by rw [← hh, Bd.state]; rfl
  have N0 := Fr.nil n0
  have K0 : Keep h0 h0 [] := Keep.refl h0 _
  show Wp p e below (Out s (Q19_r Z u0 u1 d0 h0 n0) ({ frames := 0, cells := 0, slots := 0, locals := 0 } : Room).cells ({ frames := 0, cells := 0, slots := 0, locals := 0 } : Room).slots) (s₁.setTop (entryFrame m #[(.int u0), (.int u1), (.ref d0)] 3))
  rw [ef_19_000]
  show Wp p e below _ (s₁.setTop (mkF m 0 #[.val (.int u0), .val (.int u1), .val (.ref d0)] []))
  refine Wp.step (fun t k => XS.iloadN X0.here hx rfl (hb hby d19_0) rfl k) ?_
  show Wp p e below _ (s₁.setTop (mkF m 1 #[.val (.int u0), .val (.int u1), .val (.ref d0)] [(.int u0)]))
  refine Wp.step (fun t k => XS.ifNo X0.here hx rfl (hb hby d19_1) rfl ((if0 _ _).trans (flt (show ¬ (u0 < (0 : Int32)) from hj)).1) k) ?_
  show Wp p e below _ (s₁.setTop (mkF m 4 #[.val (.int u0), .val (.int u1), .val (.ref d0)] []))
  refine Wp.step (fun t k => XS.iloadN X0.here hx rfl (hb hby d19_4) rfl k) ?_
  show Wp p e below _ (s₁.setTop (mkF m 5 #[.val (.int u0), .val (.int u1), .val (.ref d0)] [(.int u0)]))
  refine Wp.step (fun t k => XS.iloadN X0.here hx rfl (hb hby d19_5) rfl k) ?_
  show Wp p e below _ (s₁.setTop (mkF m 6 #[.val (.int u0), .val (.int u1), .val (.ref d0)] [(.int u1), (.int u0)]))
  refine Wp.step (fun t k => XS.icmpYes X0.here hx rfl (pc0 := 6) (pc' := 16) rfl (hb hby d19_6) rfl (tlt (show u0 < u1 from hj2)).1 (by decide) (by decide) k) ?_
  show Wp p e below _ (s₁.setTop (mkF m 16 #[.val (.int u0), .val (.int u1), .val (.ref d0)] []))
  refine Wp.step (fun t k => XS.iloadN X0.here hx rfl (hb hby d19_16) rfl k) ?_
  show Wp p e below _ (s₁.setTop (mkF m 17 #[.val (.int u0), .val (.int u1), .val (.ref d0)] [(.int u0)]))
  refine Wp.retI X0 hx Bd.returns (hb hby d19_17) hlk ?_ (by decide) (by decide)
  show Q19_r Z u0 u1 d0 h0 n0 (some (.int u0)) s₁.heap _
  rw [e0]
  exact ⟨rfl, N0, rfl⟩
theorem pd_28IILjava2futil2ffunction2fBiFunction3b29I : parseMethodDescriptor "(IILjava/util/function/BiFunction;)I" = some ⟨[.int, .int, (.object "java/util/function/BiFunction")], some .int⟩ := by decide +kernel
theorem d18_0 : decode jdk_42_method_155_code 0 = .ok (.iload_n 0, 1) := by decide +kernel
theorem d18_1 : decode jdk_42_method_155_code 1 = .ok (.iload_n 1, 1) := by decide +kernel
theorem d18_2 : decode jdk_42_method_155_code 2 = .ok (.getstatic 1053, 3) := by decide +kernel
theorem d18_5 : decode jdk_42_method_155_code 5 = .ok (.invokestatic 1059, 3) := by decide +kernel
theorem d18_8 : decode jdk_42_method_155_code 8 = .ok (.pop, 1) := by decide +kernel
theorem d18_9 : decode jdk_42_method_155_code 9 = .ok (.return_, 1) := by decide +kernel
theorem pn_java_lang_String : plainName "java/lang/String" = true := by first | (simp [plainName, overriddenIn]; done) | decide +kernel
theorem ef_18_00 (m : MethodId) (x0 : Int32) (x1 : Int32) : entryFrame m #[(.int x0), (.int x1)] 2 = mkF m 0 #[.val (.int x0), .val (.int x1)] [] := by first | (simp [entryFrame, mkF, argsToLocals, Value.category]; done) | rfl
def Q18 (Z : State) (u0 : Int32) (u1 : Int32) (fm : Value) (h0 : Heap) (n0 : Nat) (v : Option Value) (h : Heap) (L : List Loc) : Prop := v = none ∧ Fr n0 L ∧ h = h0
set_option maxRecDepth 65536 in
set_option maxHeartbeats 40000000 in
theorem rm18 (l : Launch) (Z : State) (a0 : Array Value) (hw : ∀ d ∈ tables_1, d.before a0 Z = true) (ws : List Jvm.Cond) (u0 : Int32) (u1 : Int32) (fm : Value) (h0 : Heap) (n0 : Nat) (Z0 : n0 ≤ h0.size) (S_SIOOBE_FORMATTER_fm : Sta Z h0 "jdk/internal/util/Preconditions" "SIOOBE_FORMATTER" "Ljava/util/function/BiFunction;" fm) (hj : ¬ u0 < 0) (hj2 : u0 < u1) (hfm : fm = .null ∨ ∃ z, fm = .ref z) :
    MetFree l (⟨"java/lang/String", "checkIndex", "(II)V"⟩ : MethodName) (head1 (Jvm.Cond.code (⟨"java/lang/String", "checkIndex", "(II)V"⟩ : MethodName) jdk_42_method_155_code 2 none :: ws) ({ frames := 1, cells := 0, slots := 0, locals := 14 } : Room)) (fun a U => a = #[(.int u0), (.int u1)] ∧ Z.Warmed39 U.vm ∧ U.heap = h0) (fun _ _ _ _ _ => True) (fun _ U o U' => ∃ v L, o = .returned v ∧ Q18 Z u0 u1 fm h0 n0 v U'.heap L ∧ FrameEnd U o U' L ({ frames := 1, cells := 0, slots := 0, locals := 14 } : Room).cells ({ frames := 1, cells := 0, slots := 0, locals := 14 } : Room).slots) := by
  refine MetFree.of_bodySF (plainFor_of_name pn_java_lang_String) hisR ?_
  intro p e s m args below meth c s₁ Bd hml0 hP hK
  obtain ⟨rfl, hZ, hh⟩ := hP
  have hx := Bd.exec
  have hby := Bd.bytes
  have hlk : meth.locks = false := Bd.notSynchronized
  have hml : c.maxLocals = 2 := hml0
  have hown : s.vm.findClass "java/lang/String" = some m.cls := findClass_of_methodNamed Bd.named
  have hnm := (name_of_methodNamed Bd.named Bd.method).1
  have X0 : Stand p l e ({ frames := 1, cells := 0, slots := 0, locals := 14 } : Room) s m #[(.int u0), (.int u1)] below meth c s₁ [] 0 0 := Stand.of_body Bd
  have e0 : s₁.heap = h0 := by rw [← hh, Bd.state]; rfl
  have N0 := Fr.nil n0
  have K0 : Keep h0 h0 [] := Keep.refl h0 _
  show Wp p e below (Out s (Q18 Z u0 u1 fm h0 n0) ({ frames := 1, cells := 0, slots := 0, locals := 14 } : Room).cells ({ frames := 1, cells := 0, slots := 0, locals := 14 } : Room).slots) (s₁.setTop (entryFrame m #[(.int u0), (.int u1)] 2))
  rw [ef_18_00]
  show Wp p e below _ (s₁.setTop (mkF m 0 #[.val (.int u0), .val (.int u1)] []))
  rcases hfm with rfl | ⟨fa, rfl⟩
  · refine Wp.step (fun t k => XS.iloadN X0.here hx rfl (hb hby d18_0) rfl k) ?_
    show Wp p e below _ (s₁.setTop (mkF m 1 #[.val (.int u0), .val (.int u1)] [(.int u0)]))
    refine Wp.step (fun t k => XS.iloadN X0.here hx rfl (hb hby d18_1) rfl k) ?_
    show Wp p e below _ (s₁.setTop (mkF m 2 #[.val (.int u0), .val (.int u1)] [(.int u1), (.int u0)]))
    obtain ⟨T1, X1, e1, st1⟩ := getS2 X0 hx hZ hown (host := "") (Or.inl (hw _ (List.mem_of_getElem? (i := 83) rfl))) Via.refl e0 S_SIOOBE_FORMATTER_fm (g := (mkF m 2 #[.val (.int u0), .val (.int u1)] [(.int u1), (.int u0)])) rfl (hb hby d18_2)
    refine Wp.step st1 ?_
    show Wp p e below _ (T1.setTop (mkF m 5 #[.val (.int u0), .val (.int u1)] [.null, (.int u1), (.int u0)]))
    obtain ⟨_, _, ⟨T2, L2, k2, n2⟩, -, X2, ⟨Lc2, hQ2, l2, y2, z2⟩, st2⟩ := Jvm.LawKit.callS X1 hx (y := (⟨"jdk/internal/util/Preconditions", "checkIndex", "(IILjava/util/function/BiFunction;)I"⟩ : MethodName)) hown (mvT hZ (hw _ (List.mem_of_getElem? (i := 85) rfl))) (mvT hZ (hw _ (List.mem_of_getElem? (i := 86) rfl))) (mvT hZ (hw _ (List.mem_of_getElem? (i := 84) rfl))) (mvT hZ (hw _ (List.mem_of_getElem? (i := 87) rfl))) (by decide) (backOf (W := 0) (rm19_n l Z a0 hw [] u0 u1  h0 n0 (Nat.le_trans Z0 K0.1)  hj hj2) hZ (hw _ (List.mem_of_getElem? (i := 87) rfl)) (hw _ (List.mem_of_getElem? (i := 84) rfl)) (by decide) (by decide)) (g := (mkF m 5 #[.val (.int u0), .val (.int u1)] [.null, (.int u1), (.int u0)])) rfl (by rw [hml]; rfl) (argsL := [(.int u0), (.int u1), .null]) (rest := []) (lenOf pd_28IILjava2futil2ffunction2fBiFunction3b29I rfl) rfl (by show 2 * 0 + _ ≤ _; exact Nat.le_of_eq rfl) (hb hby d18_5) (fun _ _ => ⟨rfl, e1, (by decide : 0 + 0 ≤ _), (by decide : 0 + 0 ≤ _)⟩)
    dsimp only [Pt.U, Pt.locs, Pt.cells, Pt.slots] at X2 l2 y2 z2 st2 hQ2
    subst l2 y2 z2
    obtain ⟨rfl, N2q, e2⟩ := hQ2
    have N2 := Fr.app N0 N2q
    refine Wp.step st2 ?_
    show Wp p e below _ (T2.setTop (mkF m 8 #[.val (.int u0), .val (.int u1)] [(.int u0)]))
    refine Wp.step (fun t k => XS.pop X2.here hx rfl (hb hby d18_8) rfl rfl k) ?_
    show Wp p e below _ (T2.setTop (mkF m 9 #[.val (.int u0), .val (.int u1)] []))
    refine Wp.retV X2 hx Bd.returns (hb hby d18_9) hlk ?_ (by decide) (by decide)
    show Q18 Z u0 u1 .null h0 n0 none T2.heap _
    rw [e2]
    exact ⟨rfl, N2, rfl⟩
  · refine Wp.step (fun t k => XS.iloadN X0.here hx rfl (hb hby d18_0) rfl k) ?_
    show Wp p e below _ (s₁.setTop (mkF m 1 #[.val (.int u0), .val (.int u1)] [(.int u0)]))
    refine Wp.step (fun t k => XS.iloadN X0.here hx rfl (hb hby d18_1) rfl k) ?_
    show Wp p e below _ (s₁.setTop (mkF m 2 #[.val (.int u0), .val (.int u1)] [(.int u1), (.int u0)]))
    obtain ⟨T3, X3, e3, st3⟩ := getS2 X0 hx hZ hown (host := "") (Or.inl (hw _ (List.mem_of_getElem? (i := 83) rfl))) Via.refl e0 S_SIOOBE_FORMATTER_fm (g := (mkF m 2 #[.val (.int u0), .val (.int u1)] [(.int u1), (.int u0)])) rfl (hb hby d18_2)
    refine Wp.step st3 ?_
    show Wp p e below _ (T3.setTop (mkF m 5 #[.val (.int u0), .val (.int u1)] [(.ref fa), (.int u1), (.int u0)]))
    obtain ⟨_, _, ⟨T4, L4, k4, n4⟩, -, X4, ⟨Lc4, hQ4, l4, y4, z4⟩, st4⟩ := Jvm.LawKit.callS X3 hx (y := (⟨"jdk/internal/util/Preconditions", "checkIndex", "(IILjava/util/function/BiFunction;)I"⟩ : MethodName)) hown (mvT hZ (hw _ (List.mem_of_getElem? (i := 85) rfl))) (mvT hZ (hw _ (List.mem_of_getElem? (i := 86) rfl))) (mvT hZ (hw _ (List.mem_of_getElem? (i := 84) rfl))) (mvT hZ (hw _ (List.mem_of_getElem? (i := 87) rfl))) (by decide) (backOf (W := 0) (rm19_r l Z a0 hw [] u0 u1 fa  h0 n0 (Nat.le_trans Z0 K0.1)  hj hj2) hZ (hw _ (List.mem_of_getElem? (i := 87) rfl)) (hw _ (List.mem_of_getElem? (i := 84) rfl)) (by decide) (by decide)) (g := (mkF m 5 #[.val (.int u0), .val (.int u1)] [(.ref fa), (.int u1), (.int u0)])) rfl (by rw [hml]; rfl) (argsL := [(.int u0), (.int u1), (.ref fa)]) (rest := []) (lenOf pd_28IILjava2futil2ffunction2fBiFunction3b29I rfl) rfl (by show 2 * 0 + _ ≤ _; exact Nat.le_of_eq rfl) (hb hby d18_5) (fun _ _ => ⟨rfl, e3, (by decide : 0 + 0 ≤ _), (by decide : 0 + 0 ≤ _)⟩)
    dsimp only [Pt.U, Pt.locs, Pt.cells, Pt.slots] at X4 l4 y4 z4 st4 hQ4
    subst l4 y4 z4
    obtain ⟨rfl, N4q, e4⟩ := hQ4
    have N4 := Fr.app N0 N4q
    refine Wp.step st4 ?_
    show Wp p e below _ (T4.setTop (mkF m 8 #[.val (.int u0), .val (.int u1)] [(.int u0)]))
    refine Wp.step (fun t k => XS.pop X4.here hx rfl (hb hby d18_8) rfl rfl k) ?_
    show Wp p e below _ (T4.setTop (mkF m 9 #[.val (.int u0), .val (.int u1)] []))
    refine Wp.retV X4 hx Bd.returns (hb hby d18_9) hlk ?_ (by decide) (by decide)
    show Q18 Z u0 u1 (.ref fa) h0 n0 none T4.heap _
    rw [e4]
    exact ⟨rfl, N4, rfl⟩
theorem d28_0 : decode jdk_52_method_6_code 0 = .ok (.aload_n 0, 1) := by decide +kernel
theorem d28_1 : decode jdk_52_method_6_code 1 = .ok (.arraylength, 1) := by decide +kernel
theorem d28_2 : decode jdk_52_method_6_code 2 = .ok (.iconst 1, 1) := by decide +kernel
theorem d28_3 : decode jdk_52_method_6_code 3 = .ok (.ishr, 1) := by decide +kernel
theorem d28_4 : decode jdk_52_method_6_code 4 = .ok (.ireturn, 1) := by decide +kernel
theorem pn_java_lang_StringUTF16 : plainName "java/lang/StringUTF16" = true := by first | (simp [plainName, overriddenIn]; done) | decide +kernel
theorem ef_28_0 (m : MethodId) (x0 : Addr) : entryFrame m #[(.ref x0)] 1 = mkF m 0 #[.val (.ref x0)] [] := by first | (simp [entryFrame, mkF, argsToLocals, Value.category]; done) | rfl
def Q28 (Z : State) (d0 : Addr) (len : Int32) (g : Nat → Int32) (h0 : Heap) (n0 : Nat) (v : Option Value) (h : Heap) (L : List Loc) : Prop := v = some (.int (len >>> ((1 : Int32) &&& 31))) ∧ Fr n0 L ∧ h = h0
set_option maxRecDepth 65536 in
set_option maxHeartbeats 40000000 in
theorem rm28 (l : Launch) (Z : State) (a0 : Array Value) (hw : ∀ d ∈ tables_1, d.before a0 Z = true) (ws : List Jvm.Cond) (d0 : Addr) (len : Int32) (g : Nat → Int32) (h0 : Heap) (n0 : Nat) (Z0 : n0 ≤ h0.size) (B_d0 : own_IA .byte Z h0 d0 len g) :
    MetFree l (⟨"java/lang/StringUTF16", "length", "([B)I"⟩ : MethodName) (head1 (Jvm.Cond.code (⟨"java/lang/StringUTF16", "length", "([B)I"⟩ : MethodName) jdk_52_method_6_code 1 (some .int) :: ws) ({ frames := 0, cells := 0, slots := 0, locals := 0 } : Room)) (fun a U => a = #[(.ref d0)] ∧ Z.Warmed39 U.vm ∧ U.heap = h0) (fun _ _ _ _ _ => True) (fun _ U o U' => ∃ v L, o = .returned v ∧ Q28 Z d0 len g h0 n0 v U'.heap L ∧ FrameEnd U o U' L ({ frames := 0, cells := 0, slots := 0, locals := 0 } : Room).cells ({ frames := 0, cells := 0, slots := 0, locals := 0 } : Room).slots) := by
  refine MetFree.of_bodySF (plainFor_of_name pn_java_lang_StringUTF16) hisR ?_
  intro p e s m args below meth c s₁ Bd hml0 hP hK
  obtain ⟨rfl, hZ, hh⟩ := hP
  have hx := Bd.exec
  have hby := Bd.bytes
  have hlk : meth.locks = false := Bd.notSynchronized
  have hml : c.maxLocals = 1 := hml0
  have hown : s.vm.findClass "java/lang/StringUTF16" = some m.cls := findClass_of_methodNamed Bd.named
  have hnm := (name_of_methodNamed Bd.named Bd.method).1
  have X0 : Stand p l e ({ frames := 0, cells := 0, slots := 0, locals := 0 } : Room) s m #[(.ref d0)] below meth c s₁ [] 0 0 := Stand.of_body Bd
  have e0 : s₁.heap = h0 := by rw [← hh, Bd.state]; rfl
  have N0 := Fr.nil n0
  have K0 : Keep h0 h0 [] := Keep.refl h0 _
  show Wp p e below (Out s (Q28 Z d0 len g h0 n0) ({ frames := 0, cells := 0, slots := 0, locals := 0 } : Room).cells ({ frames := 0, cells := 0, slots := 0, locals := 0 } : Room).slots) (s₁.setTop (entryFrame m #[(.ref d0)] 1))
  rw [ef_28_0]
  show Wp p e below _ (s₁.setTop (mkF m 0 #[.val (.ref d0)] []))
  refine Wp.step (fun t k => XS.aloadN X0.here hx rfl (hb hby d28_0) rfl rfl k) ?_
  show Wp p e below _ (s₁.setTop (mkF m 1 #[.val (.ref d0)] [(.ref d0)]))
  obtain ⟨cl1, Ar1, Sz1, Nn1, -⟩ := id B_d0
  refine Wp.step (X0.arraylength hx (by rw [e0]; exact Ar1.1) (State.isArrayOf_alike hZ.alike Ar1.2.1) (g := (mkF m 1 #[.val (.ref d0)] [(.ref d0)])) rfl rfl (hb hby d28_1)) ?_
  rw [len_of Sz1 Nn1]
  show Wp p e below _ (s₁.setTop (mkF m 2 #[.val (.ref d0)] [(.int len)]))
  refine Wp.step (fun t k => XS.iconst X0.here hx rfl (hb hby d28_2) k) ?_
  show Wp p e below _ (s₁.setTop (mkF m 3 #[.val (.ref d0)] [(.int (1 : Int32)), (.int len)]))
  refine Wp.step (fun t k => XS.ishr X0.here hx rfl (hb hby d28_3) rfl k) ?_
  show Wp p e below _ (s₁.setTop (mkF m 4 #[.val (.ref d0)] [(.int (len >>> ((1 : Int32) &&& 31)))]))
  refine Wp.retI X0 hx Bd.returns (hb hby d28_4) hlk ?_ (by decide) (by decide)
  show Q28 Z d0 len g h0 n0 (some (.int (len >>> ((1 : Int32) &&& 31)))) s₁.heap _
  rw [e0]
  exact ⟨rfl, N0, rfl⟩
theorem pd_285bB29I : parseMethodDescriptor "([B)I" = some ⟨[(.array .byte)], some .int⟩ := by decide +kernel
theorem pd_28II29V : parseMethodDescriptor "(II)V" = some ⟨[.int, .int], none⟩ := by decide +kernel
theorem d27_0 : decode jdk_52_method_91_code 0 = .ok (.iload_n 0, 1) := by decide +kernel
theorem d27_1 : decode jdk_52_method_91_code 1 = .ok (.aload_n 1, 1) := by decide +kernel
theorem d27_2 : decode jdk_52_method_91_code 2 = .ok (.invokestatic 48, 3) := by decide +kernel
theorem d27_5 : decode jdk_52_method_91_code 5 = .ok (.invokestatic 414, 3) := by decide +kernel
theorem d27_8 : decode jdk_52_method_91_code 8 = .ok (.return_, 1) := by decide +kernel
theorem ef_27_00 (m : MethodId) (x0 : Int32) (x1 : Addr) : entryFrame m #[(.int x0), (.ref x1)] 2 = mkF m 0 #[.val (.int x0), .val (.ref x1)] [] := by first | (simp [entryFrame, mkF, argsToLocals, Value.category]; done) | rfl
def Q27 (Z : State) (u0 : Int32) (d0 : Addr) (len : Int32) (g : Nat → Int32) (fm : Value) (h0 : Heap) (n0 : Nat) (v : Option Value) (h : Heap) (L : List Loc) : Prop := v = none ∧ Fr n0 L ∧ h = h0
set_option maxRecDepth 65536 in
set_option maxHeartbeats 40000000 in
theorem rm27 (l : Launch) (Z : State) (a0 : Array Value) (hw : ∀ d ∈ tables_1, d.before a0 Z = true) (ws : List Jvm.Cond) (u0 : Int32) (d0 : Addr) (len : Int32) (g : Nat → Int32) (fm : Value) (h0 : Heap) (n0 : Nat) (Z0 : n0 ≤ h0.size) (B_d0 : own_IA .byte Z h0 d0 len g) (S_SIOOBE_FORMATTER_fm : Sta Z h0 "jdk/internal/util/Preconditions" "SIOOBE_FORMATTER" "Ljava/util/function/BiFunction;" fm) (hj : ¬ u0 < 0) (hj2 : u0 < (len >>> ((1 : Int32) &&& 31))) (hfm : fm = .null ∨ ∃ z, fm = .ref z) :
    MetFree l (⟨"java/lang/StringUTF16", "checkIndex", "(I[B)V"⟩ : MethodName) (head1 (Jvm.Cond.code (⟨"java/lang/StringUTF16", "checkIndex", "(I[B)V"⟩ : MethodName) jdk_52_method_91_code 2 none :: ws) ({ frames := 2, cells := 0, slots := 0, locals := 27 } : Room)) (fun a U => a = #[(.int u0), (.ref d0)] ∧ Z.Warmed39 U.vm ∧ U.heap = h0) (fun _ _ _ _ _ => True) (fun _ U o U' => ∃ v L, o = .returned v ∧ Q27 Z u0 d0 len g fm h0 n0 v U'.heap L ∧ FrameEnd U o U' L ({ frames := 2, cells := 0, slots := 0, locals := 27 } : Room).cells ({ frames := 2, cells := 0, slots := 0, locals := 27 } : Room).slots) := by
  refine MetFree.of_bodySF (plainFor_of_name pn_java_lang_StringUTF16) hisR ?_
  intro p e s m args below meth c s₁ Bd hml0 hP hK
  obtain ⟨rfl, hZ, hh⟩ := hP
  have hx := Bd.exec
  have hby := Bd.bytes
  have hlk : meth.locks = false := Bd.notSynchronized
  have hml : c.maxLocals = 2 := hml0
  have hown : s.vm.findClass "java/lang/StringUTF16" = some m.cls := findClass_of_methodNamed Bd.named
  have hnm := (name_of_methodNamed Bd.named Bd.method).1
  have X0 : Stand p l e ({ frames := 2, cells := 0, slots := 0, locals := 27 } : Room) s m #[(.int u0), (.ref d0)] below meth c s₁ [] 0 0 := Stand.of_body Bd
  have e0 : s₁.heap = h0 := by rw [← hh, Bd.state]; rfl
  have N0 := Fr.nil n0
  have K0 : Keep h0 h0 [] := Keep.refl h0 _
  show Wp p e below (Out s (Q27 Z u0 d0 len g fm h0 n0) ({ frames := 2, cells := 0, slots := 0, locals := 27 } : Room).cells ({ frames := 2, cells := 0, slots := 0, locals := 27 } : Room).slots) (s₁.setTop (entryFrame m #[(.int u0), (.ref d0)] 2))
  rw [ef_27_00]
  show Wp p e below _ (s₁.setTop (mkF m 0 #[.val (.int u0), .val (.ref d0)] []))
  refine Wp.step (fun t k => XS.iloadN X0.here hx rfl (hb hby d27_0) rfl k) ?_
  show Wp p e below _ (s₁.setTop (mkF m 1 #[.val (.int u0), .val (.ref d0)] [(.int u0)]))
  refine Wp.step (fun t k => XS.aloadN X0.here hx rfl (hb hby d27_1) rfl rfl k) ?_
  show Wp p e below _ (s₁.setTop (mkF m 2 #[.val (.int u0), .val (.ref d0)] [(.ref d0), (.int u0)]))
  obtain ⟨_, _, ⟨T1, L1, k1, n1⟩, -, X1, ⟨Lc1, hQ1, l1, y1, z1⟩, st1⟩ := Jvm.LawKit.callS X0 hx (y := (⟨"java/lang/StringUTF16", "length", "([B)I"⟩ : MethodName)) hown (mvT hZ (hw _ (List.mem_of_getElem? (i := 118) rfl))) (mvT hZ (hw _ (List.mem_of_getElem? (i := 119) rfl))) (mvT hZ (hw _ (List.mem_of_getElem? (i := 54) rfl))) (mvT hZ (hw _ (List.mem_of_getElem? (i := 120) rfl))) (by decide) (backOf (W := 1) (rm28 l Z a0 hw [] d0 len g h0 n0 (Nat.le_trans Z0 K0.1) B_d0 ) hZ (hw _ (List.mem_of_getElem? (i := 120) rfl)) (hw _ (List.mem_of_getElem? (i := 54) rfl)) (by decide) (by decide)) (g := (mkF m 2 #[.val (.int u0), .val (.ref d0)] [(.ref d0), (.int u0)])) rfl (by rw [hml]; rfl) (argsL := [(.ref d0)]) (rest := [(.int u0)]) (lenOf pd_285bB29I rfl) rfl (by show 2 * 0 + _ ≤ _; exact Nat.le_of_eq rfl) (hb hby d27_2) (fun _ _ => ⟨rfl, e0, (by decide : 0 + 0 ≤ _), (by decide : 0 + 0 ≤ _)⟩)
  dsimp only [Pt.U, Pt.locs, Pt.cells, Pt.slots] at X1 l1 y1 z1 st1 hQ1
  subst l1 y1 z1
  obtain ⟨rfl, N1q, e1⟩ := hQ1
  have N1 := Fr.app N0 N1q
  refine Wp.step st1 ?_
  show Wp p e below _ (T1.setTop (mkF m 5 #[.val (.int u0), .val (.ref d0)] [(.int (len >>> ((1 : Int32) &&& 31))), (.int u0)]))
  obtain ⟨_, _, ⟨T2, L2, k2, n2⟩, -, X2, ⟨Lc2, hQ2, l2, y2, z2⟩, st2⟩ := Jvm.LawKit.callS X1 hx (y := (⟨"java/lang/String", "checkIndex", "(II)V"⟩ : MethodName)) hown (mvT hZ (hw _ (List.mem_of_getElem? (i := 121) rfl))) (mvT hZ (hw _ (List.mem_of_getElem? (i := 81) rfl))) (mvT hZ (hw _ (List.mem_of_getElem? (i := 6) rfl))) (mvT hZ (hw _ (List.mem_of_getElem? (i := 82) rfl))) (by decide) (backOf (W := 0) (rm18 l Z a0 hw [] u0 (len >>> ((1 : Int32) &&& 31)) fm h0 n0 (Nat.le_trans Z0 K0.1) S_SIOOBE_FORMATTER_fm hj hj2 hfm) hZ (hw _ (List.mem_of_getElem? (i := 82) rfl)) (hw _ (List.mem_of_getElem? (i := 6) rfl)) (by decide) (by decide)) (g := (mkF m 5 #[.val (.int u0), .val (.ref d0)] [(.int (len >>> ((1 : Int32) &&& 31))), (.int u0)])) rfl (by rw [hml]; rfl) (argsL := [(.int u0), (.int (len >>> ((1 : Int32) &&& 31)))]) (rest := []) (lenOf pd_28II29V rfl) rfl (by show 2 * 0 + _ ≤ _; exact Nat.le_of_eq rfl) (hb hby d27_5) (fun _ _ => ⟨rfl, e1, (by decide : 0 + 0 ≤ _), (by decide : 0 + 0 ≤ _)⟩)
  dsimp only [Pt.U, Pt.locs, Pt.cells, Pt.slots] at X2 l2 y2 z2 st2 hQ2
  subst l2 y2 z2
  obtain ⟨rfl, N2q, e2⟩ := hQ2
  have N2 := Fr.app N1 N2q
  refine Wp.step st2 ?_
  show Wp p e below _ (T2.setTop (mkF m 8 #[.val (.int u0), .val (.ref d0)] []))
  refine Wp.retV X2 hx Bd.returns (hb hby d27_8) hlk ?_ (by decide) (by decide)
  show Q27 Z u0 d0 len g fm h0 n0 none T2.heap _
  rw [e2]
  exact ⟨rfl, N2, rfl⟩
theorem d25_0 : decode jdk_52_method_5_code 0 = .ok (.getstatic 44, 3) := by decide +kernel
theorem d25_3 : decode jdk_52_method_5_code 3 = .ok (.ifCond .ne 25, 3) := by decide +kernel
theorem d25_28 : decode jdk_52_method_5_code 28 = .ok (.iload_n 1, 1) := by decide +kernel
theorem d25_29 : decode jdk_52_method_5_code 29 = .ok (.iconst 1, 1) := by decide +kernel
theorem d25_30 : decode jdk_52_method_5_code 30 = .ok (.ishl, 1) := by decide +kernel
theorem d25_31 : decode jdk_52_method_5_code 31 = .ok (.istore_n 1, 1) := by decide +kernel
theorem d25_32 : decode jdk_52_method_5_code 32 = .ok (.aload_n 0, 1) := by decide +kernel
theorem d25_33 : decode jdk_52_method_5_code 33 = .ok (.iload_n 1, 1) := by decide +kernel
theorem d25_34 : decode jdk_52_method_5_code 34 = .ok (.iinc 1 1, 3) := by decide +kernel
theorem d25_37 : decode jdk_52_method_5_code 37 = .ok (.baload, 1) := by decide +kernel
theorem d25_38 : decode jdk_52_method_5_code 38 = .ok (.sipush 255, 3) := by decide +kernel
theorem d25_41 : decode jdk_52_method_5_code 41 = .ok (.iand, 1) := by decide +kernel
theorem d25_42 : decode jdk_52_method_5_code 42 = .ok (.getstatic 59, 3) := by decide +kernel
theorem d25_45 : decode jdk_52_method_5_code 45 = .ok (.ishl, 1) := by decide +kernel
theorem d25_46 : decode jdk_52_method_5_code 46 = .ok (.aload_n 0, 1) := by decide +kernel
theorem d25_47 : decode jdk_52_method_5_code 47 = .ok (.iload_n 1, 1) := by decide +kernel
theorem d25_48 : decode jdk_52_method_5_code 48 = .ok (.baload, 1) := by decide +kernel
theorem d25_49 : decode jdk_52_method_5_code 49 = .ok (.sipush 255, 3) := by decide +kernel
theorem d25_52 : decode jdk_52_method_5_code 52 = .ok (.iand, 1) := by decide +kernel
theorem d25_53 : decode jdk_52_method_5_code 53 = .ok (.getstatic 63, 3) := by decide +kernel
theorem d25_56 : decode jdk_52_method_5_code 56 = .ok (.ishl, 1) := by decide +kernel
theorem d25_57 : decode jdk_52_method_5_code 57 = .ok (.ior, 1) := by decide +kernel
theorem d25_58 : decode jdk_52_method_5_code 58 = .ok (.i2c, 1) := by decide +kernel
theorem d25_59 : decode jdk_52_method_5_code 59 = .ok (.ireturn, 1) := by decide +kernel
theorem ef_25_00 (m : MethodId) (x0 : Addr) (x1 : Int32) : entryFrame m #[(.ref x0), (.int x1)] 2 = mkF m 0 #[.val (.ref x0), .val (.int x1)] [] := by first | (simp [entryFrame, mkF, argsToLocals, Value.category]; done) | rfl
def Q25 (Z : State) (d0 : Addr) (u0 : Int32) (len : Int32) (g : Nat → Int32) (h0 : Heap) (n0 : Nat) (v : Option Value) (h : Heap) (L : List Loc) : Prop := v = some (.int (own_gc g u0)) ∧ Fr n0 L ∧ h = h0
set_option maxRecDepth 65536 in
set_option maxHeartbeats 40000000 in
theorem rm25 (l : Launch) (Z : State) (a0 : Array Value) (hw : ∀ d ∈ tables_1, d.before a0 Z = true) (ws : List Jvm.Cond) (d0 : Addr) (u0 : Int32) (len : Int32) (g : Nat → Int32) (h0 : Heap) (n0 : Nat) (Z0 : n0 ≤ h0.size) (B_d0 : own_IA .byte Z h0 d0 len g) (S_assertionsDisabled_1Int32 : Sta Z h0 "java/lang/StringUTF16" "$assertionsDisabled" "Z" (.int (1 : Int32))) (S_HI_BYTE_SHIFT_0Int32 : Sta Z h0 "java/lang/StringUTF16" "HI_BYTE_SHIFT" "I" (.int (0 : Int32))) (S_LO_BYTE_SHIFT_8Int32 : Sta Z h0 "java/lang/StringUTF16" "LO_BYTE_SHIFT" "I" (.int (8 : Int32))) (i0 : ¬ (u0 <<< ((1 : Int32) &&& 31)) < 0 ∧ (u0 <<< ((1 : Int32) &&& 31)) < len) (i1 : ¬ ((u0 <<< ((1 : Int32) &&& 31)) + (1 : Int32)) < 0 ∧ ((u0 <<< ((1 : Int32) &&& 31)) + (1 : Int32)) < len) :
    MetFree l (⟨"java/lang/StringUTF16", "getChar", "([BI)C"⟩ : MethodName) (head1 (Jvm.Cond.code (⟨"java/lang/StringUTF16", "getChar", "([BI)C"⟩ : MethodName) jdk_52_method_5_code 2 (some .char) :: ws) ({ frames := 0, cells := 0, slots := 0, locals := 0 } : Room)) (fun a U => a = #[(.ref d0), (.int u0)] ∧ Z.Warmed39 U.vm ∧ U.heap = h0) (fun _ _ _ _ _ => True) (fun _ U o U' => ∃ v L, o = .returned v ∧ Q25 Z d0 u0 len g h0 n0 v U'.heap L ∧ FrameEnd U o U' L ({ frames := 0, cells := 0, slots := 0, locals := 0 } : Room).cells ({ frames := 0, cells := 0, slots := 0, locals := 0 } : Room).slots) := by
  refine MetFree.of_bodySF (plainFor_of_name pn_java_lang_StringUTF16) hisR ?_
  intro p e s m args below meth c s₁ Bd hml0 hP hK
  obtain ⟨rfl, hZ, hh⟩ := hP
  have hx := Bd.exec
  have hby := Bd.bytes
  have hlk : meth.locks = false := Bd.notSynchronized
  have hml : c.maxLocals = 2 := hml0
  have hown : s.vm.findClass "java/lang/StringUTF16" = some m.cls := findClass_of_methodNamed Bd.named
  have hnm := (name_of_methodNamed Bd.named Bd.method).1
  have X0 : Stand p l e ({ frames := 0, cells := 0, slots := 0, locals := 0 } : Room) s m #[(.ref d0), (.int u0)] below meth c s₁ [] 0 0 := Stand.of_body Bd
  have e0 : s₁.heap = h0 := by rw [← hh, Bd.state]; rfl
  have N0 := Fr.nil n0
  have K0 : Keep h0 h0 [] := Keep.refl h0 _
  show Wp p e below (Out s (Q25 Z d0 u0 len g h0 n0) ({ frames := 0, cells := 0, slots := 0, locals := 0 } : Room).cells ({ frames := 0, cells := 0, slots := 0, locals := 0 } : Room).slots) (s₁.setTop (entryFrame m #[(.ref d0), (.int u0)] 2))
  rw [ef_25_00]
  show Wp p e below _ (s₁.setTop (mkF m 0 #[.val (.ref d0), .val (.int u0)] []))
  obtain ⟨T1, X1, e1, st1⟩ := getS2 X0 hx hZ hown (host := "") (Or.inl (hw _ (List.mem_of_getElem? (i := 106) rfl))) Via.refl e0 S_assertionsDisabled_1Int32 (g := (mkF m 0 #[.val (.ref d0), .val (.int u0)] [])) rfl (hb hby d25_0)
  refine Wp.step st1 ?_
  show Wp p e below _ (T1.setTop (mkF m 3 #[.val (.ref d0), .val (.int u0)] [(.int (1 : Int32))]))
  refine Wp.step (fun t k => XS.ifYes X1.here hx rfl (pc0 := 3) (pc' := 28) rfl (hb hby d25_3) rfl ((if0 _ _).trans (feq (show ¬ ((1 : Int32) = (0 : Int32)) by decide)).2) (by decide) (by decide) k) ?_
  show Wp p e below _ (T1.setTop (mkF m 28 #[.val (.ref d0), .val (.int u0)] []))
  refine Wp.step (fun t k => XS.iloadN X1.here hx rfl (hb hby d25_28) rfl k) ?_
  show Wp p e below _ (T1.setTop (mkF m 29 #[.val (.ref d0), .val (.int u0)] [(.int u0)]))
  refine Wp.step (fun t k => XS.iconst X1.here hx rfl (hb hby d25_29) k) ?_
  show Wp p e below _ (T1.setTop (mkF m 30 #[.val (.ref d0), .val (.int u0)] [(.int (1 : Int32)), (.int u0)]))
  refine Wp.step (fun t k => XS.ishl X1.here hx rfl (hb hby d25_30) rfl k) ?_
  show Wp p e below _ (T1.setTop (mkF m 31 #[.val (.ref d0), .val (.int u0)] [(.int (u0 <<< ((1 : Int32) &&& 31)))]))
  refine Wp.step (fun t k => XS.istoreN X1.here hx rfl (hb hby d25_31) rfl (l' := #[.val (.ref d0), .val (.int (u0 <<< ((1 : Int32) &&& 31)))]) rfl k) ?_
  show Wp p e below _ (T1.setTop (mkF m 32 #[.val (.ref d0), .val (.int (u0 <<< ((1 : Int32) &&& 31)))] []))
  refine Wp.step (fun t k => XS.aloadN X1.here hx rfl (hb hby d25_32) rfl rfl k) ?_
  show Wp p e below _ (T1.setTop (mkF m 33 #[.val (.ref d0), .val (.int (u0 <<< ((1 : Int32) &&& 31)))] [(.ref d0)]))
  refine Wp.step (fun t k => XS.iloadN X1.here hx rfl (hb hby d25_33) rfl k) ?_
  show Wp p e below _ (T1.setTop (mkF m 34 #[.val (.ref d0), .val (.int (u0 <<< ((1 : Int32) &&& 31)))] [(.int (u0 <<< ((1 : Int32) &&& 31))), (.ref d0)]))
  refine Wp.step (fun t k => XS.iinc X1.here hx rfl (hb hby d25_34) rfl (l' := #[.val (.ref d0), .val (.int ((u0 <<< ((1 : Int32) &&& 31)) + (1 : Int32)))]) rfl k) ?_
  show Wp p e below _ (T1.setTop (mkF m 37 #[.val (.ref d0), .val (.int ((u0 <<< ((1 : Int32) &&& 31)) + (1 : Int32)))] [(.int (u0 <<< ((1 : Int32) &&& 31))), (.ref d0)]))
  obtain ⟨cl3, Ar3, Sz3, Nn3, El3⟩ := id B_d0
  have hin3 : ¬ ((u0 <<< ((1 : Int32) &&& 31)) < 0 ∨ cl3.slots.size ≤ ((u0 <<< ((1 : Int32) &&& 31))).toNatClampNeg) := inb_of Sz3 i0
  have hat3 : cl3.slots[((u0 <<< ((1 : Int32) &&& 31))).toNatClampNeg]? = some (.int (g ((u0 <<< ((1 : Int32) &&& 31))).toNatClampNeg)) := (El3 _ (by have q := Nat.lt_of_not_le fun q => hin3 (Or.inr q); rw [Sz3] at q; exact q)).1
  refine Wp.step (X1.baloadBytes hx (j := (u0 <<< ((1 : Int32) &&& 31))) (v := (.int (g ((u0 <<< ((1 : Int32) &&& 31))).toNatClampNeg))) (by rw [e1]; exact Ar3.1) (State.isArrayOf_alike hZ.alike Ar3.2.1) Ar3.2.2 hin3 hat3 (g := (mkF m 37 #[.val (.ref d0), .val (.int ((u0 <<< ((1 : Int32) &&& 31)) + (1 : Int32)))] [(.int (u0 <<< ((1 : Int32) &&& 31))), (.ref d0)])) rfl rfl (hb hby d25_37)) ?_
  show Wp p e below _ (T1.setTop (mkF m 38 #[.val (.ref d0), .val (.int ((u0 <<< ((1 : Int32) &&& 31)) + (1 : Int32)))] [(.int (g ((u0 <<< ((1 : Int32) &&& 31))).toNatClampNeg))]))
  refine Wp.step (fun t k => XS.sipush X1.here hx rfl (hb hby d25_38) k) ?_
  show Wp p e below _ (T1.setTop (mkF m 41 #[.val (.ref d0), .val (.int ((u0 <<< ((1 : Int32) &&& 31)) + (1 : Int32)))] [(.int (255 : Int32)), (.int (g ((u0 <<< ((1 : Int32) &&& 31))).toNatClampNeg))]))
  refine Wp.step (fun t k => XS.iand X1.here hx rfl (hb hby d25_41) rfl k) ?_
  show Wp p e below _ (T1.setTop (mkF m 42 #[.val (.ref d0), .val (.int ((u0 <<< ((1 : Int32) &&& 31)) + (1 : Int32)))] [(.int ((g ((u0 <<< ((1 : Int32) &&& 31))).toNatClampNeg) &&& (255 : Int32)))]))
  obtain ⟨T4, X4, e4, st4⟩ := getS2 X1 hx hZ hown (host := "") (Or.inl (hw _ (List.mem_of_getElem? (i := 107) rfl))) Via.refl e1 S_HI_BYTE_SHIFT_0Int32 (g := (mkF m 42 #[.val (.ref d0), .val (.int ((u0 <<< ((1 : Int32) &&& 31)) + (1 : Int32)))] [(.int ((g ((u0 <<< ((1 : Int32) &&& 31))).toNatClampNeg) &&& (255 : Int32)))])) rfl (hb hby d25_42)
  refine Wp.step st4 ?_
  show Wp p e below _ (T4.setTop (mkF m 45 #[.val (.ref d0), .val (.int ((u0 <<< ((1 : Int32) &&& 31)) + (1 : Int32)))] [(.int (0 : Int32)), (.int ((g ((u0 <<< ((1 : Int32) &&& 31))).toNatClampNeg) &&& (255 : Int32)))]))
  refine Wp.step (fun t k => XS.ishl X4.here hx rfl (hb hby d25_45) rfl k) ?_
  show Wp p e below _ (T4.setTop (mkF m 46 #[.val (.ref d0), .val (.int ((u0 <<< ((1 : Int32) &&& 31)) + (1 : Int32)))] [(.int (((g ((u0 <<< ((1 : Int32) &&& 31))).toNatClampNeg) &&& (255 : Int32)) <<< ((0 : Int32) &&& 31)))]))
  refine Wp.step (fun t k => XS.aloadN X4.here hx rfl (hb hby d25_46) rfl rfl k) ?_
  show Wp p e below _ (T4.setTop (mkF m 47 #[.val (.ref d0), .val (.int ((u0 <<< ((1 : Int32) &&& 31)) + (1 : Int32)))] [(.ref d0), (.int (((g ((u0 <<< ((1 : Int32) &&& 31))).toNatClampNeg) &&& (255 : Int32)) <<< ((0 : Int32) &&& 31)))]))
  refine Wp.step (fun t k => XS.iloadN X4.here hx rfl (hb hby d25_47) rfl k) ?_
  show Wp p e below _ (T4.setTop (mkF m 48 #[.val (.ref d0), .val (.int ((u0 <<< ((1 : Int32) &&& 31)) + (1 : Int32)))] [(.int ((u0 <<< ((1 : Int32) &&& 31)) + (1 : Int32))), (.ref d0), (.int (((g ((u0 <<< ((1 : Int32) &&& 31))).toNatClampNeg) &&& (255 : Int32)) <<< ((0 : Int32) &&& 31)))]))
  obtain ⟨cl5, Ar5, Sz5, Nn5, El5⟩ := id B_d0
  have hin5 : ¬ (((u0 <<< ((1 : Int32) &&& 31)) + (1 : Int32)) < 0 ∨ cl5.slots.size ≤ (((u0 <<< ((1 : Int32) &&& 31)) + (1 : Int32))).toNatClampNeg) := inb_of Sz5 i1
  have hat5 : cl5.slots[(((u0 <<< ((1 : Int32) &&& 31)) + (1 : Int32))).toNatClampNeg]? = some (.int (g (((u0 <<< ((1 : Int32) &&& 31)) + (1 : Int32))).toNatClampNeg)) := (El5 _ (by have q := Nat.lt_of_not_le fun q => hin5 (Or.inr q); rw [Sz5] at q; exact q)).1
  refine Wp.step (X4.baloadBytes hx (j := ((u0 <<< ((1 : Int32) &&& 31)) + (1 : Int32))) (v := (.int (g (((u0 <<< ((1 : Int32) &&& 31)) + (1 : Int32))).toNatClampNeg))) (by rw [e4]; exact Ar5.1) (State.isArrayOf_alike hZ.alike Ar5.2.1) Ar5.2.2 hin5 hat5 (g := (mkF m 48 #[.val (.ref d0), .val (.int ((u0 <<< ((1 : Int32) &&& 31)) + (1 : Int32)))] [(.int ((u0 <<< ((1 : Int32) &&& 31)) + (1 : Int32))), (.ref d0), (.int (((g ((u0 <<< ((1 : Int32) &&& 31))).toNatClampNeg) &&& (255 : Int32)) <<< ((0 : Int32) &&& 31)))])) rfl rfl (hb hby d25_48)) ?_
  show Wp p e below _ (T4.setTop (mkF m 49 #[.val (.ref d0), .val (.int ((u0 <<< ((1 : Int32) &&& 31)) + (1 : Int32)))] [(.int (g (((u0 <<< ((1 : Int32) &&& 31)) + (1 : Int32))).toNatClampNeg)), (.int (((g ((u0 <<< ((1 : Int32) &&& 31))).toNatClampNeg) &&& (255 : Int32)) <<< ((0 : Int32) &&& 31)))]))
  refine Wp.step (fun t k => XS.sipush X4.here hx rfl (hb hby d25_49) k) ?_
  show Wp p e below _ (T4.setTop (mkF m 52 #[.val (.ref d0), .val (.int ((u0 <<< ((1 : Int32) &&& 31)) + (1 : Int32)))] [(.int (255 : Int32)), (.int (g (((u0 <<< ((1 : Int32) &&& 31)) + (1 : Int32))).toNatClampNeg)), (.int (((g ((u0 <<< ((1 : Int32) &&& 31))).toNatClampNeg) &&& (255 : Int32)) <<< ((0 : Int32) &&& 31)))]))
  refine Wp.step (fun t k => XS.iand X4.here hx rfl (hb hby d25_52) rfl k) ?_
  show Wp p e below _ (T4.setTop (mkF m 53 #[.val (.ref d0), .val (.int ((u0 <<< ((1 : Int32) &&& 31)) + (1 : Int32)))] [(.int ((g (((u0 <<< ((1 : Int32) &&& 31)) + (1 : Int32))).toNatClampNeg) &&& (255 : Int32))), (.int (((g ((u0 <<< ((1 : Int32) &&& 31))).toNatClampNeg) &&& (255 : Int32)) <<< ((0 : Int32) &&& 31)))]))
  obtain ⟨T6, X6, e6, st6⟩ := getS2 X4 hx hZ hown (host := "") (Or.inl (hw _ (List.mem_of_getElem? (i := 108) rfl))) Via.refl e4 S_LO_BYTE_SHIFT_8Int32 (g := (mkF m 53 #[.val (.ref d0), .val (.int ((u0 <<< ((1 : Int32) &&& 31)) + (1 : Int32)))] [(.int ((g (((u0 <<< ((1 : Int32) &&& 31)) + (1 : Int32))).toNatClampNeg) &&& (255 : Int32))), (.int (((g ((u0 <<< ((1 : Int32) &&& 31))).toNatClampNeg) &&& (255 : Int32)) <<< ((0 : Int32) &&& 31)))])) rfl (hb hby d25_53)
  refine Wp.step st6 ?_
  show Wp p e below _ (T6.setTop (mkF m 56 #[.val (.ref d0), .val (.int ((u0 <<< ((1 : Int32) &&& 31)) + (1 : Int32)))] [(.int (8 : Int32)), (.int ((g (((u0 <<< ((1 : Int32) &&& 31)) + (1 : Int32))).toNatClampNeg) &&& (255 : Int32))), (.int (((g ((u0 <<< ((1 : Int32) &&& 31))).toNatClampNeg) &&& (255 : Int32)) <<< ((0 : Int32) &&& 31)))]))
  refine Wp.step (fun t k => XS.ishl X6.here hx rfl (hb hby d25_56) rfl k) ?_
  show Wp p e below _ (T6.setTop (mkF m 57 #[.val (.ref d0), .val (.int ((u0 <<< ((1 : Int32) &&& 31)) + (1 : Int32)))] [(.int (((g (((u0 <<< ((1 : Int32) &&& 31)) + (1 : Int32))).toNatClampNeg) &&& (255 : Int32)) <<< ((8 : Int32) &&& 31))), (.int (((g ((u0 <<< ((1 : Int32) &&& 31))).toNatClampNeg) &&& (255 : Int32)) <<< ((0 : Int32) &&& 31)))]))
  refine Wp.step (fun t k => XS.ior X6.here hx rfl (hb hby d25_57) rfl k) ?_
  show Wp p e below _ (T6.setTop (mkF m 58 #[.val (.ref d0), .val (.int ((u0 <<< ((1 : Int32) &&& 31)) + (1 : Int32)))] [(.int ((((g ((u0 <<< ((1 : Int32) &&& 31))).toNatClampNeg) &&& (255 : Int32)) <<< ((0 : Int32) &&& 31)) ||| (((g (((u0 <<< ((1 : Int32) &&& 31)) + (1 : Int32))).toNatClampNeg) &&& (255 : Int32)) <<< ((8 : Int32) &&& 31))))]))
  refine Wp.step (fun t k => XS.i2c X6.here hx rfl (hb hby d25_58) rfl k) ?_
  show Wp p e below _ (T6.setTop (mkF m 59 #[.val (.ref d0), .val (.int ((u0 <<< ((1 : Int32) &&& 31)) + (1 : Int32)))] [(.int (((((g ((u0 <<< ((1 : Int32) &&& 31))).toNatClampNeg) &&& (255 : Int32)) <<< ((0 : Int32) &&& 31)) ||| (((g (((u0 <<< ((1 : Int32) &&& 31)) + (1 : Int32))).toNatClampNeg) &&& (255 : Int32)) <<< ((8 : Int32) &&& 31))).toUInt32.toUInt16.toUInt32.toInt32))]))
  refine Wp.retN X6 hx (t := .char) Bd.returns (by simp) (hb hby d25_59) hlk ?_ (by decide) (by decide)
  show Q25 Z d0 u0 len g h0 n0 (some (.int (nar .char (((((g ((u0 <<< ((1 : Int32) &&& 31))).toNatClampNeg) &&& (255 : Int32)) <<< ((0 : Int32) &&& 31)) ||| (((g (((u0 <<< ((1 : Int32) &&& 31)) + (1 : Int32))).toNatClampNeg) &&& (255 : Int32)) <<< ((8 : Int32) &&& 31))).toUInt32.toUInt16.toUInt32.toInt32)))) T6.heap _
  rw [e6]
  exact ⟨(congrArg (fun z => some (Value.int z)) (own_narc _)), N0, rfl⟩
theorem pd_28I5bB29V : parseMethodDescriptor "(I[B)V" = some ⟨[.int, (.array .byte)], none⟩ := by decide +kernel
theorem pd_285bBI29C : parseMethodDescriptor "([BI)C" = some ⟨[(.array .byte), .int], some .char⟩ := by decide +kernel
theorem d26_0 : decode jdk_52_method_83_code 0 = .ok (.iload_n 1, 1) := by decide +kernel
theorem d26_1 : decode jdk_52_method_83_code 1 = .ok (.aload_n 0, 1) := by decide +kernel
theorem d26_2 : decode jdk_52_method_83_code 2 = .ok (.invokestatic 67, 3) := by decide +kernel
theorem d26_5 : decode jdk_52_method_83_code 5 = .ok (.aload_n 0, 1) := by decide +kernel
theorem d26_6 : decode jdk_52_method_83_code 6 = .ok (.iload_n 1, 1) := by decide +kernel
theorem d26_7 : decode jdk_52_method_83_code 7 = .ok (.invokestatic 71, 3) := by decide +kernel
theorem d26_10 : decode jdk_52_method_83_code 10 = .ok (.ireturn, 1) := by decide +kernel
theorem ef_26_00 (m : MethodId) (x0 : Addr) (x1 : Int32) : entryFrame m #[(.ref x0), (.int x1)] 2 = mkF m 0 #[.val (.ref x0), .val (.int x1)] [] := by first | (simp [entryFrame, mkF, argsToLocals, Value.category]; done) | rfl
def Q26 (Z : State) (d0 : Addr) (u0 : Int32) (len : Int32) (g : Nat → Int32) (fm : Value) (h0 : Heap) (n0 : Nat) (v : Option Value) (h : Heap) (L : List Loc) : Prop := v = some (.int (own_gc g u0)) ∧ Fr n0 L ∧ h = h0
set_option maxRecDepth 65536 in
set_option maxHeartbeats 40000000 in
theorem rm26 (l : Launch) (Z : State) (a0 : Array Value) (hw : ∀ d ∈ tables_1, d.before a0 Z = true) (ws : List Jvm.Cond) (d0 : Addr) (u0 : Int32) (len : Int32) (g : Nat → Int32) (fm : Value) (h0 : Heap) (n0 : Nat) (Z0 : n0 ≤ h0.size) (B_d0 : own_IA .byte Z h0 d0 len g) (S_SIOOBE_FORMATTER_fm : Sta Z h0 "jdk/internal/util/Preconditions" "SIOOBE_FORMATTER" "Ljava/util/function/BiFunction;" fm) (S_assertionsDisabled_1Int32 : Sta Z h0 "java/lang/StringUTF16" "$assertionsDisabled" "Z" (.int (1 : Int32))) (S_HI_BYTE_SHIFT_0Int32 : Sta Z h0 "java/lang/StringUTF16" "HI_BYTE_SHIFT" "I" (.int (0 : Int32))) (S_LO_BYTE_SHIFT_8Int32 : Sta Z h0 "java/lang/StringUTF16" "LO_BYTE_SHIFT" "I" (.int (8 : Int32))) (hj : ¬ u0 < 0) (hj2 : u0 < (len >>> ((1 : Int32) &&& 31))) (hfm : fm = .null ∨ ∃ z, fm = .ref z) (i0 : ¬ (u0 <<< ((1 : Int32) &&& 31)) < 0 ∧ (u0 <<< ((1 : Int32) &&& 31)) < len) (i1 : ¬ ((u0 <<< ((1 : Int32) &&& 31)) + (1 : Int32)) < 0 ∧ ((u0 <<< ((1 : Int32) &&& 31)) + (1 : Int32)) < len) :
    MetFree l (⟨"java/lang/StringUTF16", "charAt", "([BI)C"⟩ : MethodName) (head1 (Jvm.Cond.code (⟨"java/lang/StringUTF16", "charAt", "([BI)C"⟩ : MethodName) jdk_52_method_83_code 2 (some .char) :: ws) ({ frames := 3, cells := 0, slots := 0, locals := 40 } : Room)) (fun a U => a = #[(.ref d0), (.int u0)] ∧ Z.Warmed39 U.vm ∧ U.heap = h0) (fun _ _ _ _ _ => True) (fun _ U o U' => ∃ v L, o = .returned v ∧ Q26 Z d0 u0 len g fm h0 n0 v U'.heap L ∧ FrameEnd U o U' L ({ frames := 3, cells := 0, slots := 0, locals := 40 } : Room).cells ({ frames := 3, cells := 0, slots := 0, locals := 40 } : Room).slots) := by
  refine MetFree.of_bodySF (plainFor_of_name pn_java_lang_StringUTF16) hisR ?_
  intro p e s m args below meth c s₁ Bd hml0 hP hK
  obtain ⟨rfl, hZ, hh⟩ := hP
  have hx := Bd.exec
  have hby := Bd.bytes
  have hlk : meth.locks = false := Bd.notSynchronized
  have hml : c.maxLocals = 2 := hml0
  have hown : s.vm.findClass "java/lang/StringUTF16" = some m.cls := findClass_of_methodNamed Bd.named
  have hnm := (name_of_methodNamed Bd.named Bd.method).1
  have X0 : Stand p l e ({ frames := 3, cells := 0, slots := 0, locals := 40 } : Room) s m #[(.ref d0), (.int u0)] below meth c s₁ [] 0 0 := Stand.of_body Bd
  have e0 : s₁.heap = h0 := by rw [← hh, Bd.state]; rfl
  have N0 := Fr.nil n0
  have K0 : Keep h0 h0 [] := Keep.refl h0 _
  show Wp p e below (Out s (Q26 Z d0 u0 len g fm h0 n0) ({ frames := 3, cells := 0, slots := 0, locals := 40 } : Room).cells ({ frames := 3, cells := 0, slots := 0, locals := 40 } : Room).slots) (s₁.setTop (entryFrame m #[(.ref d0), (.int u0)] 2))
  rw [ef_26_00]
  show Wp p e below _ (s₁.setTop (mkF m 0 #[.val (.ref d0), .val (.int u0)] []))
  refine Wp.step (fun t k => XS.iloadN X0.here hx rfl (hb hby d26_0) rfl k) ?_
  show Wp p e below _ (s₁.setTop (mkF m 1 #[.val (.ref d0), .val (.int u0)] [(.int u0)]))
  refine Wp.step (fun t k => XS.aloadN X0.here hx rfl (hb hby d26_1) rfl rfl k) ?_
  show Wp p e below _ (s₁.setTop (mkF m 2 #[.val (.ref d0), .val (.int u0)] [(.ref d0), (.int u0)]))
  obtain ⟨_, _, ⟨T1, L1, k1, n1⟩, -, X1, ⟨Lc1, hQ1, l1, y1, z1⟩, st1⟩ := Jvm.LawKit.callS X0 hx (y := (⟨"java/lang/StringUTF16", "checkIndex", "(I[B)V"⟩ : MethodName)) hown (mvT hZ (hw _ (List.mem_of_getElem? (i := 115) rfl))) (mvT hZ (hw _ (List.mem_of_getElem? (i := 116) rfl))) (mvT hZ (hw _ (List.mem_of_getElem? (i := 54) rfl))) (mvT hZ (hw _ (List.mem_of_getElem? (i := 117) rfl))) (by decide) (backOf (W := 0) (rm27 l Z a0 hw [] u0 d0 len g fm h0 n0 (Nat.le_trans Z0 K0.1) B_d0 S_SIOOBE_FORMATTER_fm hj hj2 hfm) hZ (hw _ (List.mem_of_getElem? (i := 117) rfl)) (hw _ (List.mem_of_getElem? (i := 54) rfl)) (by decide) (by decide)) (g := (mkF m 2 #[.val (.ref d0), .val (.int u0)] [(.ref d0), (.int u0)])) rfl (by rw [hml]; rfl) (argsL := [(.int u0), (.ref d0)]) (rest := []) (lenOf pd_28I5bB29V rfl) rfl (by show 2 * 0 + _ ≤ _; exact Nat.le_of_eq rfl) (hb hby d26_2) (fun _ _ => ⟨rfl, e0, (by decide : 0 + 0 ≤ _), (by decide : 0 + 0 ≤ _)⟩)
  dsimp only [Pt.U, Pt.locs, Pt.cells, Pt.slots] at X1 l1 y1 z1 st1 hQ1
  subst l1 y1 z1
  obtain ⟨rfl, N1q, e1⟩ := hQ1
  have N1 := Fr.app N0 N1q
  refine Wp.step st1 ?_
  show Wp p e below _ (T1.setTop (mkF m 5 #[.val (.ref d0), .val (.int u0)] []))
  refine Wp.step (fun t k => XS.aloadN X1.here hx rfl (hb hby d26_5) rfl rfl k) ?_
  show Wp p e below _ (T1.setTop (mkF m 6 #[.val (.ref d0), .val (.int u0)] [(.ref d0)]))
  refine Wp.step (fun t k => XS.iloadN X1.here hx rfl (hb hby d26_6) rfl k) ?_
  show Wp p e below _ (T1.setTop (mkF m 7 #[.val (.ref d0), .val (.int u0)] [(.int u0), (.ref d0)]))
  obtain ⟨_, _, ⟨T2, L2, k2, n2⟩, -, X2, ⟨Lc2, hQ2, l2, y2, z2⟩, st2⟩ := Jvm.LawKit.callS X1 hx (y := (⟨"java/lang/StringUTF16", "getChar", "([BI)C"⟩ : MethodName)) hown (mvT hZ (hw _ (List.mem_of_getElem? (i := 109) rfl))) (mvT hZ (hw _ (List.mem_of_getElem? (i := 110) rfl))) (mvT hZ (hw _ (List.mem_of_getElem? (i := 54) rfl))) (mvT hZ (hw _ (List.mem_of_getElem? (i := 111) rfl))) (by decide) (backOf (W := 0) (rm25 l Z a0 hw [] d0 u0 len g h0 n0 (Nat.le_trans Z0 K0.1) B_d0 S_assertionsDisabled_1Int32 S_HI_BYTE_SHIFT_0Int32 S_LO_BYTE_SHIFT_8Int32 i0 i1) hZ (hw _ (List.mem_of_getElem? (i := 111) rfl)) (hw _ (List.mem_of_getElem? (i := 54) rfl)) (by decide) (by decide)) (g := (mkF m 7 #[.val (.ref d0), .val (.int u0)] [(.int u0), (.ref d0)])) rfl (by rw [hml]; rfl) (argsL := [(.ref d0), (.int u0)]) (rest := []) (lenOf pd_285bBI29C rfl) rfl (by show 2 * 0 + _ ≤ _; exact Nat.le_of_eq rfl) (hb hby d26_7) (fun _ _ => ⟨rfl, e1, (by decide : 0 + 0 ≤ _), (by decide : 0 + 0 ≤ _)⟩)
  dsimp only [Pt.U, Pt.locs, Pt.cells, Pt.slots] at X2 l2 y2 z2 st2 hQ2
  subst l2 y2 z2
  obtain ⟨rfl, N2q, e2⟩ := hQ2
  have N2 := Fr.app N1 N2q
  refine Wp.step st2 ?_
  show Wp p e below _ (T2.setTop (mkF m 10 #[.val (.ref d0), .val (.int u0)] [(.int (own_gc g u0))]))
  refine Wp.retN X2 hx (t := .char) Bd.returns (by simp) (hb hby d26_10) hlk ?_ (by decide) (by decide)
  show Q26 Z d0 u0 len g fm h0 n0 (some (.int (nar .char (own_gc g u0)))) T2.heap _
  rw [e2]
  exact ⟨(congrArg (fun z => some (Value.int z)) (own_narc _)), N2, rfl⟩
theorem d17_0 : decode jdk_43_method_2_code 0 = .ok (.iload_n 1, 1) := by decide +kernel
theorem d17_1 : decode jdk_43_method_2_code 1 = .ok (.aload_n 0, 1) := by decide +kernel
theorem d17_2 : decode jdk_43_method_2_code 2 = .ok (.arraylength, 1) := by decide +kernel
theorem d17_3 : decode jdk_43_method_2_code 3 = .ok (.invokestatic 9, 3) := by decide +kernel
theorem d17_6 : decode jdk_43_method_2_code 6 = .ok (.aload_n 0, 1) := by decide +kernel
theorem d17_7 : decode jdk_43_method_2_code 7 = .ok (.iload_n 1, 1) := by decide +kernel
theorem d17_8 : decode jdk_43_method_2_code 8 = .ok (.baload, 1) := by decide +kernel
theorem d17_9 : decode jdk_43_method_2_code 9 = .ok (.sipush 255, 3) := by decide +kernel
theorem d17_12 : decode jdk_43_method_2_code 12 = .ok (.iand, 1) := by decide +kernel
theorem d17_13 : decode jdk_43_method_2_code 13 = .ok (.i2c, 1) := by decide +kernel
theorem d17_14 : decode jdk_43_method_2_code 14 = .ok (.ireturn, 1) := by decide +kernel
theorem pn_java_lang_StringLatin1 : plainName "java/lang/StringLatin1" = true := by first | (simp [plainName, overriddenIn]; done) | decide +kernel
theorem ef_17_00 (m : MethodId) (x0 : Addr) (x1 : Int32) : entryFrame m #[(.ref x0), (.int x1)] 2 = mkF m 0 #[.val (.ref x0), .val (.int x1)] [] := by first | (simp [entryFrame, mkF, argsToLocals, Value.category]; done) | rfl
def Q17 (Z : State) (d0 : Addr) (u0 : Int32) (len : Int32) (g : Nat → Int32) (fm : Value) (h0 : Heap) (n0 : Nat) (v : Option Value) (h : Heap) (L : List Loc) : Prop := v = some (.int (own_lc g u0)) ∧ Fr n0 L ∧ h = h0
set_option maxRecDepth 65536 in
set_option maxHeartbeats 40000000 in
theorem rm17 (l : Launch) (Z : State) (a0 : Array Value) (hw : ∀ d ∈ tables_1, d.before a0 Z = true) (ws : List Jvm.Cond) (d0 : Addr) (u0 : Int32) (len : Int32) (g : Nat → Int32) (fm : Value) (h0 : Heap) (n0 : Nat) (Z0 : n0 ≤ h0.size) (B_d0 : own_IA .byte Z h0 d0 len g) (S_SIOOBE_FORMATTER_fm : Sta Z h0 "jdk/internal/util/Preconditions" "SIOOBE_FORMATTER" "Ljava/util/function/BiFunction;" fm) (hj : ¬ u0 < 0) (hj2 : u0 < len) (hfm : fm = .null ∨ ∃ z, fm = .ref z) :
    MetFree l (⟨"java/lang/StringLatin1", "charAt", "([BI)C"⟩ : MethodName) (head1 (Jvm.Cond.code (⟨"java/lang/StringLatin1", "charAt", "([BI)C"⟩ : MethodName) jdk_43_method_2_code 2 (some .char) :: ws) ({ frames := 2, cells := 0, slots := 0, locals := 27 } : Room)) (fun a U => a = #[(.ref d0), (.int u0)] ∧ Z.Warmed39 U.vm ∧ U.heap = h0) (fun _ _ _ _ _ => True) (fun _ U o U' => ∃ v L, o = .returned v ∧ Q17 Z d0 u0 len g fm h0 n0 v U'.heap L ∧ FrameEnd U o U' L ({ frames := 2, cells := 0, slots := 0, locals := 27 } : Room).cells ({ frames := 2, cells := 0, slots := 0, locals := 27 } : Room).slots) := by
  refine MetFree.of_bodySF (plainFor_of_name pn_java_lang_StringLatin1) hisR ?_
  intro p e s m args below meth c s₁ Bd hml0 hP hK
  obtain ⟨rfl, hZ, hh⟩ := hP
  have hx := Bd.exec
  have hby := Bd.bytes
  have hlk : meth.locks = false := Bd.notSynchronized
  have hml : c.maxLocals = 2 := hml0
  have hown : s.vm.findClass "java/lang/StringLatin1" = some m.cls := findClass_of_methodNamed Bd.named
  have hnm := (name_of_methodNamed Bd.named Bd.method).1
  have X0 : Stand p l e ({ frames := 2, cells := 0, slots := 0, locals := 27 } : Room) s m #[(.ref d0), (.int u0)] below meth c s₁ [] 0 0 := Stand.of_body Bd
  have e0 : s₁.heap = h0 := by rw [← hh, Bd.state]; rfl
  have N0 := Fr.nil n0
  have K0 : Keep h0 h0 [] := Keep.refl h0 _
  show Wp p e below (Out s (Q17 Z d0 u0 len g fm h0 n0) ({ frames := 2, cells := 0, slots := 0, locals := 27 } : Room).cells ({ frames := 2, cells := 0, slots := 0, locals := 27 } : Room).slots) (s₁.setTop (entryFrame m #[(.ref d0), (.int u0)] 2))
  rw [ef_17_00]
  show Wp p e below _ (s₁.setTop (mkF m 0 #[.val (.ref d0), .val (.int u0)] []))
  refine Wp.step (fun t k => XS.iloadN X0.here hx rfl (hb hby d17_0) rfl k) ?_
  show Wp p e below _ (s₁.setTop (mkF m 1 #[.val (.ref d0), .val (.int u0)] [(.int u0)]))
  refine Wp.step (fun t k => XS.aloadN X0.here hx rfl (hb hby d17_1) rfl rfl k) ?_
  show Wp p e below _ (s₁.setTop (mkF m 2 #[.val (.ref d0), .val (.int u0)] [(.ref d0), (.int u0)]))
  obtain ⟨cl1, Ar1, Sz1, Nn1, -⟩ := id B_d0
  refine Wp.step (X0.arraylength hx (by rw [e0]; exact Ar1.1) (State.isArrayOf_alike hZ.alike Ar1.2.1) (g := (mkF m 2 #[.val (.ref d0), .val (.int u0)] [(.ref d0), (.int u0)])) rfl rfl (hb hby d17_2)) ?_
  rw [len_of Sz1 Nn1]
  show Wp p e below _ (s₁.setTop (mkF m 3 #[.val (.ref d0), .val (.int u0)] [(.int len), (.int u0)]))
  obtain ⟨_, _, ⟨T2, L2, k2, n2⟩, -, X2, ⟨Lc2, hQ2, l2, y2, z2⟩, st2⟩ := Jvm.LawKit.callS X0 hx (y := (⟨"java/lang/String", "checkIndex", "(II)V"⟩ : MethodName)) hown (mvT hZ (hw _ (List.mem_of_getElem? (i := 80) rfl))) (mvT hZ (hw _ (List.mem_of_getElem? (i := 81) rfl))) (mvT hZ (hw _ (List.mem_of_getElem? (i := 6) rfl))) (mvT hZ (hw _ (List.mem_of_getElem? (i := 82) rfl))) (by decide) (backOf (W := 0) (rm18 l Z a0 hw [] u0 len fm h0 n0 (Nat.le_trans Z0 K0.1) S_SIOOBE_FORMATTER_fm hj hj2 hfm) hZ (hw _ (List.mem_of_getElem? (i := 82) rfl)) (hw _ (List.mem_of_getElem? (i := 6) rfl)) (by decide) (by decide)) (g := (mkF m 3 #[.val (.ref d0), .val (.int u0)] [(.int len), (.int u0)])) rfl (by rw [hml]; rfl) (argsL := [(.int u0), (.int len)]) (rest := []) (lenOf pd_28II29V rfl) rfl (by show 2 * 0 + _ ≤ _; exact Nat.le_of_eq rfl) (hb hby d17_3) (fun _ _ => ⟨rfl, e0, (by decide : 0 + 0 ≤ _), (by decide : 0 + 0 ≤ _)⟩)
  dsimp only [Pt.U, Pt.locs, Pt.cells, Pt.slots] at X2 l2 y2 z2 st2 hQ2
  subst l2 y2 z2
  obtain ⟨rfl, N2q, e2⟩ := hQ2
  have N2 := Fr.app N0 N2q
  refine Wp.step st2 ?_
  show Wp p e below _ (T2.setTop (mkF m 6 #[.val (.ref d0), .val (.int u0)] []))
  refine Wp.step (fun t k => XS.aloadN X2.here hx rfl (hb hby d17_6) rfl rfl k) ?_
  show Wp p e below _ (T2.setTop (mkF m 7 #[.val (.ref d0), .val (.int u0)] [(.ref d0)]))
  refine Wp.step (fun t k => XS.iloadN X2.here hx rfl (hb hby d17_7) rfl k) ?_
  show Wp p e below _ (T2.setTop (mkF m 8 #[.val (.ref d0), .val (.int u0)] [(.int u0), (.ref d0)]))
  obtain ⟨cl3, Ar3, Sz3, Nn3, El3⟩ := id B_d0
  have hin3 : ¬ (u0 < 0 ∨ cl3.slots.size ≤ (u0).toNatClampNeg) := inb_of Sz3 ⟨hj, hj2⟩
  have hat3 : cl3.slots[(u0).toNatClampNeg]? = some (.int (g (u0).toNatClampNeg)) := (El3 _ (by have q := Nat.lt_of_not_le fun q => hin3 (Or.inr q); rw [Sz3] at q; exact q)).1
  refine Wp.step (X2.baloadBytes hx (j := u0) (v := (.int (g (u0).toNatClampNeg))) (by rw [e2]; exact Ar3.1) (State.isArrayOf_alike hZ.alike Ar3.2.1) Ar3.2.2 hin3 hat3 (g := (mkF m 8 #[.val (.ref d0), .val (.int u0)] [(.int u0), (.ref d0)])) rfl rfl (hb hby d17_8)) ?_
  show Wp p e below _ (T2.setTop (mkF m 9 #[.val (.ref d0), .val (.int u0)] [(.int (g (u0).toNatClampNeg))]))
  refine Wp.step (fun t k => XS.sipush X2.here hx rfl (hb hby d17_9) k) ?_
  show Wp p e below _ (T2.setTop (mkF m 12 #[.val (.ref d0), .val (.int u0)] [(.int (255 : Int32)), (.int (g (u0).toNatClampNeg))]))
  refine Wp.step (fun t k => XS.iand X2.here hx rfl (hb hby d17_12) rfl k) ?_
  show Wp p e below _ (T2.setTop (mkF m 13 #[.val (.ref d0), .val (.int u0)] [(.int ((g (u0).toNatClampNeg) &&& (255 : Int32)))]))
  refine Wp.step (fun t k => XS.i2c X2.here hx rfl (hb hby d17_13) rfl k) ?_
  show Wp p e below _ (T2.setTop (mkF m 14 #[.val (.ref d0), .val (.int u0)] [(.int (((g (u0).toNatClampNeg) &&& (255 : Int32)).toUInt32.toUInt16.toUInt32.toInt32))]))
  refine Wp.retN X2 hx (t := .char) Bd.returns (by simp) (hb hby d17_14) hlk ?_ (by decide) (by decide)
  show Q17 Z d0 u0 len g fm h0 n0 (some (.int (nar .char (((g (u0).toNatClampNeg) &&& (255 : Int32)).toUInt32.toUInt16.toUInt32.toInt32)))) T2.heap _
  rw [e2]
  exact ⟨(congrArg (fun z => some (Value.int z)) (own_narc _)), N2, rfl⟩
theorem d8_0 : decode jdk_42_method_152_code 0 = .ok (.getstatic 38, 3) := by decide +kernel
theorem d8_3 : decode jdk_42_method_152_code 3 = .ok (.ifCond .eq 10, 3) := by decide +kernel
theorem d8_6 : decode jdk_42_method_152_code 6 = .ok (.aload_n 0, 1) := by decide +kernel
theorem d8_7 : decode jdk_42_method_152_code 7 = .ok (.getfield 15, 3) := by decide +kernel
theorem d8_10 : decode jdk_42_method_152_code 10 = .ok (.goto 4, 3) := by decide +kernel
theorem d8_14 : decode jdk_42_method_152_code 14 = .ok (.ireturn, 1) := by decide +kernel
theorem ef_8_0 (m : MethodId) (x0 : Addr) : entryFrame m #[(.ref x0)] 1 = mkF m 0 #[.val (.ref x0)] [] := by first | (simp [entryFrame, mkF, argsToLocals, Value.category]; done) | rfl
def Q8 (Z : State) (d0 : Addr) (cc : Int32) (cs : Int32) (h0 : Heap) (n0 : Nat) (v : Option Value) (h : Heap) (L : List Loc) : Prop := v = some (.int cc) ∧ Fr n0 L ∧ h = h0
set_option maxRecDepth 65536 in
set_option maxHeartbeats 40000000 in
theorem rm8 (l : Launch) (Z : State) (a0 : Array Value) (hw : ∀ d ∈ tables_1, d.before a0 Z = true) (ws : List Jvm.Cond) (d0 : Addr) (cc : Int32) (cs : Int32) (h0 : Heap) (n0 : Nat) (Z0 : n0 ≤ h0.size) (F_coder_d0 : Fld Z h0 d0 "java/lang/String" "coder" "B" (.int cc)) (S_COMPACT_STRINGS_cs : Sta Z h0 "java/lang/String" "COMPACT_STRINGS" "Z" (.int cs)) (hcs : ¬ cs = 0) (hcc : cc = 0 ∨ cc = 1) :
    MetFree l (⟨"java/lang/String", "coder", "()B"⟩ : MethodName) (head1 (Jvm.Cond.code (⟨"java/lang/String", "coder", "()B"⟩ : MethodName) jdk_42_method_152_code 1 (some .byte) :: ws) ({ frames := 0, cells := 0, slots := 0, locals := 0 } : Room)) (fun a U => a = #[(.ref d0)] ∧ Z.Warmed39 U.vm ∧ U.heap = h0) (fun _ _ _ _ _ => True) (fun _ U o U' => ∃ v L, o = .returned v ∧ Q8 Z d0 cc cs h0 n0 v U'.heap L ∧ FrameEnd U o U' L ({ frames := 0, cells := 0, slots := 0, locals := 0 } : Room).cells ({ frames := 0, cells := 0, slots := 0, locals := 0 } : Room).slots) := by
  refine MetFree.of_bodySF (plainFor_of_name pn_java_lang_String) hisR ?_
  intro p e s m args below meth c s₁ Bd hml0 hP hK
  obtain ⟨rfl, hZ, hh⟩ := hP
  have hx := Bd.exec
  have hby := Bd.bytes
  have hlk : meth.locks = false := Bd.notSynchronized
  have hml : c.maxLocals = 1 := hml0
  have hown : s.vm.findClass "java/lang/String" = some m.cls := findClass_of_methodNamed Bd.named
  have hnm := (name_of_methodNamed Bd.named Bd.method).1
  have X0 : Stand p l e ({ frames := 0, cells := 0, slots := 0, locals := 0 } : Room) s m #[(.ref d0)] below meth c s₁ [] 0 0 := Stand.of_body Bd
  have e0 : s₁.heap = h0 := by rw [← hh, Bd.state]; rfl
  have N0 := Fr.nil n0
  have K0 : Keep h0 h0 [] := Keep.refl h0 _
  show Wp p e below (Out s (Q8 Z d0 cc cs h0 n0) ({ frames := 0, cells := 0, slots := 0, locals := 0 } : Room).cells ({ frames := 0, cells := 0, slots := 0, locals := 0 } : Room).slots) (s₁.setTop (entryFrame m #[(.ref d0)] 1))
  rw [ef_8_0]
  show Wp p e below _ (s₁.setTop (mkF m 0 #[.val (.ref d0)] []))
  obtain ⟨T1, X1, e1, st1⟩ := getS2 X0 hx hZ hown (host := "") (Or.inl (hw _ (List.mem_of_getElem? (i := 43) rfl))) Via.refl e0 S_COMPACT_STRINGS_cs (g := (mkF m 0 #[.val (.ref d0)] [])) rfl (hb hby d8_0)
  refine Wp.step st1 ?_
  show Wp p e below _ (T1.setTop (mkF m 3 #[.val (.ref d0)] [(.int cs)]))
  refine Wp.step (fun t k => XS.ifNo X1.here hx rfl (hb hby d8_3) rfl ((if0 _ _).trans (feq (show ¬ (cs = (0 : Int32)) from hcs)).1) k) ?_
  show Wp p e below _ (T1.setTop (mkF m 6 #[.val (.ref d0)] []))
  refine Wp.step (fun t k => XS.aloadN X1.here hx rfl (hb hby d8_6) rfl rfl k) ?_
  show Wp p e below _ (T1.setTop (mkF m 7 #[.val (.ref d0)] [(.ref d0)]))
  obtain ⟨T3, X3, e3, st3⟩ := getF X1 hx hZ hown (host := "") (Or.inl (hw _ (List.mem_of_getElem? (i := 25) rfl))) Via.refl e1 F_coder_d0 (g := (mkF m 7 #[.val (.ref d0)] [(.ref d0)])) rfl rfl (hb hby d8_7)
  refine Wp.step st3 ?_
  show Wp p e below _ (T3.setTop (mkF m 10 #[.val (.ref d0)] [(.int cc)]))
  refine Wp.step (fun t k => XS.goto X3.here hx rfl (pc0 := 10) (pc' := 14) rfl (hb hby d8_10) (by decide) (by decide) k) ?_
  show Wp p e below _ (T3.setTop (mkF m 14 #[.val (.ref d0)] [(.int cc)]))
  refine Wp.retN X3 hx (t := .byte) Bd.returns (by simp) (hb hby d8_14) hlk ?_ (by decide) (by decide)
  show Q8 Z d0 cc cs h0 n0 (some (.int (nar .byte cc))) T3.heap _
  rw [e3]
  exact ⟨(by rcases hcc with rfl | rfl <;> rfl), N0, rfl⟩
theorem d16_0 : decode jdk_42_method_154_code 0 = .ok (.getstatic 38, 3) := by decide +kernel
theorem d16_3 : decode jdk_42_method_154_code 3 = .ok (.ifCond .eq 14, 3) := by decide +kernel
theorem d16_6 : decode jdk_42_method_154_code 6 = .ok (.aload_n 0, 1) := by decide +kernel
theorem d16_7 : decode jdk_42_method_154_code 7 = .ok (.getfield 15, 3) := by decide +kernel
theorem d16_10 : decode jdk_42_method_154_code 10 = .ok (.ifCond .ne 7, 3) := by decide +kernel
theorem d16_13 : decode jdk_42_method_154_code 13 = .ok (.iconst 1, 1) := by decide +kernel
theorem d16_14 : decode jdk_42_method_154_code 14 = .ok (.goto 4, 3) := by decide +kernel
theorem d16_17 : decode jdk_42_method_154_code 17 = .ok (.iconst 0, 1) := by decide +kernel
theorem d16_18 : decode jdk_42_method_154_code 18 = .ok (.ireturn, 1) := by decide +kernel
theorem ef_16_0 (m : MethodId) (x0 : Addr) : entryFrame m #[(.ref x0)] 1 = mkF m 0 #[.val (.ref x0)] [] := by first | (simp [entryFrame, mkF, argsToLocals, Value.category]; done) | rfl
def Q16 (Z : State) (d0 : Addr) (cc : Int32) (cs : Int32) (h0 : Heap) (n0 : Nat) (v : Option Value) (h : Heap) (L : List Loc) : Prop := v = some (.int (own_il cc)) ∧ Fr n0 L ∧ h = h0
set_option maxRecDepth 65536 in
set_option maxHeartbeats 40000000 in
theorem rm16 (l : Launch) (Z : State) (a0 : Array Value) (hw : ∀ d ∈ tables_1, d.before a0 Z = true) (ws : List Jvm.Cond) (d0 : Addr) (cc : Int32) (cs : Int32) (h0 : Heap) (n0 : Nat) (Z0 : n0 ≤ h0.size) (F_coder_d0 : Fld Z h0 d0 "java/lang/String" "coder" "B" (.int cc)) (S_COMPACT_STRINGS_cs : Sta Z h0 "java/lang/String" "COMPACT_STRINGS" "Z" (.int cs)) (hcs : ¬ cs = 0) :
    MetFree l (⟨"java/lang/String", "isLatin1", "()Z"⟩ : MethodName) (head1 (Jvm.Cond.code (⟨"java/lang/String", "isLatin1", "()Z"⟩ : MethodName) jdk_42_method_154_code 1 (some .boolean) :: ws) ({ frames := 0, cells := 0, slots := 0, locals := 0 } : Room)) (fun a U => a = #[(.ref d0)] ∧ Z.Warmed39 U.vm ∧ U.heap = h0) (fun _ _ _ _ _ => True) (fun _ U o U' => ∃ v L, o = .returned v ∧ Q16 Z d0 cc cs h0 n0 v U'.heap L ∧ FrameEnd U o U' L ({ frames := 0, cells := 0, slots := 0, locals := 0 } : Room).cells ({ frames := 0, cells := 0, slots := 0, locals := 0 } : Room).slots) := by
  refine MetFree.of_bodySF (plainFor_of_name pn_java_lang_String) hisR ?_
  intro p e s m args below meth c s₁ Bd hml0 hP hK
  obtain ⟨rfl, hZ, hh⟩ := hP
  have hx := Bd.exec
  have hby := Bd.bytes
  have hlk : meth.locks = false := Bd.notSynchronized
  have hml : c.maxLocals = 1 := hml0
  have hown : s.vm.findClass "java/lang/String" = some m.cls := findClass_of_methodNamed Bd.named
  have hnm := (name_of_methodNamed Bd.named Bd.method).1
  have X0 : Stand p l e ({ frames := 0, cells := 0, slots := 0, locals := 0 } : Room) s m #[(.ref d0)] below meth c s₁ [] 0 0 := Stand.of_body Bd
  have e0 : s₁.heap = h0 := by rw [← hh, Bd.state]; rfl
  have N0 := Fr.nil n0
  have K0 : Keep h0 h0 [] := Keep.refl h0 _
  show Wp p e below (Out s (Q16 Z d0 cc cs h0 n0) ({ frames := 0, cells := 0, slots := 0, locals := 0 } : Room).cells ({ frames := 0, cells := 0, slots := 0, locals := 0 } : Room).slots) (s₁.setTop (entryFrame m #[(.ref d0)] 1))
  rw [ef_16_0]
  show Wp p e below _ (s₁.setTop (mkF m 0 #[.val (.ref d0)] []))
  obtain ⟨T1, X1, e1, st1⟩ := getS2 X0 hx hZ hown (host := "") (Or.inl (hw _ (List.mem_of_getElem? (i := 43) rfl))) Via.refl e0 S_COMPACT_STRINGS_cs (g := (mkF m 0 #[.val (.ref d0)] [])) rfl (hb hby d16_0)
  refine Wp.step st1 ?_
  show Wp p e below _ (T1.setTop (mkF m 3 #[.val (.ref d0)] [(.int cs)]))
  refine Wp.step (fun t k => XS.ifNo X1.here hx rfl (hb hby d16_3) rfl ((if0 _ _).trans (feq (show ¬ (cs = (0 : Int32)) from hcs)).1) k) ?_
  show Wp p e below _ (T1.setTop (mkF m 6 #[.val (.ref d0)] []))
  refine Wp.step (fun t k => XS.aloadN X1.here hx rfl (hb hby d16_6) rfl rfl k) ?_
  show Wp p e below _ (T1.setTop (mkF m 7 #[.val (.ref d0)] [(.ref d0)]))
  obtain ⟨T3, X3, e3, st3⟩ := getF X1 hx hZ hown (host := "") (Or.inl (hw _ (List.mem_of_getElem? (i := 25) rfl))) Via.refl e1 F_coder_d0 (g := (mkF m 7 #[.val (.ref d0)] [(.ref d0)])) rfl rfl (hb hby d16_7)
  refine Wp.step st3 ?_
  show Wp p e below _ (T3.setTop (mkF m 10 #[.val (.ref d0)] [(.int cc)]))
  by_cases hc4 : cc = (0 : Int32)
  · refine Wp.step (fun t k => XS.ifNo X3.here hx rfl (hb hby d16_10) rfl ((if0 _ _).trans (teq hc4).2) k) ?_
    show Wp p e below _ (T3.setTop (mkF m 13 #[.val (.ref d0)] []))
    refine Wp.step (fun t k => XS.iconst X3.here hx rfl (hb hby d16_13) k) ?_
    show Wp p e below _ (T3.setTop (mkF m 14 #[.val (.ref d0)] [(.int (1 : Int32))]))
    refine Wp.step (fun t k => XS.goto X3.here hx rfl (pc0 := 14) (pc' := 18) rfl (hb hby d16_14) (by decide) (by decide) k) ?_
    show Wp p e below _ (T3.setTop (mkF m 18 #[.val (.ref d0)] [(.int (1 : Int32))]))
    refine Wp.retN X3 hx (t := .boolean) Bd.returns (by simp) (hb hby d16_18) hlk ?_ (by decide) (by decide)
    show Q16 Z d0 cc cs h0 n0 (some (.int (nar .boolean (1 : Int32)))) T3.heap _
    rw [e3]
    exact ⟨(by rw [own_il, if_pos hc4]; rfl), N0, rfl⟩
  · refine Wp.step (fun t k => XS.ifYes X3.here hx rfl (pc0 := 10) (pc' := 17) rfl (hb hby d16_10) rfl ((if0 _ _).trans (feq hc4).2) (by decide) (by decide) k) ?_
    show Wp p e below _ (T3.setTop (mkF m 17 #[.val (.ref d0)] []))
    refine Wp.step (fun t k => XS.iconst X3.here hx rfl (hb hby d16_17) k) ?_
    show Wp p e below _ (T3.setTop (mkF m 18 #[.val (.ref d0)] [(.int (0 : Int32))]))
    refine Wp.retN X3 hx (t := .boolean) Bd.returns (by simp) (hb hby d16_18) hlk ?_ (by decide) (by decide)
    show Q16 Z d0 cc cs h0 n0 (some (.int (nar .boolean (0 : Int32)))) T3.heap _
    rw [e3]
    exact ⟨(by rw [own_il, if_neg hc4]; rfl), N0, rfl⟩
theorem pd_2829B : parseMethodDescriptor "()B" = some ⟨[], some .byte⟩ := by decide +kernel
theorem d7_0 : decode jdk_42_method_54_code 0 = .ok (.aload_n 0, 1) := by decide +kernel
theorem d7_1 : decode jdk_42_method_54_code 1 = .ok (.getfield 9, 3) := by decide +kernel
theorem d7_4 : decode jdk_42_method_54_code 4 = .ok (.arraylength, 1) := by decide +kernel
theorem d7_5 : decode jdk_42_method_54_code 5 = .ok (.aload_n 0, 1) := by decide +kernel
theorem d7_6 : decode jdk_42_method_54_code 6 = .ok (.invokevirtual 335, 3) := by decide +kernel
theorem d7_9 : decode jdk_42_method_54_code 9 = .ok (.ishr, 1) := by decide +kernel
theorem d7_10 : decode jdk_42_method_54_code 10 = .ok (.ireturn, 1) := by decide +kernel
theorem ef_7_0 (m : MethodId) (x0 : Addr) : entryFrame m #[(.ref x0)] 1 = mkF m 0 #[.val (.ref x0)] [] := by first | (simp [entryFrame, mkF, argsToLocals, Value.category]; done) | rfl
def Q7 (Z : State) (d0 : Addr) (n : Int32) (f : Nat → Int32) (cs : Int32) (h0 : Heap) (n0 : Nat) (v : Option Value) (h : Heap) (L : List Loc) : Prop := v = some (.int n) ∧ Fr n0 L ∧ h = h0
set_option maxRecDepth 65536 in
set_option maxHeartbeats 40000000 in
theorem rm7 (l : Launch) (Z : State) (a0 : Array Value) (hw : ∀ d ∈ tables_1, d.before a0 Z = true) (ws : List Jvm.Cond) (d0 : Addr) (n : Int32) (f : Nat → Int32) (cs : Int32) (h0 : Heap) (n0 : Nat) (Z0 : n0 ≤ h0.size) (S_COMPACT_STRINGS_cs : Sta Z h0 "java/lang/String" "COMPACT_STRINGS" "Z" (.int cs)) (hcs : ¬ cs = 0) (hA : own_S Z h0 d0 n f) :
    MetFree l (⟨"java/lang/String", "length", "()I"⟩ : MethodName) (head1 (Jvm.Cond.code (⟨"java/lang/String", "length", "()I"⟩ : MethodName) jdk_42_method_54_code 1 (some .int) :: ws) ({ frames := 1, cells := 0, slots := 0, locals := 13 } : Room)) (fun a U => a = #[(.ref d0)] ∧ Z.Warmed39 U.vm ∧ U.heap = h0) (fun _ _ _ _ _ => True) (fun _ U o U' => ∃ v L, o = .returned v ∧ Q7 Z d0 n f cs h0 n0 v U'.heap L ∧ FrameEnd U o U' L ({ frames := 1, cells := 0, slots := 0, locals := 13 } : Room).cells ({ frames := 1, cells := 0, slots := 0, locals := 13 } : Room).slots) := by
  refine MetFree.of_bodySF (plainFor_of_name pn_java_lang_String) hisR ?_
  intro p e s m args below meth c s₁ Bd hml0 hP hK
  obtain ⟨rfl, hZ, hh⟩ := hP
  have hx := Bd.exec
  have hby := Bd.bytes
  have hlk : meth.locks = false := Bd.notSynchronized
  have hml : c.maxLocals = 1 := hml0
  have hown : s.vm.findClass "java/lang/String" = some m.cls := findClass_of_methodNamed Bd.named
  have hnm := (name_of_methodNamed Bd.named Bd.method).1
  have X0 : Stand p l e ({ frames := 1, cells := 0, slots := 0, locals := 13 } : Room) s m #[(.ref d0)] below meth c s₁ [] 0 0 := Stand.of_body Bd
  have e0 : s₁.heap = h0 := by rw [← hh, Bd.state]; rfl
  have N0 := Fr.nil n0
  have K0 : Keep h0 h0 [] := Keep.refl h0 _
  show Wp p e below (Out s (Q7 Z d0 n f cs h0 n0) ({ frames := 1, cells := 0, slots := 0, locals := 13 } : Room).cells ({ frames := 1, cells := 0, slots := 0, locals := 13 } : Room).slots) (s₁.setTop (entryFrame m #[(.ref d0)] 1))
  rw [ef_7_0]
  obtain ⟨va, cc, len, g, E_d0, F_v, F_c, B_va, hn3, henc⟩ := id hA
  show Wp p e below _ (s₁.setTop (mkF m 0 #[.val (.ref d0)] []))
  refine Wp.step (fun t k => XS.aloadN X0.here hx rfl (hb hby d7_0) rfl rfl k) ?_
  show Wp p e below _ (s₁.setTop (mkF m 1 #[.val (.ref d0)] [(.ref d0)]))
  obtain ⟨T1, X1, e1, st1⟩ := getF X0 hx hZ hown (host := "") (Or.inl (hw _ (List.mem_of_getElem? (i := 24) rfl))) Via.refl e0 F_v (g := (mkF m 1 #[.val (.ref d0)] [(.ref d0)])) rfl rfl (hb hby d7_1)
  refine Wp.step st1 ?_
  show Wp p e below _ (T1.setTop (mkF m 4 #[.val (.ref d0)] [(.ref va)]))
  obtain ⟨cl2, Ar2, Sz2, Nn2, -⟩ := id B_va
  refine Wp.step (X1.arraylength hx (by rw [e1]; exact Ar2.1) (State.isArrayOf_alike hZ.alike Ar2.2.1) (g := (mkF m 4 #[.val (.ref d0)] [(.ref va)])) rfl rfl (hb hby d7_4)) ?_
  rw [len_of Sz2 Nn2]
  show Wp p e below _ (T1.setTop (mkF m 5 #[.val (.ref d0)] [(.int len)]))
  refine Wp.step (fun t k => XS.aloadN X1.here hx rfl (hb hby d7_5) rfl rfl k) ?_
  show Wp p e below _ (T1.setTop (mkF m 6 #[.val (.ref d0)] [(.ref d0), (.int len)]))
  obtain ⟨cq3, kq3, q3a, q3b, q3c⟩ := isOf hZ e1 E_d0
  obtain ⟨_, _, ⟨T3, L3, k3, n3⟩, -, X3, ⟨Lc3, hQ3, l3, y3, z3⟩, st3⟩ := X1.virtualBack hx (y := (⟨"java/lang/String", "coder", "()B"⟩ : MethodName)) (z := (⟨"java/lang/String", "coder", "()B"⟩ : MethodName)) hown (mvT hZ (hw _ (List.mem_of_getElem? (i := 38) rfl))) (mvT hZ (hw _ (List.mem_of_getElem? (i := 39) rfl))) (notFace_of_selects (args := #[]) (mvT hZ (hw _ (List.mem_of_getElem? (i := 41) rfl)))) (mvT hZ (hw _ (List.mem_of_getElem? (i := 41) rfl))) (mvT hZ (hw _ (List.mem_of_getElem? (i := 40) rfl))) (by decide) (backOf (W := 1) (rm8 l Z a0 hw [] d0 cc cs h0 n0 (Nat.le_trans Z0 K0.1) F_c S_COMPACT_STRINGS_cs hcs (own_cc henc)) hZ (hw _ (List.mem_of_getElem? (i := 42) rfl)) (hw _ (List.mem_of_getElem? (i := 6) rfl)) (by decide) (by decide)) q3a q3c (g := (mkF m 6 #[.val (.ref d0)] [(.ref d0), (.int len)])) rfl (by rw [hml]; rfl) (Steps.refl _) (argsL := []) (rest := [(.int len)]) (lenOf pd_2829B rfl) rfl (by show 2 * 0 + _ ≤ _; exact Nat.le_of_eq rfl) (hb hby d7_6) (fun _ _ => ⟨rfl, e1, (by decide : 0 + 0 ≤ _), (by decide : 0 + 0 ≤ _)⟩)
  dsimp only [Pt.U, Pt.locs, Pt.cells, Pt.slots] at X3 l3 y3 z3 st3 hQ3
  subst l3 y3 z3
  obtain ⟨rfl, N3q, e3⟩ := hQ3
  have N3 := Fr.app N0 N3q
  refine Wp.go st3 ?_
  show Wp p e below _ (T3.setTop (mkF m 9 #[.val (.ref d0)] [(.int cc), (.int len)]))
  refine Wp.step (fun t k => XS.ishr X3.here hx rfl (hb hby d7_9) rfl k) ?_
  show Wp p e below _ (T3.setTop (mkF m 10 #[.val (.ref d0)] [(.int (len >>> (cc &&& 31)))]))
  refine Wp.retI X3 hx Bd.returns (hb hby d7_10) hlk ?_ (by decide) (by decide)
  show Q7 Z d0 n f cs h0 n0 (some (.int (len >>> (cc &&& 31)))) T3.heap _
  rw [e3]
  exact ⟨(by rw [own_len hn3 henc]), N3, rfl⟩
theorem pd_2829Z : parseMethodDescriptor "()Z" = some ⟨[], some .boolean⟩ := by decide +kernel
theorem d15_0 : decode jdk_42_method_56_code 0 = .ok (.aload_n 0, 1) := by decide +kernel
theorem d15_1 : decode jdk_42_method_56_code 1 = .ok (.invokevirtual 492, 3) := by decide +kernel
theorem d15_4 : decode jdk_42_method_56_code 4 = .ok (.ifCond .eq 12, 3) := by decide +kernel
theorem d15_7 : decode jdk_42_method_56_code 7 = .ok (.aload_n 0, 1) := by decide +kernel
theorem d15_8 : decode jdk_42_method_56_code 8 = .ok (.getfield 9, 3) := by decide +kernel
theorem d15_11 : decode jdk_42_method_56_code 11 = .ok (.iload_n 1, 1) := by decide +kernel
theorem d15_12 : decode jdk_42_method_56_code 12 = .ok (.invokestatic 495, 3) := by decide +kernel
theorem d15_15 : decode jdk_42_method_56_code 15 = .ok (.ireturn, 1) := by decide +kernel
theorem d15_16 : decode jdk_42_method_56_code 16 = .ok (.aload_n 0, 1) := by decide +kernel
theorem d15_17 : decode jdk_42_method_56_code 17 = .ok (.getfield 9, 3) := by decide +kernel
theorem d15_20 : decode jdk_42_method_56_code 20 = .ok (.iload_n 1, 1) := by decide +kernel
theorem d15_21 : decode jdk_42_method_56_code 21 = .ok (.invokestatic 498, 3) := by decide +kernel
theorem d15_24 : decode jdk_42_method_56_code 24 = .ok (.ireturn, 1) := by decide +kernel
theorem ef_15_00 (m : MethodId) (x0 : Addr) (x1 : Int32) : entryFrame m #[(.ref x0), (.int x1)] 2 = mkF m 0 #[.val (.ref x0), .val (.int x1)] [] := by first | (simp [entryFrame, mkF, argsToLocals, Value.category]; done) | rfl
def Q15 (Z : State) (d0 : Addr) (u0 : Int32) (n : Int32) (f : Nat → Int32) (cs : Int32) (fm : Value) (h0 : Heap) (n0 : Nat) (v : Option Value) (h : Heap) (L : List Loc) : Prop := v = some (.int (f u0.toNatClampNeg)) ∧ Fr n0 L ∧ h = h0
set_option maxRecDepth 65536 in
set_option maxHeartbeats 40000000 in
theorem rm15 (l : Launch) (Z : State) (a0 : Array Value) (hw : ∀ d ∈ tables_1, d.before a0 Z = true) (ws : List Jvm.Cond) (d0 : Addr) (u0 : Int32) (n : Int32) (f : Nat → Int32) (cs : Int32) (fm : Value) (h0 : Heap) (n0 : Nat) (Z0 : n0 ≤ h0.size) (S_COMPACT_STRINGS_cs : Sta Z h0 "java/lang/String" "COMPACT_STRINGS" "Z" (.int cs)) (S_SIOOBE_FORMATTER_fm : Sta Z h0 "jdk/internal/util/Preconditions" "SIOOBE_FORMATTER" "Ljava/util/function/BiFunction;" fm) (S_assertionsDisabled_1Int32 : Sta Z h0 "java/lang/StringUTF16" "$assertionsDisabled" "Z" (.int (1 : Int32))) (S_HI_BYTE_SHIFT_0Int32 : Sta Z h0 "java/lang/StringUTF16" "HI_BYTE_SHIFT" "I" (.int (0 : Int32))) (S_LO_BYTE_SHIFT_8Int32 : Sta Z h0 "java/lang/StringUTF16" "LO_BYTE_SHIFT" "I" (.int (8 : Int32))) (hcs : ¬ cs = 0) (hfm : fm = .null ∨ ∃ z, fm = .ref z) (hA : own_S Z h0 d0 n f) (hj : ¬ u0 < 0) (hj2 : u0 < n) (hC : own_isC (f u0.toNatClampNeg)) :
    MetFree l (⟨"java/lang/String", "charAt", "(I)C"⟩ : MethodName) (head1 (Jvm.Cond.code (⟨"java/lang/String", "charAt", "(I)C"⟩ : MethodName) jdk_42_method_56_code 2 (some .char) :: ws) ({ frames := 4, cells := 0, slots := 0, locals := 53 } : Room)) (fun a U => a = #[(.ref d0), (.int u0)] ∧ Z.Warmed39 U.vm ∧ U.heap = h0) (fun _ _ _ _ _ => True) (fun _ U o U' => ∃ v L, o = .returned v ∧ Q15 Z d0 u0 n f cs fm h0 n0 v U'.heap L ∧ FrameEnd U o U' L ({ frames := 4, cells := 0, slots := 0, locals := 53 } : Room).cells ({ frames := 4, cells := 0, slots := 0, locals := 53 } : Room).slots) := by
  refine MetFree.of_bodySF (plainFor_of_name pn_java_lang_String) hisR ?_
  intro p e s m args below meth c s₁ Bd hml0 hP hK
  obtain ⟨rfl, hZ, hh⟩ := hP
  have hx := Bd.exec
  have hby := Bd.bytes
  have hlk : meth.locks = false := Bd.notSynchronized
  have hml : c.maxLocals = 2 := hml0
  have hown : s.vm.findClass "java/lang/String" = some m.cls := findClass_of_methodNamed Bd.named
  have hnm := (name_of_methodNamed Bd.named Bd.method).1
  have X0 : Stand p l e ({ frames := 4, cells := 0, slots := 0, locals := 53 } : Room) s m #[(.ref d0), (.int u0)] below meth c s₁ [] 0 0 := Stand.of_body Bd
  have e0 : s₁.heap = h0 := by rw [← hh, Bd.state]; rfl
  have N0 := Fr.nil n0
  have K0 : Keep h0 h0 [] := Keep.refl h0 _
  show Wp p e below (Out s (Q15 Z d0 u0 n f cs fm h0 n0) ({ frames := 4, cells := 0, slots := 0, locals := 53 } : Room).cells ({ frames := 4, cells := 0, slots := 0, locals := 53 } : Room).slots) (s₁.setTop (entryFrame m #[(.ref d0), (.int u0)] 2))
  rw [ef_15_00]
  obtain ⟨va, cc, len, g, E_d0, F_v, F_c, B_va, hn3, henc⟩ := id hA
  show Wp p e below _ (s₁.setTop (mkF m 0 #[.val (.ref d0), .val (.int u0)] []))
  refine Wp.step (fun t k => XS.aloadN X0.here hx rfl (hb hby d15_0) rfl rfl k) ?_
  show Wp p e below _ (s₁.setTop (mkF m 1 #[.val (.ref d0), .val (.int u0)] [(.ref d0)]))
  obtain ⟨cq1, kq1, q1a, q1b, q1c⟩ := isOf hZ e0 E_d0
  obtain ⟨_, _, ⟨T1, L1, k1, n1⟩, -, X1, ⟨Lc1, hQ1, l1, y1, z1⟩, st1⟩ := X0.virtualBack hx (y := (⟨"java/lang/String", "isLatin1", "()Z"⟩ : MethodName)) (z := (⟨"java/lang/String", "isLatin1", "()Z"⟩ : MethodName)) hown (mvT hZ (hw _ (List.mem_of_getElem? (i := 71) rfl))) (mvT hZ (hw _ (List.mem_of_getElem? (i := 72) rfl))) (notFace_of_selects (args := #[]) (mvT hZ (hw _ (List.mem_of_getElem? (i := 74) rfl)))) (mvT hZ (hw _ (List.mem_of_getElem? (i := 74) rfl))) (mvT hZ (hw _ (List.mem_of_getElem? (i := 73) rfl))) (by decide) (backOf (W := 0) (rm16 l Z a0 hw [] d0 cc cs h0 n0 (Nat.le_trans Z0 K0.1) F_c S_COMPACT_STRINGS_cs hcs) hZ (hw _ (List.mem_of_getElem? (i := 75) rfl)) (hw _ (List.mem_of_getElem? (i := 6) rfl)) (by decide) (by decide)) q1a q1c (g := (mkF m 1 #[.val (.ref d0), .val (.int u0)] [(.ref d0)])) rfl (by rw [hml]; rfl) (Steps.refl _) (argsL := []) (rest := []) (lenOf pd_2829Z rfl) rfl (by show 2 * 0 + _ ≤ _; exact Nat.le_of_eq rfl) (hb hby d15_1) (fun _ _ => ⟨rfl, e0, (by decide : 0 + 0 ≤ _), (by decide : 0 + 0 ≤ _)⟩)
  dsimp only [Pt.U, Pt.locs, Pt.cells, Pt.slots] at X1 l1 y1 z1 st1 hQ1
  subst l1 y1 z1
  obtain ⟨rfl, N1q, e1⟩ := hQ1
  have N1 := Fr.app N0 N1q
  refine Wp.go st1 ?_
  show Wp p e below _ (T1.setTop (mkF m 4 #[.val (.ref d0), .val (.int u0)] [(.int (own_il cc))]))
  by_cases hc2 : (own_il cc) = (0 : Int32)
  · refine Wp.step (fun t k => XS.ifYes X1.here hx rfl (pc0 := 4) (pc' := 16) rfl (hb hby d15_4) rfl ((if0 _ _).trans (teq hc2).1) (by decide) (by decide) k) ?_
    show Wp p e below _ (T1.setTop (mkF m 16 #[.val (.ref d0), .val (.int u0)] []))
    have hpk := own_pickU henc hc2
    have hix := own_u16 hn3 hpk.1 hj hj2
    refine Wp.step (fun t k => XS.aloadN X1.here hx rfl (hb hby d15_16) rfl rfl k) ?_
    show Wp p e below _ (T1.setTop (mkF m 17 #[.val (.ref d0), .val (.int u0)] [(.ref d0)]))
    obtain ⟨T3, X3, e3, st3⟩ := getF X1 hx hZ hown (host := "") (Or.inl (hw _ (List.mem_of_getElem? (i := 24) rfl))) Via.refl e1 F_v (g := (mkF m 17 #[.val (.ref d0), .val (.int u0)] [(.ref d0)])) rfl rfl (hb hby d15_17)
    refine Wp.step st3 ?_
    show Wp p e below _ (T3.setTop (mkF m 20 #[.val (.ref d0), .val (.int u0)] [(.ref va)]))
    refine Wp.step (fun t k => XS.iloadN X3.here hx rfl (hb hby d15_20) rfl k) ?_
    show Wp p e below _ (T3.setTop (mkF m 21 #[.val (.ref d0), .val (.int u0)] [(.int u0), (.ref va)]))
    obtain ⟨_, _, ⟨T4, L4, k4, n4⟩, -, X4, ⟨Lc4, hQ4, l4, y4, z4⟩, st4⟩ := Jvm.LawKit.callS X3 hx (y := (⟨"java/lang/StringUTF16", "charAt", "([BI)C"⟩ : MethodName)) hown (mvT hZ (hw _ (List.mem_of_getElem? (i := 112) rfl))) (mvT hZ (hw _ (List.mem_of_getElem? (i := 113) rfl))) (mvT hZ (hw _ (List.mem_of_getElem? (i := 54) rfl))) (mvT hZ (hw _ (List.mem_of_getElem? (i := 114) rfl))) (by decide) (backOf (W := 0) (rm26 l Z a0 hw [] va u0 len g fm h0 n0 (Nat.le_trans Z0 K0.1) B_va S_SIOOBE_FORMATTER_fm S_assertionsDisabled_1Int32 S_HI_BYTE_SHIFT_0Int32 S_LO_BYTE_SHIFT_8Int32 hj hix.1 hfm hix.2.1 hix.2.2) hZ (hw _ (List.mem_of_getElem? (i := 114) rfl)) (hw _ (List.mem_of_getElem? (i := 54) rfl)) (by decide) (by decide)) (g := (mkF m 21 #[.val (.ref d0), .val (.int u0)] [(.int u0), (.ref va)])) rfl (by rw [hml]; rfl) (argsL := [(.ref va), (.int u0)]) (rest := []) (lenOf pd_285bBI29C rfl) rfl (by show 2 * 0 + _ ≤ _; exact Nat.le_of_eq rfl) (hb hby d15_21) (fun _ _ => ⟨rfl, e3, (by decide : 0 + 0 ≤ _), (by decide : 0 + 0 ≤ _)⟩)
    dsimp only [Pt.U, Pt.locs, Pt.cells, Pt.slots] at X4 l4 y4 z4 st4 hQ4
    subst l4 y4 z4
    obtain ⟨rfl, N4q, e4⟩ := hQ4
    have N4 := Fr.app N1 N4q
    refine Wp.step st4 ?_
    show Wp p e below _ (T4.setTop (mkF m 24 #[.val (.ref d0), .val (.int u0)] [(.int (own_gc g u0))]))
    refine Wp.retN X4 hx (t := .char) Bd.returns (by simp) (hb hby d15_24) hlk ?_ (by decide) (by decide)
    show Q15 Z d0 u0 n f cs fm h0 n0 (some (.int (nar .char (own_gc g u0)))) T4.heap _
    rw [e4]
    exact ⟨(by rw [hpk.2 u0 hj hj2, own_nar_isC hC]), N4, rfl⟩
  · refine Wp.step (fun t k => XS.ifNo X1.here hx rfl (hb hby d15_4) rfl ((if0 _ _).trans (feq hc2).1) k) ?_
    show Wp p e below _ (T1.setTop (mkF m 7 #[.val (.ref d0), .val (.int u0)] []))
    have hpk := own_pickL henc hc2
    have hix : u0 < len := by rw [hpk.1]; exact hj2
    refine Wp.step (fun t k => XS.aloadN X1.here hx rfl (hb hby d15_7) rfl rfl k) ?_
    show Wp p e below _ (T1.setTop (mkF m 8 #[.val (.ref d0), .val (.int u0)] [(.ref d0)]))
    obtain ⟨T5, X5, e5, st5⟩ := getF X1 hx hZ hown (host := "") (Or.inl (hw _ (List.mem_of_getElem? (i := 24) rfl))) Via.refl e1 F_v (g := (mkF m 8 #[.val (.ref d0), .val (.int u0)] [(.ref d0)])) rfl rfl (hb hby d15_8)
    refine Wp.step st5 ?_
    show Wp p e below _ (T5.setTop (mkF m 11 #[.val (.ref d0), .val (.int u0)] [(.ref va)]))
    refine Wp.step (fun t k => XS.iloadN X5.here hx rfl (hb hby d15_11) rfl k) ?_
    show Wp p e below _ (T5.setTop (mkF m 12 #[.val (.ref d0), .val (.int u0)] [(.int u0), (.ref va)]))
    obtain ⟨_, _, ⟨T6, L6, k6, n6⟩, -, X6, ⟨Lc6, hQ6, l6, y6, z6⟩, st6⟩ := Jvm.LawKit.callS X5 hx (y := (⟨"java/lang/StringLatin1", "charAt", "([BI)C"⟩ : MethodName)) hown (mvT hZ (hw _ (List.mem_of_getElem? (i := 76) rfl))) (mvT hZ (hw _ (List.mem_of_getElem? (i := 77) rfl))) (mvT hZ (hw _ (List.mem_of_getElem? (i := 78) rfl))) (mvT hZ (hw _ (List.mem_of_getElem? (i := 79) rfl))) (by decide) (backOf (W := 0) (rm17 l Z a0 hw [] va u0 len g fm h0 n0 (Nat.le_trans Z0 K0.1) B_va S_SIOOBE_FORMATTER_fm hj hix hfm) hZ (hw _ (List.mem_of_getElem? (i := 79) rfl)) (hw _ (List.mem_of_getElem? (i := 78) rfl)) (by decide) (by decide)) (g := (mkF m 12 #[.val (.ref d0), .val (.int u0)] [(.int u0), (.ref va)])) rfl (by rw [hml]; rfl) (argsL := [(.ref va), (.int u0)]) (rest := []) (lenOf pd_285bBI29C rfl) rfl (by show 2 * 0 + _ ≤ _; exact Nat.le_of_eq rfl) (hb hby d15_12) (fun _ _ => ⟨rfl, e5, (by decide : 0 + 0 ≤ _), (by decide : 0 + 0 ≤ _)⟩)
    dsimp only [Pt.U, Pt.locs, Pt.cells, Pt.slots] at X6 l6 y6 z6 st6 hQ6
    subst l6 y6 z6
    obtain ⟨rfl, N6q, e6⟩ := hQ6
    have N6 := Fr.app N1 N6q
    refine Wp.step st6 ?_
    show Wp p e below _ (T6.setTop (mkF m 15 #[.val (.ref d0), .val (.int u0)] [(.int (own_lc g u0))]))
    refine Wp.retN X6 hx (t := .char) Bd.returns (by simp) (hb hby d15_15) hlk ?_ (by decide) (by decide)
    show Q15 Z d0 u0 n f cs fm h0 n0 (some (.int (nar .char (own_lc g u0)))) T6.heap _
    rw [e6]
    exact ⟨(by rw [hpk.2 u0 hj hj2, own_nar_isC hC]), N6, rfl⟩
theorem d24_0 : decode jdk_52_method_4_code 0 = .ok (.getstatic 44, 3) := by decide +kernel
theorem d24_3 : decode jdk_52_method_4_code 3 = .ok (.ifCond .ne 25, 3) := by decide +kernel
theorem d24_28 : decode jdk_52_method_4_code 28 = .ok (.iload_n 1, 1) := by decide +kernel
theorem d24_29 : decode jdk_52_method_4_code 29 = .ok (.iconst 1, 1) := by decide +kernel
theorem d24_30 : decode jdk_52_method_4_code 30 = .ok (.ishl, 1) := by decide +kernel
theorem d24_31 : decode jdk_52_method_4_code 31 = .ok (.istore_n 1, 1) := by decide +kernel
theorem d24_32 : decode jdk_52_method_4_code 32 = .ok (.aload_n 0, 1) := by decide +kernel
theorem d24_33 : decode jdk_52_method_4_code 33 = .ok (.iload_n 1, 1) := by decide +kernel
theorem d24_34 : decode jdk_52_method_4_code 34 = .ok (.iinc 1 1, 3) := by decide +kernel
theorem d24_37 : decode jdk_52_method_4_code 37 = .ok (.iload_n 2, 1) := by decide +kernel
theorem d24_38 : decode jdk_52_method_4_code 38 = .ok (.getstatic 59, 3) := by decide +kernel
theorem d24_41 : decode jdk_52_method_4_code 41 = .ok (.ishr, 1) := by decide +kernel
theorem d24_42 : decode jdk_52_method_4_code 42 = .ok (.i2b, 1) := by decide +kernel
theorem d24_43 : decode jdk_52_method_4_code 43 = .ok (.bastore, 1) := by decide +kernel
theorem d24_44 : decode jdk_52_method_4_code 44 = .ok (.aload_n 0, 1) := by decide +kernel
theorem d24_45 : decode jdk_52_method_4_code 45 = .ok (.iload_n 1, 1) := by decide +kernel
theorem d24_46 : decode jdk_52_method_4_code 46 = .ok (.iload_n 2, 1) := by decide +kernel
theorem d24_47 : decode jdk_52_method_4_code 47 = .ok (.getstatic 63, 3) := by decide +kernel
theorem d24_50 : decode jdk_52_method_4_code 50 = .ok (.ishr, 1) := by decide +kernel
theorem d24_51 : decode jdk_52_method_4_code 51 = .ok (.i2b, 1) := by decide +kernel
theorem d24_52 : decode jdk_52_method_4_code 52 = .ok (.bastore, 1) := by decide +kernel
theorem d24_53 : decode jdk_52_method_4_code 53 = .ok (.return_, 1) := by decide +kernel
theorem ef_24_000 (m : MethodId) (x0 : Addr) (x1 : Int32) (x2 : Int32) : entryFrame m #[(.ref x0), (.int x1), (.int x2)] 3 = mkF m 0 #[.val (.ref x0), .val (.int x1), .val (.int x2)] [] := by first | (simp [entryFrame, mkF, argsToLocals, Value.category]; done) | rfl
def Q24 (Z : State) (d0 : Addr) (u0 : Int32) (u1 : Int32) (len : Int32) (g : Nat → Int32) (h0 : Heap) (n0 : Nat) (v : Option Value) (h : Heap) (L : List Loc) : Prop := v = none ∧ Fr n0 L ∧ Keep h0 h [d0] ∧ own_IA .byte Z h d0 len (own_pc g u0 u1)
set_option maxRecDepth 65536 in
set_option maxHeartbeats 40000000 in
theorem rm24 (l : Launch) (Z : State) (a0 : Array Value) (hw : ∀ d ∈ tables_1, d.before a0 Z = true) (ws : List Jvm.Cond) (d0 : Addr) (u0 : Int32) (u1 : Int32) (len : Int32) (g : Nat → Int32) (h0 : Heap) (n0 : Nat) (Z0 : n0 ≤ h0.size) (g_d0 : n0 ≤ d0) (B_d0 : own_IA .byte Z h0 d0 len g) (S_assertionsDisabled_1Int32 : Sta Z h0 "java/lang/StringUTF16" "$assertionsDisabled" "Z" (.int (1 : Int32))) (S_HI_BYTE_SHIFT_0Int32 : Sta Z h0 "java/lang/StringUTF16" "HI_BYTE_SHIFT" "I" (.int (0 : Int32))) (S_LO_BYTE_SHIFT_8Int32 : Sta Z h0 "java/lang/StringUTF16" "LO_BYTE_SHIFT" "I" (.int (8 : Int32))) (i0 : ¬ (u0 <<< ((1 : Int32) &&& 31)) < 0 ∧ (u0 <<< ((1 : Int32) &&& 31)) < len) (i1 : ¬ ((u0 <<< ((1 : Int32) &&& 31)) + (1 : Int32)) < 0 ∧ ((u0 <<< ((1 : Int32) &&& 31)) + (1 : Int32)) < len) :
    MetFree l (⟨"java/lang/StringUTF16", "putChar", "([BII)V"⟩ : MethodName) (head1 (Jvm.Cond.code (⟨"java/lang/StringUTF16", "putChar", "([BII)V"⟩ : MethodName) jdk_52_method_4_code 3 none :: ws) ({ frames := 0, cells := 0, slots := 0, locals := 0 } : Room)) (fun a U => a = #[(.ref d0), (.int u0), (.int u1)] ∧ Z.Warmed39 U.vm ∧ U.heap = h0) (fun _ _ _ _ _ => True) (fun _ U o U' => ∃ v L, o = .returned v ∧ Q24 Z d0 u0 u1 len g h0 n0 v U'.heap L ∧ FrameEnd U o U' L ({ frames := 0, cells := 0, slots := 0, locals := 0 } : Room).cells ({ frames := 0, cells := 0, slots := 0, locals := 0 } : Room).slots) := by
  refine MetFree.of_bodySF (plainFor_of_name pn_java_lang_StringUTF16) hisR ?_
  intro p e s m args below meth c s₁ Bd hml0 hP hK
  obtain ⟨rfl, hZ, hh⟩ := hP
  have hx := Bd.exec
  have hby := Bd.bytes
  have hlk : meth.locks = false := Bd.notSynchronized
  have hml : c.maxLocals = 3 := hml0
  have hown : s.vm.findClass "java/lang/StringUTF16" = some m.cls := findClass_of_methodNamed Bd.named
  have hnm := (name_of_methodNamed Bd.named Bd.method).1
  have X0 : Stand p l e ({ frames := 0, cells := 0, slots := 0, locals := 0 } : Room) s m #[(.ref d0), (.int u0), (.int u1)] below meth c s₁ [] 0 0 := Stand.of_body Bd
  have e0 : s₁.heap = h0 := by rw [← hh, Bd.state]; rfl
  have N0 := Fr.nil n0
  have K0 : Keep h0 h0 [d0] := Keep.refl h0 _
  show Wp p e below (Out s (Q24 Z d0 u0 u1 len g h0 n0) ({ frames := 0, cells := 0, slots := 0, locals := 0 } : Room).cells ({ frames := 0, cells := 0, slots := 0, locals := 0 } : Room).slots) (s₁.setTop (entryFrame m #[(.ref d0), (.int u0), (.int u1)] 3))
  rw [ef_24_000]
  show Wp p e below _ (s₁.setTop (mkF m 0 #[.val (.ref d0), .val (.int u0), .val (.int u1)] []))
  obtain ⟨T1, X1, e1, st1⟩ := getS2 X0 hx hZ hown (host := "") (Or.inl (hw _ (List.mem_of_getElem? (i := 106) rfl))) Via.refl e0 S_assertionsDisabled_1Int32 (g := (mkF m 0 #[.val (.ref d0), .val (.int u0), .val (.int u1)] [])) rfl (hb hby d24_0)
  refine Wp.step st1 ?_
  show Wp p e below _ (T1.setTop (mkF m 3 #[.val (.ref d0), .val (.int u0), .val (.int u1)] [(.int (1 : Int32))]))
  refine Wp.step (fun t k => XS.ifYes X1.here hx rfl (pc0 := 3) (pc' := 28) rfl (hb hby d24_3) rfl ((if0 _ _).trans (feq (show ¬ ((1 : Int32) = (0 : Int32)) by decide)).2) (by decide) (by decide) k) ?_
  show Wp p e below _ (T1.setTop (mkF m 28 #[.val (.ref d0), .val (.int u0), .val (.int u1)] []))
  refine Wp.step (fun t k => XS.iloadN X1.here hx rfl (hb hby d24_28) rfl k) ?_
  show Wp p e below _ (T1.setTop (mkF m 29 #[.val (.ref d0), .val (.int u0), .val (.int u1)] [(.int u0)]))
  refine Wp.step (fun t k => XS.iconst X1.here hx rfl (hb hby d24_29) k) ?_
  show Wp p e below _ (T1.setTop (mkF m 30 #[.val (.ref d0), .val (.int u0), .val (.int u1)] [(.int (1 : Int32)), (.int u0)]))
  refine Wp.step (fun t k => XS.ishl X1.here hx rfl (hb hby d24_30) rfl k) ?_
  show Wp p e below _ (T1.setTop (mkF m 31 #[.val (.ref d0), .val (.int u0), .val (.int u1)] [(.int (u0 <<< ((1 : Int32) &&& 31)))]))
  refine Wp.step (fun t k => XS.istoreN X1.here hx rfl (hb hby d24_31) rfl (l' := #[.val (.ref d0), .val (.int (u0 <<< ((1 : Int32) &&& 31))), .val (.int u1)]) rfl k) ?_
  show Wp p e below _ (T1.setTop (mkF m 32 #[.val (.ref d0), .val (.int (u0 <<< ((1 : Int32) &&& 31))), .val (.int u1)] []))
  refine Wp.step (fun t k => XS.aloadN X1.here hx rfl (hb hby d24_32) rfl rfl k) ?_
  show Wp p e below _ (T1.setTop (mkF m 33 #[.val (.ref d0), .val (.int (u0 <<< ((1 : Int32) &&& 31))), .val (.int u1)] [(.ref d0)]))
  refine Wp.step (fun t k => XS.iloadN X1.here hx rfl (hb hby d24_33) rfl k) ?_
  show Wp p e below _ (T1.setTop (mkF m 34 #[.val (.ref d0), .val (.int (u0 <<< ((1 : Int32) &&& 31))), .val (.int u1)] [(.int (u0 <<< ((1 : Int32) &&& 31))), (.ref d0)]))
  refine Wp.step (fun t k => XS.iinc X1.here hx rfl (hb hby d24_34) rfl (l' := #[.val (.ref d0), .val (.int ((u0 <<< ((1 : Int32) &&& 31)) + (1 : Int32))), .val (.int u1)]) rfl k) ?_
  show Wp p e below _ (T1.setTop (mkF m 37 #[.val (.ref d0), .val (.int ((u0 <<< ((1 : Int32) &&& 31)) + (1 : Int32))), .val (.int u1)] [(.int (u0 <<< ((1 : Int32) &&& 31))), (.ref d0)]))
  refine Wp.step (fun t k => XS.iloadN X1.here hx rfl (hb hby d24_37) rfl k) ?_
  show Wp p e below _ (T1.setTop (mkF m 38 #[.val (.ref d0), .val (.int ((u0 <<< ((1 : Int32) &&& 31)) + (1 : Int32))), .val (.int u1)] [(.int u1), (.int (u0 <<< ((1 : Int32) &&& 31))), (.ref d0)]))
  obtain ⟨T3, X3, e3, st3⟩ := getS2 X1 hx hZ hown (host := "") (Or.inl (hw _ (List.mem_of_getElem? (i := 107) rfl))) Via.refl e1 S_HI_BYTE_SHIFT_0Int32 (g := (mkF m 38 #[.val (.ref d0), .val (.int ((u0 <<< ((1 : Int32) &&& 31)) + (1 : Int32))), .val (.int u1)] [(.int u1), (.int (u0 <<< ((1 : Int32) &&& 31))), (.ref d0)])) rfl (hb hby d24_38)
  refine Wp.step st3 ?_
  show Wp p e below _ (T3.setTop (mkF m 41 #[.val (.ref d0), .val (.int ((u0 <<< ((1 : Int32) &&& 31)) + (1 : Int32))), .val (.int u1)] [(.int (0 : Int32)), (.int u1), (.int (u0 <<< ((1 : Int32) &&& 31))), (.ref d0)]))
  refine Wp.step (fun t k => XS.ishr X3.here hx rfl (hb hby d24_41) rfl k) ?_
  show Wp p e below _ (T3.setTop (mkF m 42 #[.val (.ref d0), .val (.int ((u0 <<< ((1 : Int32) &&& 31)) + (1 : Int32))), .val (.int u1)] [(.int (u1 >>> ((0 : Int32) &&& 31))), (.int (u0 <<< ((1 : Int32) &&& 31))), (.ref d0)]))
  refine Wp.step (fun t k => XS.i2b X3.here hx rfl (hb hby d24_42) rfl k) ?_
  show Wp p e below _ (T3.setTop (mkF m 43 #[.val (.ref d0), .val (.int ((u0 <<< ((1 : Int32) &&& 31)) + (1 : Int32))), .val (.int u1)] [(.int ((u1 >>> ((0 : Int32) &&& 31)).toInt8.toInt32)), (.int (u0 <<< ((1 : Int32) &&& 31))), (.ref d0)]))
  obtain ⟨cl4, Ar4, Sz4, Nn4, El4⟩ := id B_d0
  have hin4 : ¬ ((u0 <<< ((1 : Int32) &&& 31)) < 0 ∨ cl4.slots.size ≤ ((u0 <<< ((1 : Int32) &&& 31))).toNatClampNeg) := inb_of Sz4 i0
  obtain ⟨T4, h4, X4, e4, W4, st4⟩ := stB X3 hx hZ e3 Ar4 (j := (u0 <<< ((1 : Int32) &&& 31))) hin4 (g := (mkF m 43 #[.val (.ref d0), .val (.int ((u0 <<< ((1 : Int32) &&& 31)) + (1 : Int32))), .val (.int u1)] [(.int ((u1 >>> ((0 : Int32) &&& 31)).toInt8.toInt32)), (.int (u0 <<< ((1 : Int32) &&& 31))), (.ref d0)])) rfl rfl (hb hby d24_43)
  have c5 := S_assertionsDisabled_1Int32.wr W4
  have c6 := S_HI_BYTE_SHIFT_0Int32.wr W4
  have c7 := S_LO_BYTE_SHIFT_8Int32.wr W4
  have K8 := K0.wr W4 (Or.inl (List.mem_of_getElem? (i := 0) rfl))
  have N4 := Fr.snoc X4 N0 g_d0
  have B4 := own_IA.set Ar4 Sz4 Nn4 El4 W4 (fits_nar_byte _)
  rw [own_narb] at B4
  refine Wp.step st4 ?_
  show Wp p e below _ (T4.setTop (mkF m 44 #[.val (.ref d0), .val (.int ((u0 <<< ((1 : Int32) &&& 31)) + (1 : Int32))), .val (.int u1)] []))
  refine Wp.step (fun t k => XS.aloadN X4.here hx rfl (hb hby d24_44) rfl rfl k) ?_
  show Wp p e below _ (T4.setTop (mkF m 45 #[.val (.ref d0), .val (.int ((u0 <<< ((1 : Int32) &&& 31)) + (1 : Int32))), .val (.int u1)] [(.ref d0)]))
  refine Wp.step (fun t k => XS.iloadN X4.here hx rfl (hb hby d24_45) rfl k) ?_
  show Wp p e below _ (T4.setTop (mkF m 46 #[.val (.ref d0), .val (.int ((u0 <<< ((1 : Int32) &&& 31)) + (1 : Int32))), .val (.int u1)] [(.int ((u0 <<< ((1 : Int32) &&& 31)) + (1 : Int32))), (.ref d0)]))
  refine Wp.step (fun t k => XS.iloadN X4.here hx rfl (hb hby d24_46) rfl k) ?_
  show Wp p e below _ (T4.setTop (mkF m 47 #[.val (.ref d0), .val (.int ((u0 <<< ((1 : Int32) &&& 31)) + (1 : Int32))), .val (.int u1)] [(.int u1), (.int ((u0 <<< ((1 : Int32) &&& 31)) + (1 : Int32))), (.ref d0)]))
  obtain ⟨T9, X9, e9, st9⟩ := getS2 X4 hx hZ hown (host := "") (Or.inl (hw _ (List.mem_of_getElem? (i := 108) rfl))) Via.refl e4 c7 (g := (mkF m 47 #[.val (.ref d0), .val (.int ((u0 <<< ((1 : Int32) &&& 31)) + (1 : Int32))), .val (.int u1)] [(.int u1), (.int ((u0 <<< ((1 : Int32) &&& 31)) + (1 : Int32))), (.ref d0)])) rfl (hb hby d24_47)
  refine Wp.step st9 ?_
  show Wp p e below _ (T9.setTop (mkF m 50 #[.val (.ref d0), .val (.int ((u0 <<< ((1 : Int32) &&& 31)) + (1 : Int32))), .val (.int u1)] [(.int (8 : Int32)), (.int u1), (.int ((u0 <<< ((1 : Int32) &&& 31)) + (1 : Int32))), (.ref d0)]))
  refine Wp.step (fun t k => XS.ishr X9.here hx rfl (hb hby d24_50) rfl k) ?_
  show Wp p e below _ (T9.setTop (mkF m 51 #[.val (.ref d0), .val (.int ((u0 <<< ((1 : Int32) &&& 31)) + (1 : Int32))), .val (.int u1)] [(.int (u1 >>> ((8 : Int32) &&& 31))), (.int ((u0 <<< ((1 : Int32) &&& 31)) + (1 : Int32))), (.ref d0)]))
  refine Wp.step (fun t k => XS.i2b X9.here hx rfl (hb hby d24_51) rfl k) ?_
  show Wp p e below _ (T9.setTop (mkF m 52 #[.val (.ref d0), .val (.int ((u0 <<< ((1 : Int32) &&& 31)) + (1 : Int32))), .val (.int u1)] [(.int ((u1 >>> ((8 : Int32) &&& 31)).toInt8.toInt32)), (.int ((u0 <<< ((1 : Int32) &&& 31)) + (1 : Int32))), (.ref d0)]))
  obtain ⟨cl10, Ar10, Sz10, Nn10, El10⟩ := id B4
  have hin10 : ¬ (((u0 <<< ((1 : Int32) &&& 31)) + (1 : Int32)) < 0 ∨ cl10.slots.size ≤ (((u0 <<< ((1 : Int32) &&& 31)) + (1 : Int32))).toNatClampNeg) := inb_of Sz10 i1
  obtain ⟨T10, h10, X10, e10, W10, st10⟩ := stB X9 hx hZ e9 Ar10 (j := ((u0 <<< ((1 : Int32) &&& 31)) + (1 : Int32))) hin10 (g := (mkF m 52 #[.val (.ref d0), .val (.int ((u0 <<< ((1 : Int32) &&& 31)) + (1 : Int32))), .val (.int u1)] [(.int ((u1 >>> ((8 : Int32) &&& 31)).toInt8.toInt32)), (.int ((u0 <<< ((1 : Int32) &&& 31)) + (1 : Int32))), (.ref d0)])) rfl rfl (hb hby d24_52)
  have c11 := c5.wr W10
  have c12 := c6.wr W10
  have c13 := c7.wr W10
  have K14 := K8.wr W10 (Or.inl (List.mem_of_getElem? (i := 0) rfl))
  have N10 := Fr.snoc X10 N4 g_d0
  have B10 := own_IA.set Ar10 Sz10 Nn10 El10 W10 (fits_nar_byte _)
  rw [own_narb] at B10
  refine Wp.step st10 ?_
  show Wp p e below _ (T10.setTop (mkF m 53 #[.val (.ref d0), .val (.int ((u0 <<< ((1 : Int32) &&& 31)) + (1 : Int32))), .val (.int u1)] []))
  refine Wp.retV X10 hx Bd.returns (hb hby d24_53) hlk ?_ (by decide) (by decide)
  show Q24 Z d0 u0 u1 len g h0 n0 none T10.heap _
  rw [e10]
  exact ⟨rfl, N10, K14, B10⟩
theorem d23_0 : decode jdk_52_method_3_code 0 = .ok (.iload_n 0, 1) := by decide +kernel
theorem d23_1 : decode jdk_52_method_3_code 1 = .ok (.ifCond .ge 11, 3) := by decide +kernel
theorem d23_12 : decode jdk_52_method_3_code 12 = .ok (.iload_n 0, 1) := by decide +kernel
theorem d23_13 : decode jdk_52_method_3_code 13 = .ok (.ldc 20, 2) := by decide +kernel
theorem d23_15 : decode jdk_52_method_3_code 15 = .ok (.if_icmp .lt 40, 3) := by decide +kernel
theorem d23_55 : decode jdk_52_method_3_code 55 = .ok (.iload_n 0, 1) := by decide +kernel
theorem d23_56 : decode jdk_52_method_3_code 56 = .ok (.iconst 1, 1) := by decide +kernel
theorem d23_57 : decode jdk_52_method_3_code 57 = .ok (.ishl, 1) := by decide +kernel
theorem d23_58 : decode jdk_52_method_3_code 58 = .ok (.ireturn, 1) := by decide +kernel
theorem ef_23_0 (m : MethodId) (x0 : Int32) : entryFrame m #[(.int x0)] 1 = mkF m 0 #[.val (.int x0)] [] := by first | (simp [entryFrame, mkF, argsToLocals, Value.category]; done) | rfl
def Q23 (Z : State) (u0 : Int32) (h0 : Heap) (n0 : Nat) (v : Option Value) (h : Heap) (L : List Loc) : Prop := v = some (.int (u0 <<< ((1 : Int32) &&& 31))) ∧ Fr n0 L ∧ h = h0
set_option maxRecDepth 65536 in
set_option maxHeartbeats 40000000 in
theorem rm23 (l : Launch) (Z : State) (a0 : Array Value) (hw : ∀ d ∈ tables_1, d.before a0 Z = true) (ws : List Jvm.Cond) (u0 : Int32) (h0 : Heap) (n0 : Nat) (Z0 : n0 ≤ h0.size) (h1 : ¬ u0 < 0) (h2 : u0 < 1073741823) :
    MetFree l (⟨"java/lang/StringUTF16", "newBytesLength", "(I)I"⟩ : MethodName) (head1 (Jvm.Cond.code (⟨"java/lang/StringUTF16", "newBytesLength", "(I)I"⟩ : MethodName) jdk_52_method_3_code 1 (some .int) :: ws) ({ frames := 0, cells := 0, slots := 0, locals := 0 } : Room)) (fun a U => a = #[(.int u0)] ∧ Z.Warmed39 U.vm ∧ U.heap = h0) (fun _ _ _ _ _ => True) (fun _ U o U' => ∃ v L, o = .returned v ∧ Q23 Z u0 h0 n0 v U'.heap L ∧ FrameEnd U o U' L ({ frames := 0, cells := 0, slots := 0, locals := 0 } : Room).cells ({ frames := 0, cells := 0, slots := 0, locals := 0 } : Room).slots) := by
  refine MetFree.of_bodySF (plainFor_of_name pn_java_lang_StringUTF16) hisR ?_
  intro p e s m args below meth c s₁ Bd hml0 hP hK
  obtain ⟨rfl, hZ, hh⟩ := hP
  have hx := Bd.exec
  have hby := Bd.bytes
  have hlk : meth.locks = false := Bd.notSynchronized
  have hml : c.maxLocals = 1 := hml0
  have hown : s.vm.findClass "java/lang/StringUTF16" = some m.cls := findClass_of_methodNamed Bd.named
  have hnm := (name_of_methodNamed Bd.named Bd.method).1
  have X0 : Stand p l e ({ frames := 0, cells := 0, slots := 0, locals := 0 } : Room) s m #[(.int u0)] below meth c s₁ [] 0 0 := Stand.of_body Bd
  have e0 : s₁.heap = h0 := by rw [← hh, Bd.state]; rfl
  have N0 := Fr.nil n0
  have K0 : Keep h0 h0 [] := Keep.refl h0 _
  show Wp p e below (Out s (Q23 Z u0 h0 n0) ({ frames := 0, cells := 0, slots := 0, locals := 0 } : Room).cells ({ frames := 0, cells := 0, slots := 0, locals := 0 } : Room).slots) (s₁.setTop (entryFrame m #[(.int u0)] 1))
  rw [ef_23_0]
  show Wp p e below _ (s₁.setTop (mkF m 0 #[.val (.int u0)] []))
  refine Wp.step (fun t k => XS.iloadN X0.here hx rfl (hb hby d23_0) rfl k) ?_
  show Wp p e below _ (s₁.setTop (mkF m 1 #[.val (.int u0)] [(.int u0)]))
  refine Wp.step (fun t k => XS.ifYes X0.here hx rfl (pc0 := 1) (pc' := 12) rfl (hb hby d23_1) rfl ((if0 _ _).trans (flt (show ¬ (u0 < (0 : Int32)) from h1)).2.1) (by decide) (by decide) k) ?_
  show Wp p e below _ (s₁.setTop (mkF m 12 #[.val (.int u0)] []))
  refine Wp.step (fun t k => XS.iloadN X0.here hx rfl (hb hby d23_12) rfl k) ?_
  show Wp p e below _ (s₁.setTop (mkF m 13 #[.val (.int u0)] [(.int u0)]))
  refine Wp.step (X0.ldcInt hx hown (mvT hZ (hw _ (List.mem_of_getElem? (i := 102) rfl))) (g := (mkF m 13 #[.val (.int u0)] [(.int u0)])) rfl (hb hby d23_13)) ?_
  show Wp p e below _ (s₁.setTop (mkF m 15 #[.val (.int u0)] [(.int (1073741823 : Int32)), (.int u0)]))
  refine Wp.step (fun t k => XS.icmpYes X0.here hx rfl (pc0 := 15) (pc' := 55) rfl (hb hby d23_15) rfl (tlt (show u0 < (1073741823 : Int32) from h2)).1 (by decide) (by decide) k) ?_
  show Wp p e below _ (s₁.setTop (mkF m 55 #[.val (.int u0)] []))
  refine Wp.step (fun t k => XS.iloadN X0.here hx rfl (hb hby d23_55) rfl k) ?_
  show Wp p e below _ (s₁.setTop (mkF m 56 #[.val (.int u0)] [(.int u0)]))
  refine Wp.step (fun t k => XS.iconst X0.here hx rfl (hb hby d23_56) k) ?_
  show Wp p e below _ (s₁.setTop (mkF m 57 #[.val (.int u0)] [(.int (1 : Int32)), (.int u0)]))
  refine Wp.step (fun t k => XS.ishl X0.here hx rfl (hb hby d23_57) rfl k) ?_
  show Wp p e below _ (s₁.setTop (mkF m 58 #[.val (.int u0)] [(.int (u0 <<< ((1 : Int32) &&& 31)))]))
  refine Wp.retI X0 hx Bd.returns (hb hby d23_58) hlk ?_ (by decide) (by decide)
  show Q23 Z u0 h0 n0 (some (.int (u0 <<< ((1 : Int32) &&& 31)))) s₁.heap _
  rw [e0]
  exact ⟨rfl, N0, rfl⟩
theorem pd_28I29I : parseMethodDescriptor "(I)I" = some ⟨[.int], some .int⟩ := by decide +kernel
theorem d22_0 : decode jdk_52_method_2_code 0 = .ok (.iload_n 0, 1) := by decide +kernel
theorem d22_1 : decode jdk_52_method_2_code 1 = .ok (.invokestatic 11, 3) := by decide +kernel
theorem d22_4 : decode jdk_52_method_2_code 4 = .ok (.newarray .byte, 2) := by decide +kernel
theorem d22_6 : decode jdk_52_method_2_code 6 = .ok (.areturn, 1) := by decide +kernel
theorem ef_22_0 (m : MethodId) (x0 : Int32) : entryFrame m #[(.int x0)] 1 = mkF m 0 #[.val (.int x0)] [] := by first | (simp [entryFrame, mkF, argsToLocals, Value.category]; done) | rfl
def Q22 (Z : State) (u0 : Int32) (h0 : Heap) (n0 : Nat) (v : Option Value) (h : Heap) (L : List Loc) : Prop := ∃ (r0 : Addr), v = some (.ref r0) ∧ Fr n0 L ∧ Keep h0 h [] ∧ h0.size ≤ r0 ∧ own_IA .byte Z h r0 (u0 <<< ((1 : Int32) &&& 31)) (fun _ => (0 : Int32))
set_option maxRecDepth 65536 in
set_option maxHeartbeats 40000000 in
theorem rm22 (l : Launch) (Z : State) (a0 : Array Value) (hw : ∀ d ∈ tables_1, d.before a0 Z = true) (ws : List Jvm.Cond) (u0 : Int32) (h0 : Heap) (n0 : Nat) (Z0 : n0 ≤ h0.size) (h1 : ¬ u0 < 0) (h2 : u0 < 1073741823) (h3 : ¬ (u0 <<< ((1 : Int32) &&& 31)) < 0) (h4 : (u0 <<< ((1 : Int32) &&& 31)).toNatClampNeg ≤ 4) :
    MetFree l (⟨"java/lang/StringUTF16", "newBytesFor", "(I)[B"⟩ : MethodName) (head1 (Jvm.Cond.code (⟨"java/lang/StringUTF16", "newBytesFor", "(I)[B"⟩ : MethodName) jdk_52_method_2_code 1 (some (.array .byte)) :: ws) ({ frames := 1, cells := 1, slots := 4, locals := 12 } : Room)) (fun a U => a = #[(.int u0)] ∧ Z.Warmed39 U.vm ∧ U.heap = h0) (fun _ _ _ _ _ => True) (fun _ U o U' => ∃ v L, o = .returned v ∧ Q22 Z u0 h0 n0 v U'.heap L ∧ FrameEnd U o U' L ({ frames := 1, cells := 1, slots := 4, locals := 12 } : Room).cells ({ frames := 1, cells := 1, slots := 4, locals := 12 } : Room).slots) := by
  refine MetFree.of_bodySF (plainFor_of_name pn_java_lang_StringUTF16) hisR ?_
  intro p e s m args below meth c s₁ Bd hml0 hP hK
  obtain ⟨rfl, hZ, hh⟩ := hP
  have hx := Bd.exec
  have hby := Bd.bytes
  have hlk : meth.locks = false := Bd.notSynchronized
  have hml : c.maxLocals = 1 := hml0
  have hown : s.vm.findClass "java/lang/StringUTF16" = some m.cls := findClass_of_methodNamed Bd.named
  have hnm := (name_of_methodNamed Bd.named Bd.method).1
  have X0 : Stand p l e ({ frames := 1, cells := 1, slots := 4, locals := 12 } : Room) s m #[(.int u0)] below meth c s₁ [] 0 0 := Stand.of_body Bd
  have e0 : s₁.heap = h0 := by rw [← hh, Bd.state]; rfl
  have N0 := Fr.nil n0
  have K0 : Keep h0 h0 [] := Keep.refl h0 _
  show Wp p e below (Out s (Q22 Z u0 h0 n0) ({ frames := 1, cells := 1, slots := 4, locals := 12 } : Room).cells ({ frames := 1, cells := 1, slots := 4, locals := 12 } : Room).slots) (s₁.setTop (entryFrame m #[(.int u0)] 1))
  rw [ef_22_0]
  show Wp p e below _ (s₁.setTop (mkF m 0 #[.val (.int u0)] []))
  refine Wp.step (fun t k => XS.iloadN X0.here hx rfl (hb hby d22_0) rfl k) ?_
  show Wp p e below _ (s₁.setTop (mkF m 1 #[.val (.int u0)] [(.int u0)]))
  obtain ⟨_, _, ⟨T1, L1, k1, n1⟩, -, X1, ⟨Lc1, hQ1, l1, y1, z1⟩, st1⟩ := Jvm.LawKit.callS X0 hx (y := (⟨"java/lang/StringUTF16", "newBytesLength", "(I)I"⟩ : MethodName)) hown (mvT hZ (hw _ (List.mem_of_getElem? (i := 99) rfl))) (mvT hZ (hw _ (List.mem_of_getElem? (i := 100) rfl))) (mvT hZ (hw _ (List.mem_of_getElem? (i := 54) rfl))) (mvT hZ (hw _ (List.mem_of_getElem? (i := 101) rfl))) (by decide) (backOf (W := 0) (rm23 l Z a0 hw [] u0  h0 n0 (Nat.le_trans Z0 K0.1)  h1 h2) hZ (hw _ (List.mem_of_getElem? (i := 101) rfl)) (hw _ (List.mem_of_getElem? (i := 54) rfl)) (by decide) (by decide)) (g := (mkF m 1 #[.val (.int u0)] [(.int u0)])) rfl (by rw [hml]; rfl) (argsL := [(.int u0)]) (rest := []) (lenOf pd_28I29I rfl) rfl (by show 2 * 0 + _ ≤ _; exact Nat.le_of_eq rfl) (hb hby d22_1) (fun _ _ => ⟨rfl, e0, (by decide : 0 + 0 ≤ _), (by decide : 0 + 0 ≤ _)⟩)
  dsimp only [Pt.U, Pt.locs, Pt.cells, Pt.slots] at X1 l1 y1 z1 st1 hQ1
  subst l1 y1 z1
  obtain ⟨rfl, N1q, e1⟩ := hQ1
  have N1 := Fr.app N0 N1q
  refine Wp.step st1 ?_
  show Wp p e below _ (T1.setTop (mkF m 4 #[.val (.int u0)] [(.int (u0 <<< ((1 : Int32) &&& 31)))]))
  obtain ⟨T2, h2, k2, X2, e2, E2, A2, st2⟩ := newP X1 hx hZ (hw _ (List.mem_of_getElem? (i := 19) rfl)) e1 (g := (mkF m 4 #[.val (.int u0)] [(.int (u0 <<< ((1 : Int32) &&& 31)))])) rfl (hb hby d22_4) rfl h3 (cap := 4) h4 (by decide) (by decide) (by decide)
  obtain ⟨b2, g2⟩ : ∃ z, z = h0.size := ⟨_, rfl⟩
  rw [← g2] at A2 st2
  have g_b2 : n0 ≤ b2 := Nat.le_trans (Nat.le_trans Z0 K0.1) (Nat.le_of_eq g2.symm)
  have sz_b2 : h0.size ≤ b2 := Nat.le_trans K0.1 (Nat.le_of_eq g2.symm)
  have K3 := K0.ext E2
  have Z2 : (newA k2 .byte (u0 <<< ((1 : Int32) &&& 31))).slots.size = ((u0 <<< ((1 : Int32) &&& 31))).toNatClampNeg := sz_new _ _ _
  have nn2 : ¬ (u0 <<< ((1 : Int32) &&& 31)) < 0 := h3
  refine Wp.step st2 ?_
  have B2 := own_IA.new A2 nn2 rfl
  show Wp p e below _ (T2.setTop (mkF m 6 #[.val (.int u0)] [(.ref b2)]))
  refine Wp.retA X2 hx Bd.returns rfl (hb hby d22_6) hlk ?_ (by decide) (by decide)
  show Q22 Z u0 h0 n0 (some (.ref b2)) T2.heap _
  rw [e2]
  exact ⟨b2, rfl, N1, K3, sz_b2, B2⟩
theorem d13_0 : decode jdk_52_method_15_code 0 = .ok (.iload_n 1, 1) := by decide +kernel
theorem d13_1 : decode jdk_52_method_15_code 1 = .ok (.aload_n 0, 1) := by decide +kernel
theorem d13_2 : decode jdk_52_method_15_code 2 = .ok (.arraylength, 1) := by decide +kernel
theorem d13_3 : decode jdk_52_method_15_code 3 = .ok (.isub, 1) := by decide +kernel
theorem d13_4 : decode jdk_52_method_15_code 4 = .ok (.bipush 31, 2) := by decide +kernel
theorem d13_6 : decode jdk_52_method_15_code 6 = .ok (.iushr, 1) := by decide +kernel
theorem d13_7 : decode jdk_52_method_15_code 7 = .ok (.i2b, 1) := by decide +kernel
theorem d13_8 : decode jdk_52_method_15_code 8 = .ok (.ireturn, 1) := by decide +kernel
theorem ef_13_00 (m : MethodId) (x0 : Addr) (x1 : Int32) : entryFrame m #[(.ref x0), (.int x1)] 2 = mkF m 0 #[.val (.ref x0), .val (.int x1)] [] := by first | (simp [entryFrame, mkF, argsToLocals, Value.category]; done) | rfl
def Q13 (Z : State) (d0 : Addr) (u0 : Int32) (len : Int32) (g : Nat → Int32) (h0 : Heap) (n0 : Nat) (v : Option Value) (h : Heap) (L : List Loc) : Prop := v = some (.int (own_cal u0 len)) ∧ Fr n0 L ∧ h = h0
set_option maxRecDepth 65536 in
set_option maxHeartbeats 40000000 in
theorem rm13 (l : Launch) (Z : State) (a0 : Array Value) (hw : ∀ d ∈ tables_1, d.before a0 Z = true) (ws : List Jvm.Cond) (d0 : Addr) (u0 : Int32) (len : Int32) (g : Nat → Int32) (h0 : Heap) (n0 : Nat) (Z0 : n0 ≤ h0.size) (B_d0 : own_IA .byte Z h0 d0 len g) :
    MetFree l (⟨"java/lang/StringUTF16", "coderFromArrayLen", "([BI)B"⟩ : MethodName) (head1 (Jvm.Cond.code (⟨"java/lang/StringUTF16", "coderFromArrayLen", "([BI)B"⟩ : MethodName) jdk_52_method_15_code 2 (some .byte) :: ws) ({ frames := 0, cells := 0, slots := 0, locals := 0 } : Room)) (fun a U => a = #[(.ref d0), (.int u0)] ∧ Z.Warmed39 U.vm ∧ U.heap = h0) (fun _ _ _ _ _ => True) (fun _ U o U' => ∃ v L, o = .returned v ∧ Q13 Z d0 u0 len g h0 n0 v U'.heap L ∧ FrameEnd U o U' L ({ frames := 0, cells := 0, slots := 0, locals := 0 } : Room).cells ({ frames := 0, cells := 0, slots := 0, locals := 0 } : Room).slots) := by
  refine MetFree.of_bodySF (plainFor_of_name pn_java_lang_StringUTF16) hisR ?_
  intro p e s m args below meth c s₁ Bd hml0 hP hK
  obtain ⟨rfl, hZ, hh⟩ := hP
  have hx := Bd.exec
  have hby := Bd.bytes
  have hlk : meth.locks = false := Bd.notSynchronized
  have hml : c.maxLocals = 2 := hml0
  have hown : s.vm.findClass "java/lang/StringUTF16" = some m.cls := findClass_of_methodNamed Bd.named
  have hnm := (name_of_methodNamed Bd.named Bd.method).1
  have X0 : Stand p l e ({ frames := 0, cells := 0, slots := 0, locals := 0 } : Room) s m #[(.ref d0), (.int u0)] below meth c s₁ [] 0 0 := Stand.of_body Bd
  have e0 : s₁.heap = h0 := by rw [← hh, Bd.state]; rfl
  have N0 := Fr.nil n0
  have K0 : Keep h0 h0 [] := Keep.refl h0 _
  show Wp p e below (Out s (Q13 Z d0 u0 len g h0 n0) ({ frames := 0, cells := 0, slots := 0, locals := 0 } : Room).cells ({ frames := 0, cells := 0, slots := 0, locals := 0 } : Room).slots) (s₁.setTop (entryFrame m #[(.ref d0), (.int u0)] 2))
  rw [ef_13_00]
  show Wp p e below _ (s₁.setTop (mkF m 0 #[.val (.ref d0), .val (.int u0)] []))
  refine Wp.step (fun t k => XS.iloadN X0.here hx rfl (hb hby d13_0) rfl k) ?_
  show Wp p e below _ (s₁.setTop (mkF m 1 #[.val (.ref d0), .val (.int u0)] [(.int u0)]))
  refine Wp.step (fun t k => XS.aloadN X0.here hx rfl (hb hby d13_1) rfl rfl k) ?_
  show Wp p e below _ (s₁.setTop (mkF m 2 #[.val (.ref d0), .val (.int u0)] [(.ref d0), (.int u0)]))
  obtain ⟨cl1, Ar1, Sz1, Nn1, -⟩ := id B_d0
  refine Wp.step (X0.arraylength hx (by rw [e0]; exact Ar1.1) (State.isArrayOf_alike hZ.alike Ar1.2.1) (g := (mkF m 2 #[.val (.ref d0), .val (.int u0)] [(.ref d0), (.int u0)])) rfl rfl (hb hby d13_2)) ?_
  rw [len_of Sz1 Nn1]
  show Wp p e below _ (s₁.setTop (mkF m 3 #[.val (.ref d0), .val (.int u0)] [(.int len), (.int u0)]))
  refine Wp.step (fun t k => XS.isub X0.here hx rfl (hb hby d13_3) rfl k) ?_
  show Wp p e below _ (s₁.setTop (mkF m 4 #[.val (.ref d0), .val (.int u0)] [(.int (u0 - len))]))
  refine Wp.step (fun t k => XS.bipush X0.here hx rfl (hb hby d13_4) k) ?_
  show Wp p e below _ (s₁.setTop (mkF m 6 #[.val (.ref d0), .val (.int u0)] [(.int (31 : Int32)), (.int (u0 - len))]))
  refine Wp.step (fun t k => XS.iushr X0.here hx rfl (hb hby d13_6) rfl k) ?_
  show Wp p e below _ (s₁.setTop (mkF m 7 #[.val (.ref d0), .val (.int u0)] [(.int (((u0 - len).toUInt32 >>> ((31 : Int32) &&& 31).toUInt32).toInt32))]))
  refine Wp.step (fun t k => XS.i2b X0.here hx rfl (hb hby d13_7) rfl k) ?_
  show Wp p e below _ (s₁.setTop (mkF m 8 #[.val (.ref d0), .val (.int u0)] [(.int ((((u0 - len).toUInt32 >>> ((31 : Int32) &&& 31).toUInt32).toInt32).toInt8.toInt32))]))
  refine Wp.retN X0 hx (t := .byte) Bd.returns (by simp) (hb hby d13_8) hlk ?_ (by decide) (by decide)
  show Q13 Z d0 u0 len g h0 n0 (some (.int (nar .byte ((((u0 - len).toUInt32 >>> ((31 : Int32) &&& 31).toUInt32).toInt32).toInt8.toInt32)))) s₁.heap _
  rw [e0]
  exact ⟨(congrArg (fun z => some (Value.int z)) (own_narb _)), N0, rfl⟩
theorem own_n3_0 : own_n3 0 := Or.inl rfl
theorem own_n3_1 : own_n3 1 := Or.inr (Or.inl rfl)
theorem own_n3_2 : own_n3 2 := Or.inr (Or.inr rfl)
theorem pd_28I295bB : parseMethodDescriptor "(I)[B" = some ⟨[.int], some (.array .byte)⟩ := by decide +kernel
theorem pd_285bBII29V : parseMethodDescriptor "([BII)V" = some ⟨[(.array .byte), .int, .int], none⟩ := by decide +kernel
theorem d21_0 : decode jdk_52_method_14_code 0 = .ok (.iload_n 2, 1) := by decide +kernel
theorem d21_1 : decode jdk_52_method_14_code 1 = .ok (.invokestatic 107, 3) := by decide +kernel
theorem d21_4 : decode jdk_52_method_14_code 4 = .ok (.astore_n 3, 1) := by decide +kernel
theorem d21_5 : decode jdk_52_method_14_code 5 = .ok (.iconst 0, 1) := by decide +kernel
theorem d21_6 : decode jdk_52_method_14_code 6 = .ok (.istore 4, 2) := by decide +kernel
theorem d21_8 : decode jdk_52_method_14_code 8 = .ok (.iload 4, 2) := by decide +kernel
theorem d21_10 : decode jdk_52_method_14_code 10 = .ok (.iload_n 2, 1) := by decide +kernel
theorem d21_11 : decode jdk_52_method_14_code 11 = .ok (.if_icmp .ge 21, 3) := by decide +kernel
theorem d21_14 : decode jdk_52_method_14_code 14 = .ok (.aload_n 3, 1) := by decide +kernel
theorem d21_15 : decode jdk_52_method_14_code 15 = .ok (.iload 4, 2) := by decide +kernel
theorem d21_17 : decode jdk_52_method_14_code 17 = .ok (.aload_n 0, 1) := by decide +kernel
theorem d21_18 : decode jdk_52_method_14_code 18 = .ok (.iload_n 1, 1) := by decide +kernel
theorem d21_19 : decode jdk_52_method_14_code 19 = .ok (.caload, 1) := by decide +kernel
theorem d21_20 : decode jdk_52_method_14_code 20 = .ok (.invokestatic 111, 3) := by decide +kernel
theorem d21_23 : decode jdk_52_method_14_code 23 = .ok (.iinc 1 1, 3) := by decide +kernel
theorem d21_26 : decode jdk_52_method_14_code 26 = .ok (.iinc 4 1, 3) := by decide +kernel
theorem d21_29 : decode jdk_52_method_14_code 29 = .ok (.goto (-21), 3) := by decide +kernel
theorem d21_32 : decode jdk_52_method_14_code 32 = .ok (.aload_n 3, 1) := by decide +kernel
theorem d21_33 : decode jdk_52_method_14_code 33 = .ok (.areturn, 1) := by decide +kernel
theorem ef_21_000 (m : MethodId) (x0 : Addr) (x1 : Int32) (x2 : Int32) : entryFrame m #[(.ref x0), (.int x1), (.int x2)] 5 = mkF m 0 #[.val (.ref x0), .val (.int x1), .val (.int x2), .unset, .unset] [] := by first | (simp [entryFrame, mkF, argsToLocals, Value.category]; done) | rfl
def Q21_1 (Z : State) (d0 : Addr) (u0 : Int32) (u1 : Int32) (c0 : Int32) (c1 : Int32) (h0 : Heap) (n0 : Nat) (v : Option Value) (h : Heap) (L : List Loc) : Prop := ∃ (r0 : Addr), v = some (.ref r0) ∧ Fr n0 L ∧ Keep h0 h [] ∧ h0.size ≤ r0 ∧ own_IA .byte Z h r0 (2 : Int32) (own_pc (fun _ => (0 : Int32)) (0 : Int32) c0)
set_option maxRecDepth 65536 in
set_option maxHeartbeats 40000000 in
theorem rm21_1 (l : Launch) (Z : State) (a0 : Array Value) (hw : ∀ d ∈ tables_1, d.before a0 Z = true) (ws : List Jvm.Cond) (d0 : Addr) (u0 : Int32) (u1 : Int32) (c0 : Int32) (c1 : Int32) (h0 : Heap) (n0 : Nat) (Z0 : n0 ≤ h0.size) (B_d0 : own_IA .char Z h0 d0 (1 : Int32) (own_ch c0 c1)) (S_assertionsDisabled_1Int32 : Sta Z h0 "java/lang/StringUTF16" "$assertionsDisabled" "Z" (.int (1 : Int32))) (S_HI_BYTE_SHIFT_0Int32 : Sta Z h0 "java/lang/StringUTF16" "HI_BYTE_SHIFT" "I" (.int (0 : Int32))) (S_LO_BYTE_SHIFT_8Int32 : Sta Z h0 "java/lang/StringUTF16" "LO_BYTE_SHIFT" "I" (.int (8 : Int32))) (hu0 : u0 = 0) (hu1 : u1 = 1) :
    MetFree l (⟨"java/lang/StringUTF16", "toBytes", "([CII)[B"⟩ : MethodName) (head1 (Jvm.Cond.code (⟨"java/lang/StringUTF16", "toBytes", "([CII)[B"⟩ : MethodName) jdk_52_method_14_code 5 (some (.array .byte)) :: ws) ({ frames := 2, cells := 1, slots := 4, locals := 24 } : Room)) (fun a U => a = #[(.ref d0), (.int u0), (.int u1)] ∧ Z.Warmed39 U.vm ∧ U.heap = h0) (fun _ _ _ _ _ => True) (fun _ U o U' => ∃ v L, o = .returned v ∧ Q21_1 Z d0 u0 u1 c0 c1 h0 n0 v U'.heap L ∧ FrameEnd U o U' L ({ frames := 2, cells := 1, slots := 4, locals := 24 } : Room).cells ({ frames := 2, cells := 1, slots := 4, locals := 24 } : Room).slots) := by
  refine MetFree.of_bodySF (plainFor_of_name pn_java_lang_StringUTF16) hisR ?_
  intro p e s m args below meth c s₁ Bd hml0 hP hK
  obtain ⟨rfl, hZ, hh⟩ := hP
  have hx := Bd.exec
  have hby := Bd.bytes
  have hlk : meth.locks = false := Bd.notSynchronized
  have hml : c.maxLocals = 5 := hml0
  have hown : s.vm.findClass "java/lang/StringUTF16" = some m.cls := findClass_of_methodNamed Bd.named
  have hnm := (name_of_methodNamed Bd.named Bd.method).1
  have X0 : Stand p l e ({ frames := 2, cells := 1, slots := 4, locals := 24 } : Room) s m #[(.ref d0), (.int u0), (.int u1)] below meth c s₁ [] 0 0 := Stand.of_body Bd
  have e0 : s₁.heap = h0 := by rw [← hh, Bd.state]; rfl
  have N0 := Fr.nil n0
  have K0 : Keep h0 h0 [] := Keep.refl h0 _
  show Wp p e below (Out s (Q21_1 Z d0 u0 u1 c0 c1 h0 n0) ({ frames := 2, cells := 1, slots := 4, locals := 24 } : Room).cells ({ frames := 2, cells := 1, slots := 4, locals := 24 } : Room).slots) (s₁.setTop (entryFrame m #[(.ref d0), (.int u0), (.int u1)] 5))
  rw [ef_21_000]
  subst hu0 hu1
  show Wp p e below _ (s₁.setTop (mkF m 0 #[.val (.ref d0), .val (.int (0 : Int32)), .val (.int (1 : Int32)), .unset, .unset] []))
  refine Wp.step (fun t k => XS.iloadN X0.here hx rfl (hb hby d21_0) rfl k) ?_
  show Wp p e below _ (s₁.setTop (mkF m 1 #[.val (.ref d0), .val (.int (0 : Int32)), .val (.int (1 : Int32)), .unset, .unset] [(.int (1 : Int32))]))
  obtain ⟨_, _, ⟨T1, L1, k1, n1⟩, -, X1, ⟨Lc1, hQ1, l1, y1, z1⟩, st1⟩ := Jvm.LawKit.callS X0 hx (y := (⟨"java/lang/StringUTF16", "newBytesFor", "(I)[B"⟩ : MethodName)) hown (mvT hZ (hw _ (List.mem_of_getElem? (i := 96) rfl))) (mvT hZ (hw _ (List.mem_of_getElem? (i := 97) rfl))) (mvT hZ (hw _ (List.mem_of_getElem? (i := 54) rfl))) (mvT hZ (hw _ (List.mem_of_getElem? (i := 98) rfl))) (by decide) (backOf (W := 0) (rm22 l Z a0 hw [] (1 : Int32)  h0 n0 (Nat.le_trans Z0 K0.1)  (by decide) (by decide) (by decide) (by decide)) hZ (hw _ (List.mem_of_getElem? (i := 98) rfl)) (hw _ (List.mem_of_getElem? (i := 54) rfl)) (by decide) (by decide)) (g := (mkF m 1 #[.val (.ref d0), .val (.int (0 : Int32)), .val (.int (1 : Int32)), .unset, .unset] [(.int (1 : Int32))])) rfl (by rw [hml]; rfl) (argsL := [(.int (1 : Int32))]) (rest := []) (lenOf pd_28I295bB rfl) rfl (by show 2 * 0 + _ ≤ _; exact Nat.le_of_eq rfl) (hb hby d21_1) (fun _ _ => ⟨rfl, e0, (by decide : 0 + 1 ≤ _), (by decide : 0 + 4 ≤ _)⟩)
  dsimp only [Pt.U, Pt.locs, Pt.cells, Pt.slots] at X1 l1 y1 z1 st1 hQ1
  subst l1 y1 z1
  obtain ⟨h1, e1⟩ : ∃ z, T1.heap = z := ⟨_, rfl⟩
  rw [e1] at hQ1
  obtain ⟨r1, rfl, N1q, Kc1, sz1, o1_0⟩ := hQ1
  have N1 := Fr.app N0 N1q
  have g_r1 : n0 ≤ r1 := Nat.le_trans (Nat.le_trans Z0 K0.1) sz1
  have sz_r1 : h0.size ≤ r1 := Nat.le_trans K0.1 sz1
  have ne_d0_r1 : d0 ≠ r1 := Nat.ne_of_lt (Nat.lt_of_lt_of_le B_d0.lt sz1)
  have B2 := B_d0.keep Kc1 nin0
  have c3 := own_sta_keep S_assertionsDisabled_1Int32 Kc1 all0
  have c4 := own_sta_keep S_HI_BYTE_SHIFT_0Int32 Kc1 all0
  have c5 := own_sta_keep S_LO_BYTE_SHIFT_8Int32 Kc1 all0
  have K1 := K0.trans Kc1 all0
  rw [show ((1 : Int32) <<< ((1 : Int32) &&& 31)) = (2 : Int32) from (by decide)] at o1_0
  refine Wp.step st1 ?_
  show Wp p e below _ (T1.setTop (mkF m 4 #[.val (.ref d0), .val (.int (0 : Int32)), .val (.int (1 : Int32)), .unset, .unset] [(.ref r1)]))
  refine Wp.step (fun t k => XS.astoreN X1.here hx rfl (hb hby d21_4) rfl rfl (l' := #[.val (.ref d0), .val (.int (0 : Int32)), .val (.int (1 : Int32)), .val (.ref r1), .unset]) rfl k) ?_
  show Wp p e below _ (T1.setTop (mkF m 5 #[.val (.ref d0), .val (.int (0 : Int32)), .val (.int (1 : Int32)), .val (.ref r1), .unset] []))
  refine Wp.step (fun t k => XS.iconst X1.here hx rfl (hb hby d21_5) k) ?_
  show Wp p e below _ (T1.setTop (mkF m 6 #[.val (.ref d0), .val (.int (0 : Int32)), .val (.int (1 : Int32)), .val (.ref r1), .unset] [(.int (0 : Int32))]))
  refine Wp.step (fun t k => XS.istore X1.here hx rfl (hb hby d21_6) rfl (l' := #[.val (.ref d0), .val (.int (0 : Int32)), .val (.int (1 : Int32)), .val (.ref r1), .val (.int (0 : Int32))]) rfl k) ?_
  show Wp p e below _ (T1.setTop (mkF m 8 #[.val (.ref d0), .val (.int (0 : Int32)), .val (.int (1 : Int32)), .val (.ref r1), .val (.int (0 : Int32))] []))
  refine Wp.step (fun t k => XS.iload X1.here hx rfl (hb hby d21_8) rfl k) ?_
  show Wp p e below _ (T1.setTop (mkF m 10 #[.val (.ref d0), .val (.int (0 : Int32)), .val (.int (1 : Int32)), .val (.ref r1), .val (.int (0 : Int32))] [(.int (0 : Int32))]))
  refine Wp.step (fun t k => XS.iloadN X1.here hx rfl (hb hby d21_10) rfl k) ?_
  show Wp p e below _ (T1.setTop (mkF m 11 #[.val (.ref d0), .val (.int (0 : Int32)), .val (.int (1 : Int32)), .val (.ref r1), .val (.int (0 : Int32))] [(.int (1 : Int32)), (.int (0 : Int32))]))
  refine Wp.step (fun t k => XS.icmpNo X1.here hx rfl (hb hby d21_11) rfl (tlt (show (0 : Int32) < (1 : Int32) by decide)).2.1 k) ?_
  show Wp p e below _ (T1.setTop (mkF m 14 #[.val (.ref d0), .val (.int (0 : Int32)), .val (.int (1 : Int32)), .val (.ref r1), .val (.int (0 : Int32))] []))
  refine Wp.step (fun t k => XS.aloadN X1.here hx rfl (hb hby d21_14) rfl rfl k) ?_
  show Wp p e below _ (T1.setTop (mkF m 15 #[.val (.ref d0), .val (.int (0 : Int32)), .val (.int (1 : Int32)), .val (.ref r1), .val (.int (0 : Int32))] [(.ref r1)]))
  refine Wp.step (fun t k => XS.iload X1.here hx rfl (hb hby d21_15) rfl k) ?_
  show Wp p e below _ (T1.setTop (mkF m 17 #[.val (.ref d0), .val (.int (0 : Int32)), .val (.int (1 : Int32)), .val (.ref r1), .val (.int (0 : Int32))] [(.int (0 : Int32)), (.ref r1)]))
  refine Wp.step (fun t k => XS.aloadN X1.here hx rfl (hb hby d21_17) rfl rfl k) ?_
  show Wp p e below _ (T1.setTop (mkF m 18 #[.val (.ref d0), .val (.int (0 : Int32)), .val (.int (1 : Int32)), .val (.ref r1), .val (.int (0 : Int32))] [(.ref d0), (.int (0 : Int32)), (.ref r1)]))
  refine Wp.step (fun t k => XS.iloadN X1.here hx rfl (hb hby d21_18) rfl k) ?_
  show Wp p e below _ (T1.setTop (mkF m 19 #[.val (.ref d0), .val (.int (0 : Int32)), .val (.int (1 : Int32)), .val (.ref r1), .val (.int (0 : Int32))] [(.int (0 : Int32)), (.ref d0), (.int (0 : Int32)), (.ref r1)]))
  obtain ⟨cl7, Ar7, Sz7, Nn7, El7⟩ := id B2
  have hin7 : ¬ ((0 : Int32) < 0 ∨ cl7.slots.size ≤ ((0 : Int32)).toNatClampNeg) := inb_of Sz7 ⟨by decide, by decide⟩
  have hat7 : cl7.slots[((0 : Int32)).toNatClampNeg]? = some (.int ((own_ch c0 c1) ((0 : Int32)).toNatClampNeg)) := (El7 _ (by have q := Nat.lt_of_not_le fun q => hin7 (Or.inr q); rw [Sz7] at q; exact q)).1
  rw [show ((own_ch c0 c1) ((0 : Int32)).toNatClampNeg) = c0 from rfl] at hat7
  refine Wp.step (X1.caload hx (j := (0 : Int32)) (v := (.int c0)) (by rw [e1]; exact Ar7.1) (State.isArrayOf_alike hZ.alike Ar7.2.1) Ar7.2.2 hin7 hat7 (g := (mkF m 19 #[.val (.ref d0), .val (.int (0 : Int32)), .val (.int (1 : Int32)), .val (.ref r1), .val (.int (0 : Int32))] [(.int (0 : Int32)), (.ref d0), (.int (0 : Int32)), (.ref r1)])) rfl rfl (hb hby d21_19)) ?_
  show Wp p e below _ (T1.setTop (mkF m 20 #[.val (.ref d0), .val (.int (0 : Int32)), .val (.int (1 : Int32)), .val (.ref r1), .val (.int (0 : Int32))] [(.int c0), (.int (0 : Int32)), (.ref r1)]))
  obtain ⟨_, _, ⟨T8, L8, k8, n8⟩, -, X8, ⟨Lc8, hQ8, l8, y8, z8⟩, st8⟩ := Jvm.LawKit.callS X1 hx (y := (⟨"java/lang/StringUTF16", "putChar", "([BII)V"⟩ : MethodName)) hown (mvT hZ (hw _ (List.mem_of_getElem? (i := 103) rfl))) (mvT hZ (hw _ (List.mem_of_getElem? (i := 104) rfl))) (mvT hZ (hw _ (List.mem_of_getElem? (i := 54) rfl))) (mvT hZ (hw _ (List.mem_of_getElem? (i := 105) rfl))) (by decide) (backOf (W := 0) (rm24 l Z a0 hw [] r1 (0 : Int32) c0 (2 : Int32) (fun _ => (0 : Int32)) h1 n0 (Nat.le_trans Z0 K1.1) g_r1 o1_0 c3 c4 c5 (by decide) (by decide)) hZ (hw _ (List.mem_of_getElem? (i := 105) rfl)) (hw _ (List.mem_of_getElem? (i := 54) rfl)) (by decide) (by decide)) (g := (mkF m 20 #[.val (.ref d0), .val (.int (0 : Int32)), .val (.int (1 : Int32)), .val (.ref r1), .val (.int (0 : Int32))] [(.int c0), (.int (0 : Int32)), (.ref r1)])) rfl (by rw [hml]; rfl) (argsL := [(.ref r1), (.int (0 : Int32)), (.int c0)]) (rest := []) (lenOf pd_285bBII29V rfl) rfl (by show 2 * 0 + _ ≤ _; exact Nat.le_of_eq rfl) (hb hby d21_20) (fun _ _ => ⟨rfl, e1, (by decide : 1 + 0 ≤ _), (by decide : 4 + 0 ≤ _)⟩)
  dsimp only [Pt.U, Pt.locs, Pt.cells, Pt.slots] at X8 l8 y8 z8 st8 hQ8
  subst l8 y8 z8
  obtain ⟨h8, e8⟩ : ∃ z, T8.heap = z := ⟨_, rfl⟩
  rw [e8] at hQ8
  obtain ⟨rfl, N8q, Kc8, o8_0⟩ := hQ8
  have N8 := Fr.app N1 N8q
  have B9 := B2.keep Kc8 (ninS ne_d0_r1 nin0)
  have c10 := own_sta_keep c3 Kc8 (allS (own_nsB o1_0) all0)
  have c11 := own_sta_keep c4 Kc8 (allS (own_nsB o1_0) all0)
  have c12 := own_sta_keep c5 Kc8 (allS (own_nsB o1_0) all0)
  have K8 := K1.trans Kc8 (allS (Or.inr sz_r1) all0)
  refine Wp.step st8 ?_
  show Wp p e below _ (T8.setTop (mkF m 23 #[.val (.ref d0), .val (.int (0 : Int32)), .val (.int (1 : Int32)), .val (.ref r1), .val (.int (0 : Int32))] []))
  refine Wp.step (fun t k => XS.iinc X8.here hx rfl (hb hby d21_23) rfl (l' := #[.val (.ref d0), .val (.int ((0 : Int32) + (1 : Int32))), .val (.int (1 : Int32)), .val (.ref r1), .val (.int (0 : Int32))]) rfl k) ?_
  show Wp p e below _ (T8.setTop (mkF m 26 #[.val (.ref d0), .val (.int ((0 : Int32) + (1 : Int32))), .val (.int (1 : Int32)), .val (.ref r1), .val (.int (0 : Int32))] []))
  rw [show ((0 : Int32) + (1 : Int32)) = (1 : Int32) from (by decide)]
  refine Wp.step (fun t k => XS.iinc X8.here hx rfl (hb hby d21_26) rfl (l' := #[.val (.ref d0), .val (.int (1 : Int32)), .val (.int (1 : Int32)), .val (.ref r1), .val (.int ((0 : Int32) + (1 : Int32)))]) rfl k) ?_
  show Wp p e below _ (T8.setTop (mkF m 29 #[.val (.ref d0), .val (.int (1 : Int32)), .val (.int (1 : Int32)), .val (.ref r1), .val (.int ((0 : Int32) + (1 : Int32)))] []))
  rw [show ((0 : Int32) + (1 : Int32)) = (1 : Int32) from (by decide)]
  refine Wp.step (fun t k => XS.goto X8.here hx rfl (pc0 := 29) (pc' := 8) rfl (hb hby d21_29) (by decide) (by decide) k) ?_
  show Wp p e below _ (T8.setTop (mkF m 8 #[.val (.ref d0), .val (.int (1 : Int32)), .val (.int (1 : Int32)), .val (.ref r1), .val (.int (1 : Int32))] []))
  refine Wp.step (fun t k => XS.iload X8.here hx rfl (hb hby d21_8) rfl k) ?_
  show Wp p e below _ (T8.setTop (mkF m 10 #[.val (.ref d0), .val (.int (1 : Int32)), .val (.int (1 : Int32)), .val (.ref r1), .val (.int (1 : Int32))] [(.int (1 : Int32))]))
  refine Wp.step (fun t k => XS.iloadN X8.here hx rfl (hb hby d21_10) rfl k) ?_
  show Wp p e below _ (T8.setTop (mkF m 11 #[.val (.ref d0), .val (.int (1 : Int32)), .val (.int (1 : Int32)), .val (.ref r1), .val (.int (1 : Int32))] [(.int (1 : Int32)), (.int (1 : Int32))]))
  refine Wp.step (fun t k => XS.icmpYes X8.here hx rfl (pc0 := 11) (pc' := 32) rfl (hb hby d21_11) rfl (flt (show ¬ ((1 : Int32) < (1 : Int32)) by decide)).2.1 (by decide) (by decide) k) ?_
  show Wp p e below _ (T8.setTop (mkF m 32 #[.val (.ref d0), .val (.int (1 : Int32)), .val (.int (1 : Int32)), .val (.ref r1), .val (.int (1 : Int32))] []))
  refine Wp.step (fun t k => XS.aloadN X8.here hx rfl (hb hby d21_32) rfl rfl k) ?_
  show Wp p e below _ (T8.setTop (mkF m 33 #[.val (.ref d0), .val (.int (1 : Int32)), .val (.int (1 : Int32)), .val (.ref r1), .val (.int (1 : Int32))] [(.ref r1)]))
  refine Wp.retA X8 hx Bd.returns rfl (hb hby d21_33) hlk ?_ (by decide) (by decide)
  show Q21_1 Z d0 (0 : Int32) (1 : Int32) c0 c1 h0 n0 (some (.ref r1)) T8.heap _
  rw [e8]
  exact ⟨r1, rfl, N8, K8, sz_r1, o8_0⟩
theorem d12_0 : decode jdk_52_method_21_code 0 = .ok (.iconst 0, 1) := by decide +kernel
theorem d12_1 : decode jdk_52_method_21_code 1 = .ok (.istore 5, 2) := by decide +kernel
theorem d12_3 : decode jdk_52_method_21_code 3 = .ok (.iload 5, 2) := by decide +kernel
theorem d12_5 : decode jdk_52_method_21_code 5 = .ok (.iload 4, 2) := by decide +kernel
theorem d12_7 : decode jdk_52_method_21_code 7 = .ok (.if_icmp .ge 37, 3) := by decide +kernel
theorem d12_10 : decode jdk_52_method_21_code 10 = .ok (.aload_n 0, 1) := by decide +kernel
theorem d12_11 : decode jdk_52_method_21_code 11 = .ok (.iload_n 1, 1) := by decide +kernel
theorem d12_12 : decode jdk_52_method_21_code 12 = .ok (.caload, 1) := by decide +kernel
theorem d12_13 : decode jdk_52_method_21_code 13 = .ok (.istore 6, 2) := by decide +kernel
theorem d12_15 : decode jdk_52_method_21_code 15 = .ok (.iload 6, 2) := by decide +kernel
theorem d12_17 : decode jdk_52_method_21_code 17 = .ok (.sipush 255, 3) := by decide +kernel
theorem d12_20 : decode jdk_52_method_21_code 20 = .ok (.if_icmp .le 6, 3) := by decide +kernel
theorem d12_26 : decode jdk_52_method_21_code 26 = .ok (.aload_n 2, 1) := by decide +kernel
theorem d12_27 : decode jdk_52_method_21_code 27 = .ok (.iload_n 3, 1) := by decide +kernel
theorem d12_28 : decode jdk_52_method_21_code 28 = .ok (.iload 6, 2) := by decide +kernel
theorem d12_30 : decode jdk_52_method_21_code 30 = .ok (.i2b, 1) := by decide +kernel
theorem d12_31 : decode jdk_52_method_21_code 31 = .ok (.bastore, 1) := by decide +kernel
theorem d12_32 : decode jdk_52_method_21_code 32 = .ok (.iinc 1 1, 3) := by decide +kernel
theorem d12_35 : decode jdk_52_method_21_code 35 = .ok (.iinc 3 1, 3) := by decide +kernel
theorem d12_38 : decode jdk_52_method_21_code 38 = .ok (.iinc 5 1, 3) := by decide +kernel
theorem d12_41 : decode jdk_52_method_21_code 41 = .ok (.goto (-38), 3) := by decide +kernel
theorem d12_44 : decode jdk_52_method_21_code 44 = .ok (.iload 4, 2) := by decide +kernel
theorem d12_46 : decode jdk_52_method_21_code 46 = .ok (.ireturn, 1) := by decide +kernel
theorem ef_12_00000 (m : MethodId) (x0 : Addr) (x1 : Int32) (x2 : Addr) (x3 : Int32) (x4 : Int32) : entryFrame m #[(.ref x0), (.int x1), (.ref x2), (.int x3), (.int x4)] 7 = mkF m 0 #[.val (.ref x0), .val (.int x1), .val (.ref x2), .val (.int x3), .val (.int x4), .unset, .unset] [] := by first | (simp [entryFrame, mkF, argsToLocals, Value.category]; done) | rfl
def Q12_L1 (Z : State) (d0 : Addr) (u0 : Int32) (d1 : Addr) (u1 : Int32) (u2 : Int32) (c0 : Int32) (c1 : Int32) (g : Nat → Int32) (h0 : Heap) (n0 : Nat) (v : Option Value) (h : Heap) (L : List Loc) : Prop := v = some (.int (1 : Int32)) ∧ Fr n0 L ∧ Keep h0 h [d1] ∧ own_IA .byte Z h d1 (1 : Int32) (own_bc g (0 : Int32) c0)
set_option maxRecDepth 65536 in
set_option maxHeartbeats 40000000 in
theorem rm12_L1 (l : Launch) (Z : State) (a0 : Array Value) (hw : ∀ d ∈ tables_1, d.before a0 Z = true) (ws : List Jvm.Cond) (d0 : Addr) (u0 : Int32) (d1 : Addr) (u1 : Int32) (u2 : Int32) (c0 : Int32) (c1 : Int32) (g : Nat → Int32) (h0 : Heap) (n0 : Nat) (Z0 : n0 ≤ h0.size) (g_d1 : n0 ≤ d1) (B_d0 : own_IA .char Z h0 d0 (1 : Int32) (own_ch c0 c1)) (B_d1 : own_IA .byte Z h0 d1 (1 : Int32) g) (hu0 : u0 = 0) (hu1 : u1 = 0) (hu2 : u2 = 1) (hda : d0 ≠ d1) (l0 : ¬ (255 : Int32) < c0) :
    MetFree l (⟨"java/lang/StringUTF16", "compress", "([CI[BII)I"⟩ : MethodName) (head1 (Jvm.Cond.code (⟨"java/lang/StringUTF16", "compress", "([CI[BII)I"⟩ : MethodName) jdk_52_method_21_code 7 (some .int) :: ws) ({ frames := 0, cells := 0, slots := 0, locals := 0 } : Room)) (fun a U => a = #[(.ref d0), (.int u0), (.ref d1), (.int u1), (.int u2)] ∧ Z.Warmed39 U.vm ∧ U.heap = h0) (fun _ _ _ _ _ => True) (fun _ U o U' => ∃ v L, o = .returned v ∧ Q12_L1 Z d0 u0 d1 u1 u2 c0 c1 g h0 n0 v U'.heap L ∧ FrameEnd U o U' L ({ frames := 0, cells := 0, slots := 0, locals := 0 } : Room).cells ({ frames := 0, cells := 0, slots := 0, locals := 0 } : Room).slots) := by
  refine MetFree.of_bodySF (plainFor_of_name pn_java_lang_StringUTF16) hisR ?_
  intro p e s m args below meth c s₁ Bd hml0 hP hK
  obtain ⟨rfl, hZ, hh⟩ := hP
  have hx := Bd.exec
  have hby := Bd.bytes
  have hlk : meth.locks = false := Bd.notSynchronized
  have hml : c.maxLocals = 7 := hml0
  have hown : s.vm.findClass "java/lang/StringUTF16" = some m.cls := findClass_of_methodNamed Bd.named
  have hnm := (name_of_methodNamed Bd.named Bd.method).1
  have X0 : Stand p l e ({ frames := 0, cells := 0, slots := 0, locals := 0 } : Room) s m #[(.ref d0), (.int u0), (.ref d1), (.int u1), (.int u2)] below meth c s₁ [] 0 0 := Stand.of_body Bd
  have e0 : s₁.heap = h0 := by rw [← hh, Bd.state]; rfl
  have N0 := Fr.nil n0
  have K0 : Keep h0 h0 [d1] := Keep.refl h0 _
  show Wp p e below (Out s (Q12_L1 Z d0 u0 d1 u1 u2 c0 c1 g h0 n0) ({ frames := 0, cells := 0, slots := 0, locals := 0 } : Room).cells ({ frames := 0, cells := 0, slots := 0, locals := 0 } : Room).slots) (s₁.setTop (entryFrame m #[(.ref d0), (.int u0), (.ref d1), (.int u1), (.int u2)] 7))
  rw [ef_12_00000]
  subst hu0 hu1 hu2
  show Wp p e below _ (s₁.setTop (mkF m 0 #[.val (.ref d0), .val (.int (0 : Int32)), .val (.ref d1), .val (.int (0 : Int32)), .val (.int (1 : Int32)), .unset, .unset] []))
  refine Wp.step (fun t k => XS.iconst X0.here hx rfl (hb hby d12_0) k) ?_
  show Wp p e below _ (s₁.setTop (mkF m 1 #[.val (.ref d0), .val (.int (0 : Int32)), .val (.ref d1), .val (.int (0 : Int32)), .val (.int (1 : Int32)), .unset, .unset] [(.int (0 : Int32))]))
  refine Wp.step (fun t k => XS.istore X0.here hx rfl (hb hby d12_1) rfl (l' := #[.val (.ref d0), .val (.int (0 : Int32)), .val (.ref d1), .val (.int (0 : Int32)), .val (.int (1 : Int32)), .val (.int (0 : Int32)), .unset]) rfl k) ?_
  show Wp p e below _ (s₁.setTop (mkF m 3 #[.val (.ref d0), .val (.int (0 : Int32)), .val (.ref d1), .val (.int (0 : Int32)), .val (.int (1 : Int32)), .val (.int (0 : Int32)), .unset] []))
  refine Wp.step (fun t k => XS.iload X0.here hx rfl (hb hby d12_3) rfl k) ?_
  show Wp p e below _ (s₁.setTop (mkF m 5 #[.val (.ref d0), .val (.int (0 : Int32)), .val (.ref d1), .val (.int (0 : Int32)), .val (.int (1 : Int32)), .val (.int (0 : Int32)), .unset] [(.int (0 : Int32))]))
  refine Wp.step (fun t k => XS.iload X0.here hx rfl (hb hby d12_5) rfl k) ?_
  show Wp p e below _ (s₁.setTop (mkF m 7 #[.val (.ref d0), .val (.int (0 : Int32)), .val (.ref d1), .val (.int (0 : Int32)), .val (.int (1 : Int32)), .val (.int (0 : Int32)), .unset] [(.int (1 : Int32)), (.int (0 : Int32))]))
  refine Wp.step (fun t k => XS.icmpNo X0.here hx rfl (hb hby d12_7) rfl (tlt (show (0 : Int32) < (1 : Int32) by decide)).2.1 k) ?_
  show Wp p e below _ (s₁.setTop (mkF m 10 #[.val (.ref d0), .val (.int (0 : Int32)), .val (.ref d1), .val (.int (0 : Int32)), .val (.int (1 : Int32)), .val (.int (0 : Int32)), .unset] []))
  refine Wp.step (fun t k => XS.aloadN X0.here hx rfl (hb hby d12_10) rfl rfl k) ?_
  show Wp p e below _ (s₁.setTop (mkF m 11 #[.val (.ref d0), .val (.int (0 : Int32)), .val (.ref d1), .val (.int (0 : Int32)), .val (.int (1 : Int32)), .val (.int (0 : Int32)), .unset] [(.ref d0)]))
  refine Wp.step (fun t k => XS.iloadN X0.here hx rfl (hb hby d12_11) rfl k) ?_
  show Wp p e below _ (s₁.setTop (mkF m 12 #[.val (.ref d0), .val (.int (0 : Int32)), .val (.ref d1), .val (.int (0 : Int32)), .val (.int (1 : Int32)), .val (.int (0 : Int32)), .unset] [(.int (0 : Int32)), (.ref d0)]))
  obtain ⟨cl2, Ar2, Sz2, Nn2, El2⟩ := id B_d0
  have hin2 : ¬ ((0 : Int32) < 0 ∨ cl2.slots.size ≤ ((0 : Int32)).toNatClampNeg) := inb_of Sz2 ⟨by decide, by decide⟩
  have hat2 : cl2.slots[((0 : Int32)).toNatClampNeg]? = some (.int ((own_ch c0 c1) ((0 : Int32)).toNatClampNeg)) := (El2 _ (by have q := Nat.lt_of_not_le fun q => hin2 (Or.inr q); rw [Sz2] at q; exact q)).1
  rw [show ((own_ch c0 c1) ((0 : Int32)).toNatClampNeg) = c0 from rfl] at hat2
  refine Wp.step (X0.caload hx (j := (0 : Int32)) (v := (.int c0)) (by rw [e0]; exact Ar2.1) (State.isArrayOf_alike hZ.alike Ar2.2.1) Ar2.2.2 hin2 hat2 (g := (mkF m 12 #[.val (.ref d0), .val (.int (0 : Int32)), .val (.ref d1), .val (.int (0 : Int32)), .val (.int (1 : Int32)), .val (.int (0 : Int32)), .unset] [(.int (0 : Int32)), (.ref d0)])) rfl rfl (hb hby d12_12)) ?_
  show Wp p e below _ (s₁.setTop (mkF m 13 #[.val (.ref d0), .val (.int (0 : Int32)), .val (.ref d1), .val (.int (0 : Int32)), .val (.int (1 : Int32)), .val (.int (0 : Int32)), .unset] [(.int c0)]))
  refine Wp.step (fun t k => XS.istore X0.here hx rfl (hb hby d12_13) rfl (l' := #[.val (.ref d0), .val (.int (0 : Int32)), .val (.ref d1), .val (.int (0 : Int32)), .val (.int (1 : Int32)), .val (.int (0 : Int32)), .val (.int c0)]) rfl k) ?_
  show Wp p e below _ (s₁.setTop (mkF m 15 #[.val (.ref d0), .val (.int (0 : Int32)), .val (.ref d1), .val (.int (0 : Int32)), .val (.int (1 : Int32)), .val (.int (0 : Int32)), .val (.int c0)] []))
  refine Wp.step (fun t k => XS.iload X0.here hx rfl (hb hby d12_15) rfl k) ?_
  show Wp p e below _ (s₁.setTop (mkF m 17 #[.val (.ref d0), .val (.int (0 : Int32)), .val (.ref d1), .val (.int (0 : Int32)), .val (.int (1 : Int32)), .val (.int (0 : Int32)), .val (.int c0)] [(.int c0)]))
  refine Wp.step (fun t k => XS.sipush X0.here hx rfl (hb hby d12_17) k) ?_
  show Wp p e below _ (s₁.setTop (mkF m 20 #[.val (.ref d0), .val (.int (0 : Int32)), .val (.ref d1), .val (.int (0 : Int32)), .val (.int (1 : Int32)), .val (.int (0 : Int32)), .val (.int c0)] [(.int (255 : Int32)), (.int c0)]))
  refine Wp.step (fun t k => XS.icmpYes X0.here hx rfl (pc0 := 20) (pc' := 26) rfl (hb hby d12_20) rfl (flt (show ¬ ((255 : Int32) < c0) from l0)).2.2.2 (by decide) (by decide) k) ?_
  show Wp p e below _ (s₁.setTop (mkF m 26 #[.val (.ref d0), .val (.int (0 : Int32)), .val (.ref d1), .val (.int (0 : Int32)), .val (.int (1 : Int32)), .val (.int (0 : Int32)), .val (.int c0)] []))
  refine Wp.step (fun t k => XS.aloadN X0.here hx rfl (hb hby d12_26) rfl rfl k) ?_
  show Wp p e below _ (s₁.setTop (mkF m 27 #[.val (.ref d0), .val (.int (0 : Int32)), .val (.ref d1), .val (.int (0 : Int32)), .val (.int (1 : Int32)), .val (.int (0 : Int32)), .val (.int c0)] [(.ref d1)]))
  refine Wp.step (fun t k => XS.iloadN X0.here hx rfl (hb hby d12_27) rfl k) ?_
  show Wp p e below _ (s₁.setTop (mkF m 28 #[.val (.ref d0), .val (.int (0 : Int32)), .val (.ref d1), .val (.int (0 : Int32)), .val (.int (1 : Int32)), .val (.int (0 : Int32)), .val (.int c0)] [(.int (0 : Int32)), (.ref d1)]))
  refine Wp.step (fun t k => XS.iload X0.here hx rfl (hb hby d12_28) rfl k) ?_
  show Wp p e below _ (s₁.setTop (mkF m 30 #[.val (.ref d0), .val (.int (0 : Int32)), .val (.ref d1), .val (.int (0 : Int32)), .val (.int (1 : Int32)), .val (.int (0 : Int32)), .val (.int c0)] [(.int c0), (.int (0 : Int32)), (.ref d1)]))
  refine Wp.step (fun t k => XS.i2b X0.here hx rfl (hb hby d12_30) rfl k) ?_
  show Wp p e below _ (s₁.setTop (mkF m 31 #[.val (.ref d0), .val (.int (0 : Int32)), .val (.ref d1), .val (.int (0 : Int32)), .val (.int (1 : Int32)), .val (.int (0 : Int32)), .val (.int c0)] [(.int (c0.toInt8.toInt32)), (.int (0 : Int32)), (.ref d1)]))
  obtain ⟨cl4, Ar4, Sz4, Nn4, El4⟩ := id B_d1
  have hin4 : ¬ ((0 : Int32) < 0 ∨ cl4.slots.size ≤ ((0 : Int32)).toNatClampNeg) := inb_of Sz4 ⟨by decide, by decide⟩
  obtain ⟨T4, h4, X4, e4, W4, st4⟩ := stB X0 hx hZ e0 Ar4 (j := (0 : Int32)) hin4 (g := (mkF m 31 #[.val (.ref d0), .val (.int (0 : Int32)), .val (.ref d1), .val (.int (0 : Int32)), .val (.int (1 : Int32)), .val (.int (0 : Int32)), .val (.int c0)] [(.int (c0.toInt8.toInt32)), (.int (0 : Int32)), (.ref d1)])) rfl rfl (hb hby d12_31)
  have B5 := B_d0.other W4 hda
  have K6 := K0.wr W4 (Or.inl (List.mem_of_getElem? (i := 0) rfl))
  have N4 := Fr.snoc X4 N0 g_d1
  have B4 := own_IA.set Ar4 Sz4 Nn4 El4 W4 (fits_nar_byte _)
  rw [own_narb] at B4
  refine Wp.step st4 ?_
  show Wp p e below _ (T4.setTop (mkF m 32 #[.val (.ref d0), .val (.int (0 : Int32)), .val (.ref d1), .val (.int (0 : Int32)), .val (.int (1 : Int32)), .val (.int (0 : Int32)), .val (.int c0)] []))
  refine Wp.step (fun t k => XS.iinc X4.here hx rfl (hb hby d12_32) rfl (l' := #[.val (.ref d0), .val (.int ((0 : Int32) + (1 : Int32))), .val (.ref d1), .val (.int (0 : Int32)), .val (.int (1 : Int32)), .val (.int (0 : Int32)), .val (.int c0)]) rfl k) ?_
  show Wp p e below _ (T4.setTop (mkF m 35 #[.val (.ref d0), .val (.int ((0 : Int32) + (1 : Int32))), .val (.ref d1), .val (.int (0 : Int32)), .val (.int (1 : Int32)), .val (.int (0 : Int32)), .val (.int c0)] []))
  rw [show ((0 : Int32) + (1 : Int32)) = (1 : Int32) from (by decide)]
  refine Wp.step (fun t k => XS.iinc X4.here hx rfl (hb hby d12_35) rfl (l' := #[.val (.ref d0), .val (.int (1 : Int32)), .val (.ref d1), .val (.int ((0 : Int32) + (1 : Int32))), .val (.int (1 : Int32)), .val (.int (0 : Int32)), .val (.int c0)]) rfl k) ?_
  show Wp p e below _ (T4.setTop (mkF m 38 #[.val (.ref d0), .val (.int (1 : Int32)), .val (.ref d1), .val (.int ((0 : Int32) + (1 : Int32))), .val (.int (1 : Int32)), .val (.int (0 : Int32)), .val (.int c0)] []))
  rw [show ((0 : Int32) + (1 : Int32)) = (1 : Int32) from (by decide)]
  refine Wp.step (fun t k => XS.iinc X4.here hx rfl (hb hby d12_38) rfl (l' := #[.val (.ref d0), .val (.int (1 : Int32)), .val (.ref d1), .val (.int (1 : Int32)), .val (.int (1 : Int32)), .val (.int ((0 : Int32) + (1 : Int32))), .val (.int c0)]) rfl k) ?_
  show Wp p e below _ (T4.setTop (mkF m 41 #[.val (.ref d0), .val (.int (1 : Int32)), .val (.ref d1), .val (.int (1 : Int32)), .val (.int (1 : Int32)), .val (.int ((0 : Int32) + (1 : Int32))), .val (.int c0)] []))
  rw [show ((0 : Int32) + (1 : Int32)) = (1 : Int32) from (by decide)]
  refine Wp.step (fun t k => XS.goto X4.here hx rfl (pc0 := 41) (pc' := 3) rfl (hb hby d12_41) (by decide) (by decide) k) ?_
  show Wp p e below _ (T4.setTop (mkF m 3 #[.val (.ref d0), .val (.int (1 : Int32)), .val (.ref d1), .val (.int (1 : Int32)), .val (.int (1 : Int32)), .val (.int (1 : Int32)), .val (.int c0)] []))
  refine Wp.step (fun t k => XS.iload X4.here hx rfl (hb hby d12_3) rfl k) ?_
  show Wp p e below _ (T4.setTop (mkF m 5 #[.val (.ref d0), .val (.int (1 : Int32)), .val (.ref d1), .val (.int (1 : Int32)), .val (.int (1 : Int32)), .val (.int (1 : Int32)), .val (.int c0)] [(.int (1 : Int32))]))
  refine Wp.step (fun t k => XS.iload X4.here hx rfl (hb hby d12_5) rfl k) ?_
  show Wp p e below _ (T4.setTop (mkF m 7 #[.val (.ref d0), .val (.int (1 : Int32)), .val (.ref d1), .val (.int (1 : Int32)), .val (.int (1 : Int32)), .val (.int (1 : Int32)), .val (.int c0)] [(.int (1 : Int32)), (.int (1 : Int32))]))
  refine Wp.step (fun t k => XS.icmpYes X4.here hx rfl (pc0 := 7) (pc' := 44) rfl (hb hby d12_7) rfl (flt (show ¬ ((1 : Int32) < (1 : Int32)) by decide)).2.1 (by decide) (by decide) k) ?_
  show Wp p e below _ (T4.setTop (mkF m 44 #[.val (.ref d0), .val (.int (1 : Int32)), .val (.ref d1), .val (.int (1 : Int32)), .val (.int (1 : Int32)), .val (.int (1 : Int32)), .val (.int c0)] []))
  refine Wp.step (fun t k => XS.iload X4.here hx rfl (hb hby d12_44) rfl k) ?_
  show Wp p e below _ (T4.setTop (mkF m 46 #[.val (.ref d0), .val (.int (1 : Int32)), .val (.ref d1), .val (.int (1 : Int32)), .val (.int (1 : Int32)), .val (.int (1 : Int32)), .val (.int c0)] [(.int (1 : Int32))]))
  refine Wp.retI X4 hx Bd.returns (hb hby d12_46) hlk ?_ (by decide) (by decide)
  show Q12_L1 Z d0 (0 : Int32) d1 (0 : Int32) (1 : Int32) c0 c1 g h0 n0 (some (.int (1 : Int32))) T4.heap _
  rw [e4]
  exact ⟨rfl, N4, K6, B4⟩
theorem d12_23 : decode jdk_52_method_21_code 23 = .ok (.iload 5, 2) := by decide +kernel
theorem d12_25 : decode jdk_52_method_21_code 25 = .ok (.ireturn, 1) := by decide +kernel
def Q12_N1 (Z : State) (d0 : Addr) (u0 : Int32) (d1 : Addr) (u1 : Int32) (u2 : Int32) (c0 : Int32) (c1 : Int32) (g : Nat → Int32) (h0 : Heap) (n0 : Nat) (v : Option Value) (h : Heap) (L : List Loc) : Prop := v = some (.int (0 : Int32)) ∧ Fr n0 L ∧ Keep h0 h [d1]
set_option maxRecDepth 65536 in
set_option maxHeartbeats 40000000 in
theorem rm12_N1 (l : Launch) (Z : State) (a0 : Array Value) (hw : ∀ d ∈ tables_1, d.before a0 Z = true) (ws : List Jvm.Cond) (d0 : Addr) (u0 : Int32) (d1 : Addr) (u1 : Int32) (u2 : Int32) (c0 : Int32) (c1 : Int32) (g : Nat → Int32) (h0 : Heap) (n0 : Nat) (Z0 : n0 ≤ h0.size) (g_d1 : n0 ≤ d1) (B_d0 : own_IA .char Z h0 d0 (1 : Int32) (own_ch c0 c1)) (B_d1 : own_IA .byte Z h0 d1 (1 : Int32) g) (hu0 : u0 = 0) (hu1 : u1 = 0) (hu2 : u2 = 1) (hda : d0 ≠ d1) (l0 : (255 : Int32) < c0) :
    MetFree l (⟨"java/lang/StringUTF16", "compress", "([CI[BII)I"⟩ : MethodName) (head1 (Jvm.Cond.code (⟨"java/lang/StringUTF16", "compress", "([CI[BII)I"⟩ : MethodName) jdk_52_method_21_code 7 (some .int) :: ws) ({ frames := 0, cells := 0, slots := 0, locals := 0 } : Room)) (fun a U => a = #[(.ref d0), (.int u0), (.ref d1), (.int u1), (.int u2)] ∧ Z.Warmed39 U.vm ∧ U.heap = h0) (fun _ _ _ _ _ => True) (fun _ U o U' => ∃ v L, o = .returned v ∧ Q12_N1 Z d0 u0 d1 u1 u2 c0 c1 g h0 n0 v U'.heap L ∧ FrameEnd U o U' L ({ frames := 0, cells := 0, slots := 0, locals := 0 } : Room).cells ({ frames := 0, cells := 0, slots := 0, locals := 0 } : Room).slots) := by
  refine MetFree.of_bodySF (plainFor_of_name pn_java_lang_StringUTF16) hisR ?_
  intro p e s m args below meth c s₁ Bd hml0 hP hK
  obtain ⟨rfl, hZ, hh⟩ := hP
  have hx := Bd.exec
  have hby := Bd.bytes
  have hlk : meth.locks = false := Bd.notSynchronized
  have hml : c.maxLocals = 7 := hml0
  have hown : s.vm.findClass "java/lang/StringUTF16" = some m.cls := findClass_of_methodNamed Bd.named
  have hnm := (name_of_methodNamed Bd.named Bd.method).1
  have X0 : Stand p l e ({ frames := 0, cells := 0, slots := 0, locals := 0 } : Room) s m #[(.ref d0), (.int u0), (.ref d1), (.int u1), (.int u2)] below meth c s₁ [] 0 0 := Stand.of_body Bd
  have e0 : s₁.heap = h0 := by rw [← hh, Bd.state]; rfl
  have N0 := Fr.nil n0
  have K0 : Keep h0 h0 [d1] := Keep.refl h0 _
  show Wp p e below (Out s (Q12_N1 Z d0 u0 d1 u1 u2 c0 c1 g h0 n0) ({ frames := 0, cells := 0, slots := 0, locals := 0 } : Room).cells ({ frames := 0, cells := 0, slots := 0, locals := 0 } : Room).slots) (s₁.setTop (entryFrame m #[(.ref d0), (.int u0), (.ref d1), (.int u1), (.int u2)] 7))
  rw [ef_12_00000]
  subst hu0 hu1 hu2
  show Wp p e below _ (s₁.setTop (mkF m 0 #[.val (.ref d0), .val (.int (0 : Int32)), .val (.ref d1), .val (.int (0 : Int32)), .val (.int (1 : Int32)), .unset, .unset] []))
  refine Wp.step (fun t k => XS.iconst X0.here hx rfl (hb hby d12_0) k) ?_
  show Wp p e below _ (s₁.setTop (mkF m 1 #[.val (.ref d0), .val (.int (0 : Int32)), .val (.ref d1), .val (.int (0 : Int32)), .val (.int (1 : Int32)), .unset, .unset] [(.int (0 : Int32))]))
  refine Wp.step (fun t k => XS.istore X0.here hx rfl (hb hby d12_1) rfl (l' := #[.val (.ref d0), .val (.int (0 : Int32)), .val (.ref d1), .val (.int (0 : Int32)), .val (.int (1 : Int32)), .val (.int (0 : Int32)), .unset]) rfl k) ?_
  show Wp p e below _ (s₁.setTop (mkF m 3 #[.val (.ref d0), .val (.int (0 : Int32)), .val (.ref d1), .val (.int (0 : Int32)), .val (.int (1 : Int32)), .val (.int (0 : Int32)), .unset] []))
  refine Wp.step (fun t k => XS.iload X0.here hx rfl (hb hby d12_3) rfl k) ?_
  show Wp p e below _ (s₁.setTop (mkF m 5 #[.val (.ref d0), .val (.int (0 : Int32)), .val (.ref d1), .val (.int (0 : Int32)), .val (.int (1 : Int32)), .val (.int (0 : Int32)), .unset] [(.int (0 : Int32))]))
  refine Wp.step (fun t k => XS.iload X0.here hx rfl (hb hby d12_5) rfl k) ?_
  show Wp p e below _ (s₁.setTop (mkF m 7 #[.val (.ref d0), .val (.int (0 : Int32)), .val (.ref d1), .val (.int (0 : Int32)), .val (.int (1 : Int32)), .val (.int (0 : Int32)), .unset] [(.int (1 : Int32)), (.int (0 : Int32))]))
  refine Wp.step (fun t k => XS.icmpNo X0.here hx rfl (hb hby d12_7) rfl (tlt (show (0 : Int32) < (1 : Int32) by decide)).2.1 k) ?_
  show Wp p e below _ (s₁.setTop (mkF m 10 #[.val (.ref d0), .val (.int (0 : Int32)), .val (.ref d1), .val (.int (0 : Int32)), .val (.int (1 : Int32)), .val (.int (0 : Int32)), .unset] []))
  refine Wp.step (fun t k => XS.aloadN X0.here hx rfl (hb hby d12_10) rfl rfl k) ?_
  show Wp p e below _ (s₁.setTop (mkF m 11 #[.val (.ref d0), .val (.int (0 : Int32)), .val (.ref d1), .val (.int (0 : Int32)), .val (.int (1 : Int32)), .val (.int (0 : Int32)), .unset] [(.ref d0)]))
  refine Wp.step (fun t k => XS.iloadN X0.here hx rfl (hb hby d12_11) rfl k) ?_
  show Wp p e below _ (s₁.setTop (mkF m 12 #[.val (.ref d0), .val (.int (0 : Int32)), .val (.ref d1), .val (.int (0 : Int32)), .val (.int (1 : Int32)), .val (.int (0 : Int32)), .unset] [(.int (0 : Int32)), (.ref d0)]))
  obtain ⟨cl2, Ar2, Sz2, Nn2, El2⟩ := id B_d0
  have hin2 : ¬ ((0 : Int32) < 0 ∨ cl2.slots.size ≤ ((0 : Int32)).toNatClampNeg) := inb_of Sz2 ⟨by decide, by decide⟩
  have hat2 : cl2.slots[((0 : Int32)).toNatClampNeg]? = some (.int ((own_ch c0 c1) ((0 : Int32)).toNatClampNeg)) := (El2 _ (by have q := Nat.lt_of_not_le fun q => hin2 (Or.inr q); rw [Sz2] at q; exact q)).1
  rw [show ((own_ch c0 c1) ((0 : Int32)).toNatClampNeg) = c0 from rfl] at hat2
  refine Wp.step (X0.caload hx (j := (0 : Int32)) (v := (.int c0)) (by rw [e0]; exact Ar2.1) (State.isArrayOf_alike hZ.alike Ar2.2.1) Ar2.2.2 hin2 hat2 (g := (mkF m 12 #[.val (.ref d0), .val (.int (0 : Int32)), .val (.ref d1), .val (.int (0 : Int32)), .val (.int (1 : Int32)), .val (.int (0 : Int32)), .unset] [(.int (0 : Int32)), (.ref d0)])) rfl rfl (hb hby d12_12)) ?_
  show Wp p e below _ (s₁.setTop (mkF m 13 #[.val (.ref d0), .val (.int (0 : Int32)), .val (.ref d1), .val (.int (0 : Int32)), .val (.int (1 : Int32)), .val (.int (0 : Int32)), .unset] [(.int c0)]))
  refine Wp.step (fun t k => XS.istore X0.here hx rfl (hb hby d12_13) rfl (l' := #[.val (.ref d0), .val (.int (0 : Int32)), .val (.ref d1), .val (.int (0 : Int32)), .val (.int (1 : Int32)), .val (.int (0 : Int32)), .val (.int c0)]) rfl k) ?_
  show Wp p e below _ (s₁.setTop (mkF m 15 #[.val (.ref d0), .val (.int (0 : Int32)), .val (.ref d1), .val (.int (0 : Int32)), .val (.int (1 : Int32)), .val (.int (0 : Int32)), .val (.int c0)] []))
  refine Wp.step (fun t k => XS.iload X0.here hx rfl (hb hby d12_15) rfl k) ?_
  show Wp p e below _ (s₁.setTop (mkF m 17 #[.val (.ref d0), .val (.int (0 : Int32)), .val (.ref d1), .val (.int (0 : Int32)), .val (.int (1 : Int32)), .val (.int (0 : Int32)), .val (.int c0)] [(.int c0)]))
  refine Wp.step (fun t k => XS.sipush X0.here hx rfl (hb hby d12_17) k) ?_
  show Wp p e below _ (s₁.setTop (mkF m 20 #[.val (.ref d0), .val (.int (0 : Int32)), .val (.ref d1), .val (.int (0 : Int32)), .val (.int (1 : Int32)), .val (.int (0 : Int32)), .val (.int c0)] [(.int (255 : Int32)), (.int c0)]))
  refine Wp.step (fun t k => XS.icmpNo X0.here hx rfl (hb hby d12_20) rfl (tlt (show (255 : Int32) < c0 from l0)).2.2.2 k) ?_
  show Wp p e below _ (s₁.setTop (mkF m 23 #[.val (.ref d0), .val (.int (0 : Int32)), .val (.ref d1), .val (.int (0 : Int32)), .val (.int (1 : Int32)), .val (.int (0 : Int32)), .val (.int c0)] []))
  refine Wp.step (fun t k => XS.iload X0.here hx rfl (hb hby d12_23) rfl k) ?_
  show Wp p e below _ (s₁.setTop (mkF m 25 #[.val (.ref d0), .val (.int (0 : Int32)), .val (.ref d1), .val (.int (0 : Int32)), .val (.int (1 : Int32)), .val (.int (0 : Int32)), .val (.int c0)] [(.int (0 : Int32))]))
  refine Wp.retI X0 hx Bd.returns (hb hby d12_25) hlk ?_ (by decide) (by decide)
  show Q12_N1 Z d0 (0 : Int32) d1 (0 : Int32) (1 : Int32) c0 c1 g h0 n0 (some (.int (0 : Int32))) s₁.heap _
  rw [e0]
  exact ⟨rfl, N0, K0⟩
theorem pd_285bCI5bBII29I : parseMethodDescriptor "([CI[BII)I" = some ⟨[(.array .char), .int, (.array .byte), .int, .int], some .int⟩ := by decide +kernel
theorem pd_285bCII295bB : parseMethodDescriptor "([CII)[B" = some ⟨[(.array .char), .int, .int], some (.array .byte)⟩ := by decide +kernel
theorem d11_0 : decode jdk_52_method_16_code 0 = .ok (.iload_n 2, 1) := by decide +kernel
theorem d11_1 : decode jdk_52_method_16_code 1 = .ok (.newarray .byte, 2) := by decide +kernel
theorem d11_3 : decode jdk_52_method_16_code 3 = .ok (.astore_n 3, 1) := by decide +kernel
theorem d11_4 : decode jdk_52_method_16_code 4 = .ok (.aload_n 0, 1) := by decide +kernel
theorem d11_5 : decode jdk_52_method_16_code 5 = .ok (.iload_n 1, 1) := by decide +kernel
theorem d11_6 : decode jdk_52_method_16_code 6 = .ok (.aload_n 3, 1) := by decide +kernel
theorem d11_7 : decode jdk_52_method_16_code 7 = .ok (.iconst 0, 1) := by decide +kernel
theorem d11_8 : decode jdk_52_method_16_code 8 = .ok (.iload_n 2, 1) := by decide +kernel
theorem d11_9 : decode jdk_52_method_16_code 9 = .ok (.invokestatic 115, 3) := by decide +kernel
theorem d11_12 : decode jdk_52_method_16_code 12 = .ok (.istore 4, 2) := by decide +kernel
theorem d11_14 : decode jdk_52_method_16_code 14 = .ok (.iload 4, 2) := by decide +kernel
theorem d11_16 : decode jdk_52_method_16_code 16 = .ok (.iload_n 2, 1) := by decide +kernel
theorem d11_17 : decode jdk_52_method_16_code 17 = .ok (.if_icmp .eq 40, 3) := by decide +kernel
theorem d11_20 : decode jdk_52_method_16_code 20 = .ok (.aload_n 0, 1) := by decide +kernel
theorem d11_21 : decode jdk_52_method_16_code 21 = .ok (.iload_n 1, 1) := by decide +kernel
theorem d11_22 : decode jdk_52_method_16_code 22 = .ok (.iload_n 2, 1) := by decide +kernel
theorem d11_23 : decode jdk_52_method_16_code 23 = .ok (.invokestatic 119, 3) := by decide +kernel
theorem d11_26 : decode jdk_52_method_16_code 26 = .ok (.astore 5, 2) := by decide +kernel
theorem d11_28 : decode jdk_52_method_16_code 28 = .ok (.aload 5, 2) := by decide +kernel
theorem d11_30 : decode jdk_52_method_16_code 30 = .ok (.iload 4, 2) := by decide +kernel
theorem d11_32 : decode jdk_52_method_16_code 32 = .ok (.invokestatic 71, 3) := by decide +kernel
theorem d11_35 : decode jdk_52_method_16_code 35 = .ok (.sipush 255, 3) := by decide +kernel
theorem d11_38 : decode jdk_52_method_16_code 38 = .ok (.if_icmp .gt 16, 3) := by decide +kernel
theorem d11_54 : decode jdk_52_method_16_code 54 = .ok (.aload 5, 2) := by decide +kernel
theorem d11_56 : decode jdk_52_method_16_code 56 = .ok (.areturn, 1) := by decide +kernel
theorem d11_57 : decode jdk_52_method_16_code 57 = .ok (.aload_n 3, 1) := by decide +kernel
theorem d11_58 : decode jdk_52_method_16_code 58 = .ok (.areturn, 1) := by decide +kernel
theorem ef_11_000 (m : MethodId) (x0 : Addr) (x1 : Int32) (x2 : Int32) : entryFrame m #[(.ref x0), (.int x1), (.int x2)] 6 = mkF m 0 #[.val (.ref x0), .val (.int x1), .val (.int x2), .unset, .unset, .unset] [] := by first | (simp [entryFrame, mkF, argsToLocals, Value.category]; done) | rfl
def Q11_1 (Z : State) (d0 : Addr) (u0 : Int32) (u1 : Int32) (c0 : Int32) (c1 : Int32) (h0 : Heap) (n0 : Nat) (v : Option Value) (h : Heap) (L : List Loc) : Prop := ∃ (r0 : Addr) (ln : Int32) (cc : Int32) (gg : Nat → Int32), v = some (.ref r0) ∧ Fr n0 L ∧ Keep h0 h [] ∧ h0.size ≤ r0 ∧ own_IA .byte Z h r0 ln gg ∧ own_enc (1 : Int32) ln cc gg (own_ch c0 c1)
set_option maxRecDepth 65536 in
set_option maxHeartbeats 40000000 in
theorem rm11_1 (l : Launch) (Z : State) (a0 : Array Value) (hw : ∀ d ∈ tables_1, d.before a0 Z = true) (ws : List Jvm.Cond) (d0 : Addr) (u0 : Int32) (u1 : Int32) (c0 : Int32) (c1 : Int32) (h0 : Heap) (n0 : Nat) (Z0 : n0 ≤ h0.size) (B_d0 : own_IA .char Z h0 d0 (1 : Int32) (own_ch c0 c1)) (S_assertionsDisabled_1Int32 : Sta Z h0 "java/lang/StringUTF16" "$assertionsDisabled" "Z" (.int (1 : Int32))) (S_HI_BYTE_SHIFT_0Int32 : Sta Z h0 "java/lang/StringUTF16" "HI_BYTE_SHIFT" "I" (.int (0 : Int32))) (S_LO_BYTE_SHIFT_8Int32 : Sta Z h0 "java/lang/StringUTF16" "LO_BYTE_SHIFT" "I" (.int (8 : Int32))) (hu0 : u0 = 0) (hu1 : u1 = 1) (hq0 : own_isC c0) (hq1 : own_isC c1) :
    MetFree l (⟨"java/lang/StringUTF16", "compress", "([CII)[B"⟩ : MethodName) (head1 (Jvm.Cond.code (⟨"java/lang/StringUTF16", "compress", "([CII)[B"⟩ : MethodName) jdk_52_method_16_code 6 (some (.array .byte)) :: ws) ({ frames := 3, cells := 2, slots := 5, locals := 40 } : Room)) (fun a U => a = #[(.ref d0), (.int u0), (.int u1)] ∧ Z.Warmed39 U.vm ∧ U.heap = h0) (fun _ _ _ _ _ => True) (fun _ U o U' => ∃ v L, o = .returned v ∧ Q11_1 Z d0 u0 u1 c0 c1 h0 n0 v U'.heap L ∧ FrameEnd U o U' L ({ frames := 3, cells := 2, slots := 5, locals := 40 } : Room).cells ({ frames := 3, cells := 2, slots := 5, locals := 40 } : Room).slots) := by
  refine MetFree.of_bodySF (plainFor_of_name pn_java_lang_StringUTF16) hisR ?_
  intro p e s m args below meth c s₁ Bd hml0 hP hK
  obtain ⟨rfl, hZ, hh⟩ := hP
  have hx := Bd.exec
  have hby := Bd.bytes
  have hlk : meth.locks = false := Bd.notSynchronized
  have hml : c.maxLocals = 6 := hml0
  have hown : s.vm.findClass "java/lang/StringUTF16" = some m.cls := findClass_of_methodNamed Bd.named
  have hnm := (name_of_methodNamed Bd.named Bd.method).1
  have X0 : Stand p l e ({ frames := 3, cells := 2, slots := 5, locals := 40 } : Room) s m #[(.ref d0), (.int u0), (.int u1)] below meth c s₁ [] 0 0 := Stand.of_body Bd
  have e0 : s₁.heap = h0 := by rw [← hh, Bd.state]; rfl
  have N0 := Fr.nil n0
  have K0 : Keep h0 h0 [] := Keep.refl h0 _
  show Wp p e below (Out s (Q11_1 Z d0 u0 u1 c0 c1 h0 n0) ({ frames := 3, cells := 2, slots := 5, locals := 40 } : Room).cells ({ frames := 3, cells := 2, slots := 5, locals := 40 } : Room).slots) (s₁.setTop (entryFrame m #[(.ref d0), (.int u0), (.int u1)] 6))
  rw [ef_11_000]
  subst hu0 hu1
  show Wp p e below _ (s₁.setTop (mkF m 0 #[.val (.ref d0), .val (.int (0 : Int32)), .val (.int (1 : Int32)), .unset, .unset, .unset] []))
  by_cases l0 : (255 : Int32) < c0
  · refine Wp.step (fun t k => XS.iloadN X0.here hx rfl (hb hby d11_0) rfl k) ?_
    show Wp p e below _ (s₁.setTop (mkF m 1 #[.val (.ref d0), .val (.int (0 : Int32)), .val (.int (1 : Int32)), .unset, .unset, .unset] [(.int (1 : Int32))]))
    obtain ⟨T1, h1, k1, X1, e1, E1, A1, st1⟩ := newP X0 hx hZ (hw _ (List.mem_of_getElem? (i := 19) rfl)) e0 (g := (mkF m 1 #[.val (.ref d0), .val (.int (0 : Int32)), .val (.int (1 : Int32)), .unset, .unset, .unset] [(.int (1 : Int32))])) rfl (hb hby d11_1) rfl (by decide) (cap := 1) (by decide) (by decide) (by decide) (by decide)
    obtain ⟨b1, g1⟩ : ∃ z, z = h0.size := ⟨_, rfl⟩
    rw [← g1] at A1 st1
    have g_b1 : n0 ≤ b1 := Nat.le_trans (Nat.le_trans Z0 K0.1) (Nat.le_of_eq g1.symm)
    have sz_b1 : h0.size ≤ b1 := Nat.le_trans K0.1 (Nat.le_of_eq g1.symm)
    have ne_d0_b1 : d0 ≠ b1 := Nat.ne_of_lt (Nat.lt_of_lt_of_le B_d0.lt (Nat.le_of_eq g1.symm))
    have B2 := B_d0.ext E1
    have c3 := S_assertionsDisabled_1Int32.ext E1
    have c4 := S_HI_BYTE_SHIFT_0Int32.ext E1
    have c5 := S_LO_BYTE_SHIFT_8Int32.ext E1
    have K6 := K0.ext E1
    have Z1 : (newA k1 .byte (1 : Int32)).slots.size = ((1 : Int32)).toNatClampNeg := sz_new _ _ _
    have nn1 : ¬ (1 : Int32) < 0 := (by decide)
    refine Wp.step st1 ?_
    have B1 := own_IA.new A1 nn1 rfl
    show Wp p e below _ (T1.setTop (mkF m 3 #[.val (.ref d0), .val (.int (0 : Int32)), .val (.int (1 : Int32)), .unset, .unset, .unset] [(.ref b1)]))
    refine Wp.step (fun t k => XS.astoreN X1.here hx rfl (hb hby d11_3) rfl rfl (l' := #[.val (.ref d0), .val (.int (0 : Int32)), .val (.int (1 : Int32)), .val (.ref b1), .unset, .unset]) rfl k) ?_
    show Wp p e below _ (T1.setTop (mkF m 4 #[.val (.ref d0), .val (.int (0 : Int32)), .val (.int (1 : Int32)), .val (.ref b1), .unset, .unset] []))
    refine Wp.step (fun t k => XS.aloadN X1.here hx rfl (hb hby d11_4) rfl rfl k) ?_
    show Wp p e below _ (T1.setTop (mkF m 5 #[.val (.ref d0), .val (.int (0 : Int32)), .val (.int (1 : Int32)), .val (.ref b1), .unset, .unset] [(.ref d0)]))
    refine Wp.step (fun t k => XS.iloadN X1.here hx rfl (hb hby d11_5) rfl k) ?_
    show Wp p e below _ (T1.setTop (mkF m 6 #[.val (.ref d0), .val (.int (0 : Int32)), .val (.int (1 : Int32)), .val (.ref b1), .unset, .unset] [(.int (0 : Int32)), (.ref d0)]))
    refine Wp.step (fun t k => XS.aloadN X1.here hx rfl (hb hby d11_6) rfl rfl k) ?_
    show Wp p e below _ (T1.setTop (mkF m 7 #[.val (.ref d0), .val (.int (0 : Int32)), .val (.int (1 : Int32)), .val (.ref b1), .unset, .unset] [(.ref b1), (.int (0 : Int32)), (.ref d0)]))
    refine Wp.step (fun t k => XS.iconst X1.here hx rfl (hb hby d11_7) k) ?_
    show Wp p e below _ (T1.setTop (mkF m 8 #[.val (.ref d0), .val (.int (0 : Int32)), .val (.int (1 : Int32)), .val (.ref b1), .unset, .unset] [(.int (0 : Int32)), (.ref b1), (.int (0 : Int32)), (.ref d0)]))
    refine Wp.step (fun t k => XS.iloadN X1.here hx rfl (hb hby d11_8) rfl k) ?_
    show Wp p e below _ (T1.setTop (mkF m 9 #[.val (.ref d0), .val (.int (0 : Int32)), .val (.int (1 : Int32)), .val (.ref b1), .unset, .unset] [(.int (1 : Int32)), (.int (0 : Int32)), (.ref b1), (.int (0 : Int32)), (.ref d0)]))
    obtain ⟨_, _, ⟨T7, L7, k7, n7⟩, -, X7, ⟨Lc7, hQ7, l7, y7, z7⟩, st7⟩ := Jvm.LawKit.callS X1 hx (y := (⟨"java/lang/StringUTF16", "compress", "([CI[BII)I"⟩ : MethodName)) hown (mvT hZ (hw _ (List.mem_of_getElem? (i := 56) rfl))) (mvT hZ (hw _ (List.mem_of_getElem? (i := 57) rfl))) (mvT hZ (hw _ (List.mem_of_getElem? (i := 54) rfl))) (mvT hZ (hw _ (List.mem_of_getElem? (i := 58) rfl))) (by decide) (backOf (W := 0) (rm12_N1 l Z a0 hw [] d0 (0 : Int32) b1 (0 : Int32) (1 : Int32) c0 c1 (fun _ => (0 : Int32)) h1 n0 (Nat.le_trans Z0 K6.1) g_b1 B2 B1 rfl rfl rfl ne_d0_b1 l0) hZ (hw _ (List.mem_of_getElem? (i := 58) rfl)) (hw _ (List.mem_of_getElem? (i := 54) rfl)) (by decide) (by decide)) (g := (mkF m 9 #[.val (.ref d0), .val (.int (0 : Int32)), .val (.int (1 : Int32)), .val (.ref b1), .unset, .unset] [(.int (1 : Int32)), (.int (0 : Int32)), (.ref b1), (.int (0 : Int32)), (.ref d0)])) rfl (by rw [hml]; rfl) (argsL := [(.ref d0), (.int (0 : Int32)), (.ref b1), (.int (0 : Int32)), (.int (1 : Int32))]) (rest := []) (lenOf pd_285bCI5bBII29I rfl) rfl (by show 2 * 0 + _ ≤ _; exact Nat.le_of_eq rfl) (hb hby d11_9) (fun _ _ => ⟨rfl, e1, (by decide : 1 + 0 ≤ _), (by decide : 1 + 0 ≤ _)⟩)
    dsimp only [Pt.U, Pt.locs, Pt.cells, Pt.slots] at X7 l7 y7 z7 st7 hQ7
    subst l7 y7 z7
    obtain ⟨h7, e7⟩ : ∃ z, T7.heap = z := ⟨_, rfl⟩
    rw [e7] at hQ7
    obtain ⟨rfl, N7q, Kc7⟩ := hQ7
    have N7 := Fr.app N0 N7q
    have B8 := B2.keep Kc7 (ninS ne_d0_b1 nin0)
    have c9 := own_sta_keep c3 Kc7 (allS (own_nsB B1) all0)
    have c10 := own_sta_keep c4 Kc7 (allS (own_nsB B1) all0)
    have c11 := own_sta_keep c5 Kc7 (allS (own_nsB B1) all0)
    have K7 := K6.trans Kc7 (allS (Or.inr sz_b1) all0)
    refine Wp.step st7 ?_
    show Wp p e below _ (T7.setTop (mkF m 12 #[.val (.ref d0), .val (.int (0 : Int32)), .val (.int (1 : Int32)), .val (.ref b1), .unset, .unset] [(.int (0 : Int32))]))
    refine Wp.step (fun t k => XS.istore X7.here hx rfl (hb hby d11_12) rfl (l' := #[.val (.ref d0), .val (.int (0 : Int32)), .val (.int (1 : Int32)), .val (.ref b1), .val (.int (0 : Int32)), .unset]) rfl k) ?_
    show Wp p e below _ (T7.setTop (mkF m 14 #[.val (.ref d0), .val (.int (0 : Int32)), .val (.int (1 : Int32)), .val (.ref b1), .val (.int (0 : Int32)), .unset] []))
    refine Wp.step (fun t k => XS.iload X7.here hx rfl (hb hby d11_14) rfl k) ?_
    show Wp p e below _ (T7.setTop (mkF m 16 #[.val (.ref d0), .val (.int (0 : Int32)), .val (.int (1 : Int32)), .val (.ref b1), .val (.int (0 : Int32)), .unset] [(.int (0 : Int32))]))
    refine Wp.step (fun t k => XS.iloadN X7.here hx rfl (hb hby d11_16) rfl k) ?_
    show Wp p e below _ (T7.setTop (mkF m 17 #[.val (.ref d0), .val (.int (0 : Int32)), .val (.int (1 : Int32)), .val (.ref b1), .val (.int (0 : Int32)), .unset] [(.int (1 : Int32)), (.int (0 : Int32))]))
    refine Wp.step (fun t k => XS.icmpNo X7.here hx rfl (hb hby d11_17) rfl (feq (show ¬ ((0 : Int32) = (1 : Int32)) by decide)).1 k) ?_
    show Wp p e below _ (T7.setTop (mkF m 20 #[.val (.ref d0), .val (.int (0 : Int32)), .val (.int (1 : Int32)), .val (.ref b1), .val (.int (0 : Int32)), .unset] []))
    refine Wp.step (fun t k => XS.aloadN X7.here hx rfl (hb hby d11_20) rfl rfl k) ?_
    show Wp p e below _ (T7.setTop (mkF m 21 #[.val (.ref d0), .val (.int (0 : Int32)), .val (.int (1 : Int32)), .val (.ref b1), .val (.int (0 : Int32)), .unset] [(.ref d0)]))
    refine Wp.step (fun t k => XS.iloadN X7.here hx rfl (hb hby d11_21) rfl k) ?_
    show Wp p e below _ (T7.setTop (mkF m 22 #[.val (.ref d0), .val (.int (0 : Int32)), .val (.int (1 : Int32)), .val (.ref b1), .val (.int (0 : Int32)), .unset] [(.int (0 : Int32)), (.ref d0)]))
    refine Wp.step (fun t k => XS.iloadN X7.here hx rfl (hb hby d11_22) rfl k) ?_
    show Wp p e below _ (T7.setTop (mkF m 23 #[.val (.ref d0), .val (.int (0 : Int32)), .val (.int (1 : Int32)), .val (.ref b1), .val (.int (0 : Int32)), .unset] [(.int (1 : Int32)), (.int (0 : Int32)), (.ref d0)]))
    obtain ⟨_, _, ⟨T14, L14, k14, n14⟩, -, X14, ⟨Lc14, hQ14, l14, y14, z14⟩, st14⟩ := Jvm.LawKit.callS X7 hx (y := (⟨"java/lang/StringUTF16", "toBytes", "([CII)[B"⟩ : MethodName)) hown (mvT hZ (hw _ (List.mem_of_getElem? (i := 93) rfl))) (mvT hZ (hw _ (List.mem_of_getElem? (i := 94) rfl))) (mvT hZ (hw _ (List.mem_of_getElem? (i := 54) rfl))) (mvT hZ (hw _ (List.mem_of_getElem? (i := 95) rfl))) (by decide) (backOf (W := 0) (rm21_1 l Z a0 hw [] d0 (0 : Int32) (1 : Int32) c0 c1 h7 n0 (Nat.le_trans Z0 K7.1) B8 c9 c10 c11 rfl rfl) hZ (hw _ (List.mem_of_getElem? (i := 95) rfl)) (hw _ (List.mem_of_getElem? (i := 54) rfl)) (by decide) (by decide)) (g := (mkF m 23 #[.val (.ref d0), .val (.int (0 : Int32)), .val (.int (1 : Int32)), .val (.ref b1), .val (.int (0 : Int32)), .unset] [(.int (1 : Int32)), (.int (0 : Int32)), (.ref d0)])) rfl (by rw [hml]; rfl) (argsL := [(.ref d0), (.int (0 : Int32)), (.int (1 : Int32))]) (rest := []) (lenOf pd_285bCII295bB rfl) rfl (by show 2 * 0 + _ ≤ _; exact Nat.le_of_eq rfl) (hb hby d11_23) (fun _ _ => ⟨rfl, e7, (by decide : 1 + 1 ≤ _), (by decide : 1 + 4 ≤ _)⟩)
    dsimp only [Pt.U, Pt.locs, Pt.cells, Pt.slots] at X14 l14 y14 z14 st14 hQ14
    subst l14 y14 z14
    obtain ⟨h14, e14⟩ : ∃ z, T14.heap = z := ⟨_, rfl⟩
    rw [e14] at hQ14
    obtain ⟨r14, rfl, N14q, Kc14, sz14, o14_0⟩ := hQ14
    have N14 := Fr.app N7 N14q
    have g_r14 : n0 ≤ r14 := Nat.le_trans (Nat.le_trans Z0 K7.1) sz14
    have sz_r14 : h0.size ≤ r14 := Nat.le_trans K7.1 sz14
    have ne_d0_r14 : d0 ≠ r14 := Nat.ne_of_lt (Nat.lt_of_lt_of_le B8.lt sz14)
    have B15 := B8.keep Kc14 nin0
    have c16 := own_sta_keep c9 Kc14 all0
    have c17 := own_sta_keep c10 Kc14 all0
    have c18 := own_sta_keep c11 Kc14 all0
    have K14 := K7.trans Kc14 all0
    refine Wp.step st14 ?_
    show Wp p e below _ (T14.setTop (mkF m 26 #[.val (.ref d0), .val (.int (0 : Int32)), .val (.int (1 : Int32)), .val (.ref b1), .val (.int (0 : Int32)), .unset] [(.ref r14)]))
    refine Wp.step (fun t k => XS.astore X14.here hx rfl (hb hby d11_26) rfl rfl (l' := #[.val (.ref d0), .val (.int (0 : Int32)), .val (.int (1 : Int32)), .val (.ref b1), .val (.int (0 : Int32)), .val (.ref r14)]) rfl k) ?_
    show Wp p e below _ (T14.setTop (mkF m 28 #[.val (.ref d0), .val (.int (0 : Int32)), .val (.int (1 : Int32)), .val (.ref b1), .val (.int (0 : Int32)), .val (.ref r14)] []))
    refine Wp.step (fun t k => XS.aload X14.here hx rfl (hb hby d11_28) rfl rfl k) ?_
    show Wp p e below _ (T14.setTop (mkF m 30 #[.val (.ref d0), .val (.int (0 : Int32)), .val (.int (1 : Int32)), .val (.ref b1), .val (.int (0 : Int32)), .val (.ref r14)] [(.ref r14)]))
    refine Wp.step (fun t k => XS.iload X14.here hx rfl (hb hby d11_30) rfl k) ?_
    show Wp p e below _ (T14.setTop (mkF m 32 #[.val (.ref d0), .val (.int (0 : Int32)), .val (.int (1 : Int32)), .val (.ref b1), .val (.int (0 : Int32)), .val (.ref r14)] [(.int (0 : Int32)), (.ref r14)]))
    obtain ⟨_, _, ⟨T19, L19, k19, n19⟩, -, X19, ⟨Lc19, hQ19, l19, y19, z19⟩, st19⟩ := Jvm.LawKit.callS X14 hx (y := (⟨"java/lang/StringUTF16", "getChar", "([BI)C"⟩ : MethodName)) hown (mvT hZ (hw _ (List.mem_of_getElem? (i := 109) rfl))) (mvT hZ (hw _ (List.mem_of_getElem? (i := 110) rfl))) (mvT hZ (hw _ (List.mem_of_getElem? (i := 54) rfl))) (mvT hZ (hw _ (List.mem_of_getElem? (i := 111) rfl))) (by decide) (backOf (W := 0) (rm25 l Z a0 hw [] r14 (0 : Int32) (2 : Int32) (own_pc (fun _ => (0 : Int32)) (0 : Int32) c0) h14 n0 (Nat.le_trans Z0 K14.1) o14_0 c16 c17 c18 (by decide) (by decide)) hZ (hw _ (List.mem_of_getElem? (i := 111) rfl)) (hw _ (List.mem_of_getElem? (i := 54) rfl)) (by decide) (by decide)) (g := (mkF m 32 #[.val (.ref d0), .val (.int (0 : Int32)), .val (.int (1 : Int32)), .val (.ref b1), .val (.int (0 : Int32)), .val (.ref r14)] [(.int (0 : Int32)), (.ref r14)])) rfl (by rw [hml]; rfl) (argsL := [(.ref r14), (.int (0 : Int32))]) (rest := []) (lenOf pd_285bBI29C rfl) rfl (by show 2 * 0 + _ ≤ _; exact Nat.le_of_eq rfl) (hb hby d11_32) (fun _ _ => ⟨rfl, e14, (by decide : 2 + 0 ≤ _), (by decide : 5 + 0 ≤ _)⟩)
    dsimp only [Pt.U, Pt.locs, Pt.cells, Pt.slots] at X19 l19 y19 z19 st19 hQ19
    subst l19 y19 z19
    obtain ⟨rfl, N19q, e19⟩ := hQ19
    have N19 := Fr.app N14 N19q
    refine Wp.step st19 ?_
    show Wp p e below _ (T19.setTop (mkF m 35 #[.val (.ref d0), .val (.int (0 : Int32)), .val (.int (1 : Int32)), .val (.ref b1), .val (.int (0 : Int32)), .val (.ref r14)] [(.int (own_gc (own_pc (fun _ => (0 : Int32)) (0 : Int32) c0) (0 : Int32)))]))
    refine Wp.step (fun t k => XS.sipush X19.here hx rfl (hb hby d11_35) k) ?_
    show Wp p e below _ (T19.setTop (mkF m 38 #[.val (.ref d0), .val (.int (0 : Int32)), .val (.int (1 : Int32)), .val (.ref b1), .val (.int (0 : Int32)), .val (.ref r14)] [(.int (255 : Int32)), (.int (own_gc (own_pc (fun _ => (0 : Int32)) (0 : Int32) c0) (0 : Int32)))]))
    refine Wp.step (fun t k => XS.icmpYes X19.here hx rfl (pc0 := 38) (pc' := 54) rfl (hb hby d11_38) rfl (tlt (show (255 : Int32) < (own_gc (own_pc (fun _ => (0 : Int32)) (0 : Int32) c0) (0 : Int32)) from (by rw [own_gc_pc (by assumption) (Or.inl rfl)]; exact l0))).2.2.1 (by decide) (by decide) k) ?_
    show Wp p e below _ (T19.setTop (mkF m 54 #[.val (.ref d0), .val (.int (0 : Int32)), .val (.int (1 : Int32)), .val (.ref b1), .val (.int (0 : Int32)), .val (.ref r14)] []))
    refine Wp.step (fun t k => XS.aload X19.here hx rfl (hb hby d11_54) rfl rfl k) ?_
    show Wp p e below _ (T19.setTop (mkF m 56 #[.val (.ref d0), .val (.int (0 : Int32)), .val (.int (1 : Int32)), .val (.ref b1), .val (.int (0 : Int32)), .val (.ref r14)] [(.ref r14)]))
    refine Wp.retA X19 hx Bd.returns rfl (hb hby d11_56) hlk ?_ (by decide) (by decide)
    show Q11_1 Z d0 (0 : Int32) (1 : Int32) c0 c1 h0 n0 (some (.ref r14)) T19.heap _
    rw [e19]
    exact ⟨r14, (2 : Int32), (1 : Int32), (own_pc (fun _ => (0 : Int32)) (0 : Int32) c0), rfl, N19, K14, sz_r14, o14_0, (own_encU1 hq0)⟩
  · refine Wp.step (fun t k => XS.iloadN X0.here hx rfl (hb hby d11_0) rfl k) ?_
    show Wp p e below _ (s₁.setTop (mkF m 1 #[.val (.ref d0), .val (.int (0 : Int32)), .val (.int (1 : Int32)), .unset, .unset, .unset] [(.int (1 : Int32))]))
    obtain ⟨T21, h21, k21, X21, e21, E21, A21, st21⟩ := newP X0 hx hZ (hw _ (List.mem_of_getElem? (i := 19) rfl)) e0 (g := (mkF m 1 #[.val (.ref d0), .val (.int (0 : Int32)), .val (.int (1 : Int32)), .unset, .unset, .unset] [(.int (1 : Int32))])) rfl (hb hby d11_1) rfl (by decide) (cap := 1) (by decide) (by decide) (by decide) (by decide)
    obtain ⟨b21, g21⟩ : ∃ z, z = h0.size := ⟨_, rfl⟩
    rw [← g21] at A21 st21
    have g_b21 : n0 ≤ b21 := Nat.le_trans (Nat.le_trans Z0 K0.1) (Nat.le_of_eq g21.symm)
    have sz_b21 : h0.size ≤ b21 := Nat.le_trans K0.1 (Nat.le_of_eq g21.symm)
    have ne_d0_b21 : d0 ≠ b21 := Nat.ne_of_lt (Nat.lt_of_lt_of_le B_d0.lt (Nat.le_of_eq g21.symm))
    have B22 := B_d0.ext E21
    have c23 := S_assertionsDisabled_1Int32.ext E21
    have c24 := S_HI_BYTE_SHIFT_0Int32.ext E21
    have c25 := S_LO_BYTE_SHIFT_8Int32.ext E21
    have K26 := K0.ext E21
    have Z21 : (newA k21 .byte (1 : Int32)).slots.size = ((1 : Int32)).toNatClampNeg := sz_new _ _ _
    have nn21 : ¬ (1 : Int32) < 0 := (by decide)
    refine Wp.step st21 ?_
    have B21 := own_IA.new A21 nn21 rfl
    show Wp p e below _ (T21.setTop (mkF m 3 #[.val (.ref d0), .val (.int (0 : Int32)), .val (.int (1 : Int32)), .unset, .unset, .unset] [(.ref b21)]))
    refine Wp.step (fun t k => XS.astoreN X21.here hx rfl (hb hby d11_3) rfl rfl (l' := #[.val (.ref d0), .val (.int (0 : Int32)), .val (.int (1 : Int32)), .val (.ref b21), .unset, .unset]) rfl k) ?_
    show Wp p e below _ (T21.setTop (mkF m 4 #[.val (.ref d0), .val (.int (0 : Int32)), .val (.int (1 : Int32)), .val (.ref b21), .unset, .unset] []))
    refine Wp.step (fun t k => XS.aloadN X21.here hx rfl (hb hby d11_4) rfl rfl k) ?_
    show Wp p e below _ (T21.setTop (mkF m 5 #[.val (.ref d0), .val (.int (0 : Int32)), .val (.int (1 : Int32)), .val (.ref b21), .unset, .unset] [(.ref d0)]))
    refine Wp.step (fun t k => XS.iloadN X21.here hx rfl (hb hby d11_5) rfl k) ?_
    show Wp p e below _ (T21.setTop (mkF m 6 #[.val (.ref d0), .val (.int (0 : Int32)), .val (.int (1 : Int32)), .val (.ref b21), .unset, .unset] [(.int (0 : Int32)), (.ref d0)]))
    refine Wp.step (fun t k => XS.aloadN X21.here hx rfl (hb hby d11_6) rfl rfl k) ?_
    show Wp p e below _ (T21.setTop (mkF m 7 #[.val (.ref d0), .val (.int (0 : Int32)), .val (.int (1 : Int32)), .val (.ref b21), .unset, .unset] [(.ref b21), (.int (0 : Int32)), (.ref d0)]))
    refine Wp.step (fun t k => XS.iconst X21.here hx rfl (hb hby d11_7) k) ?_
    show Wp p e below _ (T21.setTop (mkF m 8 #[.val (.ref d0), .val (.int (0 : Int32)), .val (.int (1 : Int32)), .val (.ref b21), .unset, .unset] [(.int (0 : Int32)), (.ref b21), (.int (0 : Int32)), (.ref d0)]))
    refine Wp.step (fun t k => XS.iloadN X21.here hx rfl (hb hby d11_8) rfl k) ?_
    show Wp p e below _ (T21.setTop (mkF m 9 #[.val (.ref d0), .val (.int (0 : Int32)), .val (.int (1 : Int32)), .val (.ref b21), .unset, .unset] [(.int (1 : Int32)), (.int (0 : Int32)), (.ref b21), (.int (0 : Int32)), (.ref d0)]))
    obtain ⟨_, _, ⟨T27, L27, k27, n27⟩, -, X27, ⟨Lc27, hQ27, l27, y27, z27⟩, st27⟩ := Jvm.LawKit.callS X21 hx (y := (⟨"java/lang/StringUTF16", "compress", "([CI[BII)I"⟩ : MethodName)) hown (mvT hZ (hw _ (List.mem_of_getElem? (i := 56) rfl))) (mvT hZ (hw _ (List.mem_of_getElem? (i := 57) rfl))) (mvT hZ (hw _ (List.mem_of_getElem? (i := 54) rfl))) (mvT hZ (hw _ (List.mem_of_getElem? (i := 58) rfl))) (by decide) (backOf (W := 0) (rm12_L1 l Z a0 hw [] d0 (0 : Int32) b21 (0 : Int32) (1 : Int32) c0 c1 (fun _ => (0 : Int32)) h21 n0 (Nat.le_trans Z0 K26.1) g_b21 B22 B21 rfl rfl rfl ne_d0_b21 l0) hZ (hw _ (List.mem_of_getElem? (i := 58) rfl)) (hw _ (List.mem_of_getElem? (i := 54) rfl)) (by decide) (by decide)) (g := (mkF m 9 #[.val (.ref d0), .val (.int (0 : Int32)), .val (.int (1 : Int32)), .val (.ref b21), .unset, .unset] [(.int (1 : Int32)), (.int (0 : Int32)), (.ref b21), (.int (0 : Int32)), (.ref d0)])) rfl (by rw [hml]; rfl) (argsL := [(.ref d0), (.int (0 : Int32)), (.ref b21), (.int (0 : Int32)), (.int (1 : Int32))]) (rest := []) (lenOf pd_285bCI5bBII29I rfl) rfl (by show 2 * 0 + _ ≤ _; exact Nat.le_of_eq rfl) (hb hby d11_9) (fun _ _ => ⟨rfl, e21, (by decide : 1 + 0 ≤ _), (by decide : 1 + 0 ≤ _)⟩)
    dsimp only [Pt.U, Pt.locs, Pt.cells, Pt.slots] at X27 l27 y27 z27 st27 hQ27
    subst l27 y27 z27
    obtain ⟨h27, e27⟩ : ∃ z, T27.heap = z := ⟨_, rfl⟩
    rw [e27] at hQ27
    obtain ⟨rfl, N27q, Kc27, o27_0⟩ := hQ27
    have N27 := Fr.app N0 N27q
    have B28 := B22.keep Kc27 (ninS ne_d0_b21 nin0)
    have c29 := own_sta_keep c23 Kc27 (allS (own_nsB B21) all0)
    have c30 := own_sta_keep c24 Kc27 (allS (own_nsB B21) all0)
    have c31 := own_sta_keep c25 Kc27 (allS (own_nsB B21) all0)
    have K27 := K26.trans Kc27 (allS (Or.inr sz_b21) all0)
    refine Wp.step st27 ?_
    show Wp p e below _ (T27.setTop (mkF m 12 #[.val (.ref d0), .val (.int (0 : Int32)), .val (.int (1 : Int32)), .val (.ref b21), .unset, .unset] [(.int (1 : Int32))]))
    refine Wp.step (fun t k => XS.istore X27.here hx rfl (hb hby d11_12) rfl (l' := #[.val (.ref d0), .val (.int (0 : Int32)), .val (.int (1 : Int32)), .val (.ref b21), .val (.int (1 : Int32)), .unset]) rfl k) ?_
    show Wp p e below _ (T27.setTop (mkF m 14 #[.val (.ref d0), .val (.int (0 : Int32)), .val (.int (1 : Int32)), .val (.ref b21), .val (.int (1 : Int32)), .unset] []))
    refine Wp.step (fun t k => XS.iload X27.here hx rfl (hb hby d11_14) rfl k) ?_
    show Wp p e below _ (T27.setTop (mkF m 16 #[.val (.ref d0), .val (.int (0 : Int32)), .val (.int (1 : Int32)), .val (.ref b21), .val (.int (1 : Int32)), .unset] [(.int (1 : Int32))]))
    refine Wp.step (fun t k => XS.iloadN X27.here hx rfl (hb hby d11_16) rfl k) ?_
    show Wp p e below _ (T27.setTop (mkF m 17 #[.val (.ref d0), .val (.int (0 : Int32)), .val (.int (1 : Int32)), .val (.ref b21), .val (.int (1 : Int32)), .unset] [(.int (1 : Int32)), (.int (1 : Int32))]))
    refine Wp.step (fun t k => XS.icmpYes X27.here hx rfl (pc0 := 17) (pc' := 57) rfl (hb hby d11_17) rfl (teq (show (1 : Int32) = (1 : Int32) by decide)).1 (by decide) (by decide) k) ?_
    show Wp p e below _ (T27.setTop (mkF m 57 #[.val (.ref d0), .val (.int (0 : Int32)), .val (.int (1 : Int32)), .val (.ref b21), .val (.int (1 : Int32)), .unset] []))
    refine Wp.step (fun t k => XS.aloadN X27.here hx rfl (hb hby d11_57) rfl rfl k) ?_
    show Wp p e below _ (T27.setTop (mkF m 58 #[.val (.ref d0), .val (.int (0 : Int32)), .val (.int (1 : Int32)), .val (.ref b21), .val (.int (1 : Int32)), .unset] [(.ref b21)]))
    refine Wp.retA X27 hx Bd.returns rfl (hb hby d11_58) hlk ?_ (by decide) (by decide)
    show Q11_1 Z d0 (0 : Int32) (1 : Int32) c0 c1 h0 n0 (some (.ref b21)) T27.heap _
    rw [e27]
    exact ⟨b21, (1 : Int32), (0 : Int32), (own_bc (fun _ => (0 : Int32)) (0 : Int32) c0), rfl, N27, K27, sz_b21, o27_0, (own_encL1 hq0 l0)⟩
theorem pd_285bBI29B : parseMethodDescriptor "([BI)B" = some ⟨[(.array .byte), .int], some .byte⟩ := by decide +kernel
theorem d3_0 : decode jdk_42_method_149_code 0 = .ok (.aload_n 0, 1) := by decide +kernel
theorem d3_1 : decode jdk_42_method_149_code 1 = .ok (.invokespecial 1, 3) := by decide +kernel
theorem d3_4 : decode jdk_42_method_149_code 4 = .ok (.iload_n 3, 1) := by decide +kernel
theorem d3_5 : decode jdk_42_method_149_code 5 = .ok (.ifCond .ne 22, 3) := by decide +kernel
theorem d3_27 : decode jdk_42_method_149_code 27 = .ok (.getstatic 38, 3) := by decide +kernel
theorem d3_30 : decode jdk_42_method_149_code 30 = .ok (.ifCond .eq 28, 3) := by decide +kernel
theorem d3_33 : decode jdk_42_method_149_code 33 = .ok (.aload_n 1, 1) := by decide +kernel
theorem d3_34 : decode jdk_42_method_149_code 34 = .ok (.iload_n 2, 1) := by decide +kernel
theorem d3_35 : decode jdk_42_method_149_code 35 = .ok (.iload_n 3, 1) := by decide +kernel
theorem d3_36 : decode jdk_42_method_149_code 36 = .ok (.invokestatic 177, 3) := by decide +kernel
theorem d3_39 : decode jdk_42_method_149_code 39 = .ok (.astore 5, 2) := by decide +kernel
theorem d3_41 : decode jdk_42_method_149_code 41 = .ok (.aload_n 0, 1) := by decide +kernel
theorem d3_42 : decode jdk_42_method_149_code 42 = .ok (.aload 5, 2) := by decide +kernel
theorem d3_44 : decode jdk_42_method_149_code 44 = .ok (.iload_n 3, 1) := by decide +kernel
theorem d3_45 : decode jdk_42_method_149_code 45 = .ok (.invokestatic 47, 3) := by decide +kernel
theorem d3_48 : decode jdk_42_method_149_code 48 = .ok (.putfield 15, 3) := by decide +kernel
theorem d3_51 : decode jdk_42_method_149_code 51 = .ok (.aload_n 0, 1) := by decide +kernel
theorem d3_52 : decode jdk_42_method_149_code 52 = .ok (.aload 5, 2) := by decide +kernel
theorem d3_54 : decode jdk_42_method_149_code 54 = .ok (.putfield 9, 3) := by decide +kernel
theorem d3_57 : decode jdk_42_method_149_code 57 = .ok (.return_, 1) := by decide +kernel
theorem ef_3_00001 (m : MethodId) (x0 : Addr) (x1 : Addr) (x2 : Int32) (x3 : Int32) : entryFrame m #[(.ref x0), (.ref x1), (.int x2), (.int x3), .null] 6 = mkF m 0 #[.val (.ref x0), .val (.ref x1), .val (.int x2), .val (.int x3), .val .null, .unset] [] := by first | (simp [entryFrame, mkF, argsToLocals, Value.category]; done) | rfl
def Q3_1 (Z : State) (d0 : Addr) (d1 : Addr) (u0 : Int32) (u1 : Int32) (c0 : Int32) (c1 : Int32) (cs : Int32) (h0 : Heap) (n0 : Nat) (v : Option Value) (h : Heap) (L : List Loc) : Prop := v = none ∧ Fr n0 L ∧ Keep h0 h [d0] ∧ own_S Z h d0 (1 : Int32) (own_ch c0 c1)
set_option maxRecDepth 65536 in
set_option maxHeartbeats 40000000 in
theorem rm3_1 (l : Launch) (Z : State) (a0 : Array Value) (hw : ∀ d ∈ tables_1, d.before a0 Z = true) (ws : List Jvm.Cond) (d0 : Addr) (d1 : Addr) (u0 : Int32) (u1 : Int32) (c0 : Int32) (c1 : Int32) (cs : Int32) (h0 : Heap) (n0 : Nat) (Z0 : n0 ≤ h0.size) (g_d0 : n0 ≤ d0) (E_d0 : Exa Z h0 d0 "java/lang/String") (F_value_d0 : Fld Z h0 d0 "java/lang/String" "value" "[B" .null) (F_coder_d0 : Fld Z h0 d0 "java/lang/String" "coder" "B" (.int (0 : Int32))) (B_d1 : own_IA .char Z h0 d1 (1 : Int32) (own_ch c0 c1)) (S_COMPACT_STRINGS_cs : Sta Z h0 "java/lang/String" "COMPACT_STRINGS" "Z" (.int cs)) (S_assertionsDisabled_1Int32 : Sta Z h0 "java/lang/StringUTF16" "$assertionsDisabled" "Z" (.int (1 : Int32))) (S_HI_BYTE_SHIFT_0Int32 : Sta Z h0 "java/lang/StringUTF16" "HI_BYTE_SHIFT" "I" (.int (0 : Int32))) (S_LO_BYTE_SHIFT_8Int32 : Sta Z h0 "java/lang/StringUTF16" "LO_BYTE_SHIFT" "I" (.int (8 : Int32))) (hu0 : u0 = 0) (hu1 : u1 = 1) (hda : d1 ≠ d0) (hq0 : own_isC c0) (hq1 : own_isC c1) (hcs : ¬ cs = 0) :
    MetFree l (⟨"java/lang/String", "<init>", "([CIILjava/lang/Void;)V"⟩ : MethodName) (head1 (Jvm.Cond.code (⟨"java/lang/String", "<init>", "([CIILjava/lang/Void;)V"⟩ : MethodName) jdk_42_method_149_code 6 none :: ws) ({ frames := 4, cells := 2, slots := 5, locals := 57 } : Room)) (fun a U => a = #[(.ref d0), (.ref d1), (.int u0), (.int u1), .null] ∧ Z.Warmed39 U.vm ∧ U.heap = h0) (fun _ _ _ _ _ => True) (fun _ U o U' => ∃ v L, o = .returned v ∧ Q3_1 Z d0 d1 u0 u1 c0 c1 cs h0 n0 v U'.heap L ∧ FrameEnd U o U' L ({ frames := 4, cells := 2, slots := 5, locals := 57 } : Room).cells ({ frames := 4, cells := 2, slots := 5, locals := 57 } : Room).slots) := by
  refine MetFree.of_bodySF (plainFor_of_name pn_java_lang_String) hisR ?_
  intro p e s m args below meth c s₁ Bd hml0 hP hK
  obtain ⟨rfl, hZ, hh⟩ := hP
  have hx := Bd.exec
  have hby := Bd.bytes
  have hlk : meth.locks = false := Bd.notSynchronized
  have hml : c.maxLocals = 6 := hml0
  have hown : s.vm.findClass "java/lang/String" = some m.cls := findClass_of_methodNamed Bd.named
  have hnm := (name_of_methodNamed Bd.named Bd.method).1
  have X0 : Stand p l e ({ frames := 4, cells := 2, slots := 5, locals := 57 } : Room) s m #[(.ref d0), (.ref d1), (.int u0), (.int u1), .null] below meth c s₁ [] 0 0 := Stand.of_body Bd
  have e0 : s₁.heap = h0 := by rw [← hh, Bd.state]; rfl
  have N0 := Fr.nil n0
  have K0 : Keep h0 h0 [d0] := Keep.refl h0 _
  show Wp p e below (Out s (Q3_1 Z d0 d1 u0 u1 c0 c1 cs h0 n0) ({ frames := 4, cells := 2, slots := 5, locals := 57 } : Room).cells ({ frames := 4, cells := 2, slots := 5, locals := 57 } : Room).slots) (s₁.setTop (entryFrame m #[(.ref d0), (.ref d1), (.int u0), (.int u1), .null] 6))
  rw [ef_3_00001]
  subst hu0 hu1
  show Wp p e below _ (s₁.setTop (mkF m 0 #[.val (.ref d0), .val (.ref d1), .val (.int (0 : Int32)), .val (.int (1 : Int32)), .val .null, .unset] []))
  refine Wp.step (fun t k => XS.aloadN X0.here hx rfl (hb hby d3_0) rfl rfl k) ?_
  show Wp p e below _ (s₁.setTop (mkF m 1 #[.val (.ref d0), .val (.ref d1), .val (.int (0 : Int32)), .val (.int (1 : Int32)), .val .null, .unset] [(.ref d0)]))
  obtain ⟨T1, X1, e1, st1⟩ := initO X0 hx hZ hown (hw _ (List.mem_of_getElem? (i := 15) rfl)) (hw _ (List.mem_of_getElem? (i := 16) rfl)) (hw _ (List.mem_of_getElem? (i := 17) rfl)) e0 (g := (mkF m 1 #[.val (.ref d0), .val (.ref d1), .val (.int (0 : Int32)), .val (.int (1 : Int32)), .val .null, .unset] [(.ref d0)])) rfl (by rw [hml]; rfl) rfl (hb hby d3_1) (by decide) (W := 0) (by show 2 * 0 + _ ≤ _; exact Nat.le_of_eq rfl) (by decide)
  refine Wp.step st1 ?_
  show Wp p e below _ (T1.setTop (mkF m 4 #[.val (.ref d0), .val (.ref d1), .val (.int (0 : Int32)), .val (.int (1 : Int32)), .val .null, .unset] []))
  refine Wp.step (fun t k => XS.iloadN X1.here hx rfl (hb hby d3_4) rfl k) ?_
  show Wp p e below _ (T1.setTop (mkF m 5 #[.val (.ref d0), .val (.ref d1), .val (.int (0 : Int32)), .val (.int (1 : Int32)), .val .null, .unset] [(.int (1 : Int32))]))
  refine Wp.step (fun t k => XS.ifYes X1.here hx rfl (pc0 := 5) (pc' := 27) rfl (hb hby d3_5) rfl ((if0 _ _).trans (feq (show ¬ ((1 : Int32) = (0 : Int32)) by decide)).2) (by decide) (by decide) k) ?_
  show Wp p e below _ (T1.setTop (mkF m 27 #[.val (.ref d0), .val (.ref d1), .val (.int (0 : Int32)), .val (.int (1 : Int32)), .val .null, .unset] []))
  obtain ⟨T3, X3, e3, st3⟩ := getS2 X1 hx hZ hown (host := "") (Or.inl (hw _ (List.mem_of_getElem? (i := 43) rfl))) Via.refl e1 S_COMPACT_STRINGS_cs (g := (mkF m 27 #[.val (.ref d0), .val (.ref d1), .val (.int (0 : Int32)), .val (.int (1 : Int32)), .val .null, .unset] [])) rfl (hb hby d3_27)
  refine Wp.step st3 ?_
  show Wp p e below _ (T3.setTop (mkF m 30 #[.val (.ref d0), .val (.ref d1), .val (.int (0 : Int32)), .val (.int (1 : Int32)), .val .null, .unset] [(.int cs)]))
  refine Wp.step (fun t k => XS.ifNo X3.here hx rfl (hb hby d3_30) rfl ((if0 _ _).trans (feq (show ¬ (cs = (0 : Int32)) from hcs)).1) k) ?_
  show Wp p e below _ (T3.setTop (mkF m 33 #[.val (.ref d0), .val (.ref d1), .val (.int (0 : Int32)), .val (.int (1 : Int32)), .val .null, .unset] []))
  refine Wp.step (fun t k => XS.aloadN X3.here hx rfl (hb hby d3_33) rfl rfl k) ?_
  show Wp p e below _ (T3.setTop (mkF m 34 #[.val (.ref d0), .val (.ref d1), .val (.int (0 : Int32)), .val (.int (1 : Int32)), .val .null, .unset] [(.ref d1)]))
  refine Wp.step (fun t k => XS.iloadN X3.here hx rfl (hb hby d3_34) rfl k) ?_
  show Wp p e below _ (T3.setTop (mkF m 35 #[.val (.ref d0), .val (.ref d1), .val (.int (0 : Int32)), .val (.int (1 : Int32)), .val .null, .unset] [(.int (0 : Int32)), (.ref d1)]))
  refine Wp.step (fun t k => XS.iloadN X3.here hx rfl (hb hby d3_35) rfl k) ?_
  show Wp p e below _ (T3.setTop (mkF m 36 #[.val (.ref d0), .val (.ref d1), .val (.int (0 : Int32)), .val (.int (1 : Int32)), .val .null, .unset] [(.int (1 : Int32)), (.int (0 : Int32)), (.ref d1)]))
  obtain ⟨_, _, ⟨T5, L5, k5, n5⟩, -, X5, ⟨Lc5, hQ5, l5, y5, z5⟩, st5⟩ := Jvm.LawKit.callS X3 hx (y := (⟨"java/lang/StringUTF16", "compress", "([CII)[B"⟩ : MethodName)) hown (mvT hZ (hw _ (List.mem_of_getElem? (i := 52) rfl))) (mvT hZ (hw _ (List.mem_of_getElem? (i := 53) rfl))) (mvT hZ (hw _ (List.mem_of_getElem? (i := 54) rfl))) (mvT hZ (hw _ (List.mem_of_getElem? (i := 55) rfl))) (by decide) (backOf (W := 0) (rm11_1 l Z a0 hw [] d1 (0 : Int32) (1 : Int32) c0 c1 h0 n0 (Nat.le_trans Z0 K0.1) B_d1 S_assertionsDisabled_1Int32 S_HI_BYTE_SHIFT_0Int32 S_LO_BYTE_SHIFT_8Int32 rfl rfl hq0 hq1) hZ (hw _ (List.mem_of_getElem? (i := 55) rfl)) (hw _ (List.mem_of_getElem? (i := 54) rfl)) (by decide) (by decide)) (g := (mkF m 36 #[.val (.ref d0), .val (.ref d1), .val (.int (0 : Int32)), .val (.int (1 : Int32)), .val .null, .unset] [(.int (1 : Int32)), (.int (0 : Int32)), (.ref d1)])) rfl (by rw [hml]; rfl) (argsL := [(.ref d1), (.int (0 : Int32)), (.int (1 : Int32))]) (rest := []) (lenOf pd_285bCII295bB rfl) rfl (by show 2 * 0 + _ ≤ _; exact Nat.le_of_eq rfl) (hb hby d3_36) (fun _ _ => ⟨rfl, e3, (by decide : 0 + 2 ≤ _), (by decide : 0 + 5 ≤ _)⟩)
  dsimp only [Pt.U, Pt.locs, Pt.cells, Pt.slots] at X5 l5 y5 z5 st5 hQ5
  subst l5 y5 z5
  obtain ⟨h5, e5⟩ : ∃ z, T5.heap = z := ⟨_, rfl⟩
  rw [e5] at hQ5
  obtain ⟨r5, ln_5, cc_5, gg_5, rfl, N5q, Kc5, sz5, o5_0, hE_5⟩ := hQ5
  have N5 := Fr.app N0 N5q
  have g_r5 : n0 ≤ r5 := Nat.le_trans (Nat.le_trans Z0 K0.1) sz5
  have sz_r5 : h0.size ≤ r5 := Nat.le_trans K0.1 sz5
  have ne_d0_r5 : d0 ≠ r5 := Nat.ne_of_lt (Nat.lt_of_lt_of_le E_d0.lt sz5)
  have ne_d1_r5 : d1 ≠ r5 := Nat.ne_of_lt (Nat.lt_of_lt_of_le B_d1.lt sz5)
  have c6 := E_d0.keep Kc5
  have c7 := F_value_d0.keep Kc5 nin0
  have c8 := F_coder_d0.keep Kc5 nin0
  have B9 := B_d1.keep Kc5 nin0
  have c10 := own_sta_keep S_COMPACT_STRINGS_cs Kc5 all0
  have c11 := own_sta_keep S_assertionsDisabled_1Int32 Kc5 all0
  have c12 := own_sta_keep S_HI_BYTE_SHIFT_0Int32 Kc5 all0
  have c13 := own_sta_keep S_LO_BYTE_SHIFT_8Int32 Kc5 all0
  have K5 := K0.trans Kc5 all0
  refine Wp.step st5 ?_
  show Wp p e below _ (T5.setTop (mkF m 39 #[.val (.ref d0), .val (.ref d1), .val (.int (0 : Int32)), .val (.int (1 : Int32)), .val .null, .unset] [(.ref r5)]))
  rcases id hE_5 with ⟨hcc, hln, -⟩ | ⟨hcc, hln, -⟩
  · have hln : ln_5 = (1 : Int32) := hln
    subst hcc
    subst hln
    refine Wp.step (fun t k => XS.astore X5.here hx rfl (hb hby d3_39) rfl rfl (l' := #[.val (.ref d0), .val (.ref d1), .val (.int (0 : Int32)), .val (.int (1 : Int32)), .val .null, .val (.ref r5)]) rfl k) ?_
    show Wp p e below _ (T5.setTop (mkF m 41 #[.val (.ref d0), .val (.ref d1), .val (.int (0 : Int32)), .val (.int (1 : Int32)), .val .null, .val (.ref r5)] []))
    refine Wp.step (fun t k => XS.aloadN X5.here hx rfl (hb hby d3_41) rfl rfl k) ?_
    show Wp p e below _ (T5.setTop (mkF m 42 #[.val (.ref d0), .val (.ref d1), .val (.int (0 : Int32)), .val (.int (1 : Int32)), .val .null, .val (.ref r5)] [(.ref d0)]))
    refine Wp.step (fun t k => XS.aload X5.here hx rfl (hb hby d3_42) rfl rfl k) ?_
    show Wp p e below _ (T5.setTop (mkF m 44 #[.val (.ref d0), .val (.ref d1), .val (.int (0 : Int32)), .val (.int (1 : Int32)), .val .null, .val (.ref r5)] [(.ref r5), (.ref d0)]))
    refine Wp.step (fun t k => XS.iloadN X5.here hx rfl (hb hby d3_44) rfl k) ?_
    show Wp p e below _ (T5.setTop (mkF m 45 #[.val (.ref d0), .val (.ref d1), .val (.int (0 : Int32)), .val (.int (1 : Int32)), .val .null, .val (.ref r5)] [(.int (1 : Int32)), (.ref r5), (.ref d0)]))
    obtain ⟨_, _, ⟨T14, L14, k14, n14⟩, -, X14, ⟨Lc14, hQ14, l14, y14, z14⟩, st14⟩ := Jvm.LawKit.callS X5 hx (y := (⟨"java/lang/StringUTF16", "coderFromArrayLen", "([BI)B"⟩ : MethodName)) hown (mvT hZ (hw _ (List.mem_of_getElem? (i := 59) rfl))) (mvT hZ (hw _ (List.mem_of_getElem? (i := 60) rfl))) (mvT hZ (hw _ (List.mem_of_getElem? (i := 54) rfl))) (mvT hZ (hw _ (List.mem_of_getElem? (i := 61) rfl))) (by decide) (backOf (W := 1) (rm13 l Z a0 hw [] r5 (1 : Int32) (1 : Int32) gg_5 h5 n0 (Nat.le_trans Z0 K5.1) o5_0 ) hZ (hw _ (List.mem_of_getElem? (i := 61) rfl)) (hw _ (List.mem_of_getElem? (i := 54) rfl)) (by decide) (by decide)) (g := (mkF m 45 #[.val (.ref d0), .val (.ref d1), .val (.int (0 : Int32)), .val (.int (1 : Int32)), .val .null, .val (.ref r5)] [(.int (1 : Int32)), (.ref r5), (.ref d0)])) rfl (by rw [hml]; rfl) (argsL := [(.ref r5), (.int (1 : Int32))]) (rest := [(.ref d0)]) (lenOf pd_285bBI29B rfl) rfl (by show 2 * 0 + _ ≤ _; exact Nat.le_of_eq rfl) (hb hby d3_45) (fun _ _ => ⟨rfl, e5, (by decide : 2 + 0 ≤ _), (by decide : 5 + 0 ≤ _)⟩)
    dsimp only [Pt.U, Pt.locs, Pt.cells, Pt.slots] at X14 l14 y14 z14 st14 hQ14
    subst l14 y14 z14
    obtain ⟨rfl, N14q, e14⟩ := hQ14
    have N14 := Fr.app N5 N14q
    refine Wp.step st14 ?_
    show Wp p e below _ (T14.setTop (mkF m 48 #[.val (.ref d0), .val (.ref d1), .val (.int (0 : Int32)), .val (.int (1 : Int32)), .val .null, .val (.ref r5)] [(.int (own_cal (1 : Int32) (1 : Int32))), (.ref d0)]))
    rw [show (own_cal (1 : Int32) (1 : Int32)) = (0 : Int32) from (by decide)]
    obtain ⟨T15, h15, X15, e15, W15, st15⟩ := putFN X14 hx hZ hown (hw _ (List.mem_of_getElem? (i := 25) rfl)) Via.refl e14 c8 c6 (Or.inr ⟨(hw _ (List.mem_of_getElem? (i := 21) rfl)), rfl, hnm⟩) (hw _ (List.mem_of_getElem? (i := 5) rfl)) (ty := .byte) (v' := (.int (0 : Int32))) (by decide) rfl ((by decide)) (g := (mkF m 48 #[.val (.ref d0), .val (.ref d1), .val (.int (0 : Int32)), .val (.int (1 : Int32)), .val .null, .val (.ref r5)] [(.int (0 : Int32)), (.ref d0)])) rfl rfl (hb hby d3_48)
    have c16 := c6.wr W15
    have c17 := c7.other W15 (Or.inr (slot_ne (Or.inr (hw _ (List.mem_of_getElem? (i := 20) rfl))) (Or.inr (hw _ (List.mem_of_getElem? (i := 21) rfl))) (by decide) (t := (.array .byte)) (t' := .byte) (by decide) (by decide)))
    have B18 := B9.other W15 hda
    have c19 := c10.wr W15
    have c20 := c11.wr W15
    have c21 := c12.wr W15
    have c22 := c13.wr W15
    have B23 := o5_0.other W15 (Ne.symm ne_d0_r5)
    have c24 := c8.same W15
    have K25 := K5.wr W15 (Or.inl (List.mem_of_getElem? (i := 0) rfl))
    have N15 := Fr.snoc X15 N14 g_d0
    refine Wp.step st15 ?_
    show Wp p e below _ (T15.setTop (mkF m 51 #[.val (.ref d0), .val (.ref d1), .val (.int (0 : Int32)), .val (.int (1 : Int32)), .val .null, .val (.ref r5)] []))
    refine Wp.step (fun t k => XS.aloadN X15.here hx rfl (hb hby d3_51) rfl rfl k) ?_
    show Wp p e below _ (T15.setTop (mkF m 52 #[.val (.ref d0), .val (.ref d1), .val (.int (0 : Int32)), .val (.int (1 : Int32)), .val .null, .val (.ref r5)] [(.ref d0)]))
    refine Wp.step (fun t k => XS.aload X15.here hx rfl (hb hby d3_52) rfl rfl k) ?_
    show Wp p e below _ (T15.setTop (mkF m 54 #[.val (.ref d0), .val (.ref d1), .val (.int (0 : Int32)), .val (.int (1 : Int32)), .val .null, .val (.ref r5)] [(.ref r5), (.ref d0)]))
    obtain ⟨T26, h26, X26, e26, W26, st26⟩ := putF X15 hx hZ hown (host := "") (Or.inl (hw _ (List.mem_of_getElem? (i := 24) rfl))) Via.refl e15 c17 c16 (Or.inr ⟨(hw _ (List.mem_of_getElem? (i := 20) rfl)), rfl, hnm⟩) (hw _ (List.mem_of_getElem? (i := 5) rfl)) (ty := (.array .byte)) (by decide) rfl rfl (g := (mkF m 54 #[.val (.ref d0), .val (.ref d1), .val (.int (0 : Int32)), .val (.int (1 : Int32)), .val .null, .val (.ref r5)] [(.ref r5), (.ref d0)])) rfl rfl (hb hby d3_54)
    have c27 := c16.wr W26
    have c28 := c24.other W26 (Or.inr (slot_ne (Or.inr (hw _ (List.mem_of_getElem? (i := 21) rfl))) (Or.inr (hw _ (List.mem_of_getElem? (i := 20) rfl))) (by decide) (t := .byte) (t' := (.array .byte)) (by decide) (by decide)))
    have B29 := B18.other W26 hda
    have c30 := c19.wr W26
    have c31 := c20.wr W26
    have c32 := c21.wr W26
    have c33 := c22.wr W26
    have B34 := B23.other W26 (Ne.symm ne_d0_r5)
    have c35 := c17.same W26
    have K36 := K25.wr W26 (Or.inl (List.mem_of_getElem? (i := 0) rfl))
    have N26 := Fr.snoc X26 N15 g_d0
    refine Wp.step st26 ?_
    show Wp p e below _ (T26.setTop (mkF m 57 #[.val (.ref d0), .val (.ref d1), .val (.int (0 : Int32)), .val (.int (1 : Int32)), .val .null, .val (.ref r5)] []))
    refine Wp.retV X26 hx Bd.returns (hb hby d3_57) hlk ?_ (by decide) (by decide)
    show Q3_1 Z d0 d1 (0 : Int32) (1 : Int32) c0 c1 cs h0 n0 none T26.heap _
    rw [e26]
    exact ⟨rfl, N26, K36, ⟨r5, (0 : Int32), (1 : Int32), gg_5, c27, c35, c28, B34, own_n3_1, hE_5⟩⟩
  · have hln : ln_5 = (2 : Int32) := hln
    subst hcc
    subst hln
    refine Wp.step (fun t k => XS.astore X5.here hx rfl (hb hby d3_39) rfl rfl (l' := #[.val (.ref d0), .val (.ref d1), .val (.int (0 : Int32)), .val (.int (1 : Int32)), .val .null, .val (.ref r5)]) rfl k) ?_
    show Wp p e below _ (T5.setTop (mkF m 41 #[.val (.ref d0), .val (.ref d1), .val (.int (0 : Int32)), .val (.int (1 : Int32)), .val .null, .val (.ref r5)] []))
    refine Wp.step (fun t k => XS.aloadN X5.here hx rfl (hb hby d3_41) rfl rfl k) ?_
    show Wp p e below _ (T5.setTop (mkF m 42 #[.val (.ref d0), .val (.ref d1), .val (.int (0 : Int32)), .val (.int (1 : Int32)), .val .null, .val (.ref r5)] [(.ref d0)]))
    refine Wp.step (fun t k => XS.aload X5.here hx rfl (hb hby d3_42) rfl rfl k) ?_
    show Wp p e below _ (T5.setTop (mkF m 44 #[.val (.ref d0), .val (.ref d1), .val (.int (0 : Int32)), .val (.int (1 : Int32)), .val .null, .val (.ref r5)] [(.ref r5), (.ref d0)]))
    refine Wp.step (fun t k => XS.iloadN X5.here hx rfl (hb hby d3_44) rfl k) ?_
    show Wp p e below _ (T5.setTop (mkF m 45 #[.val (.ref d0), .val (.ref d1), .val (.int (0 : Int32)), .val (.int (1 : Int32)), .val .null, .val (.ref r5)] [(.int (1 : Int32)), (.ref r5), (.ref d0)]))
    obtain ⟨_, _, ⟨T37, L37, k37, n37⟩, -, X37, ⟨Lc37, hQ37, l37, y37, z37⟩, st37⟩ := Jvm.LawKit.callS X5 hx (y := (⟨"java/lang/StringUTF16", "coderFromArrayLen", "([BI)B"⟩ : MethodName)) hown (mvT hZ (hw _ (List.mem_of_getElem? (i := 59) rfl))) (mvT hZ (hw _ (List.mem_of_getElem? (i := 60) rfl))) (mvT hZ (hw _ (List.mem_of_getElem? (i := 54) rfl))) (mvT hZ (hw _ (List.mem_of_getElem? (i := 61) rfl))) (by decide) (backOf (W := 1) (rm13 l Z a0 hw [] r5 (1 : Int32) (2 : Int32) gg_5 h5 n0 (Nat.le_trans Z0 K5.1) o5_0 ) hZ (hw _ (List.mem_of_getElem? (i := 61) rfl)) (hw _ (List.mem_of_getElem? (i := 54) rfl)) (by decide) (by decide)) (g := (mkF m 45 #[.val (.ref d0), .val (.ref d1), .val (.int (0 : Int32)), .val (.int (1 : Int32)), .val .null, .val (.ref r5)] [(.int (1 : Int32)), (.ref r5), (.ref d0)])) rfl (by rw [hml]; rfl) (argsL := [(.ref r5), (.int (1 : Int32))]) (rest := [(.ref d0)]) (lenOf pd_285bBI29B rfl) rfl (by show 2 * 0 + _ ≤ _; exact Nat.le_of_eq rfl) (hb hby d3_45) (fun _ _ => ⟨rfl, e5, (by decide : 2 + 0 ≤ _), (by decide : 5 + 0 ≤ _)⟩)
    dsimp only [Pt.U, Pt.locs, Pt.cells, Pt.slots] at X37 l37 y37 z37 st37 hQ37
    subst l37 y37 z37
    obtain ⟨rfl, N37q, e37⟩ := hQ37
    have N37 := Fr.app N5 N37q
    refine Wp.step st37 ?_
    show Wp p e below _ (T37.setTop (mkF m 48 #[.val (.ref d0), .val (.ref d1), .val (.int (0 : Int32)), .val (.int (1 : Int32)), .val .null, .val (.ref r5)] [(.int (own_cal (1 : Int32) (2 : Int32))), (.ref d0)]))
    rw [show (own_cal (1 : Int32) (2 : Int32)) = (1 : Int32) from (by decide)]
    obtain ⟨T38, h38, X38, e38, W38, st38⟩ := putFN X37 hx hZ hown (hw _ (List.mem_of_getElem? (i := 25) rfl)) Via.refl e37 c8 c6 (Or.inr ⟨(hw _ (List.mem_of_getElem? (i := 21) rfl)), rfl, hnm⟩) (hw _ (List.mem_of_getElem? (i := 5) rfl)) (ty := .byte) (v' := (.int (1 : Int32))) (by decide) rfl ((by decide)) (g := (mkF m 48 #[.val (.ref d0), .val (.ref d1), .val (.int (0 : Int32)), .val (.int (1 : Int32)), .val .null, .val (.ref r5)] [(.int (1 : Int32)), (.ref d0)])) rfl rfl (hb hby d3_48)
    have c39 := c6.wr W38
    have c40 := c7.other W38 (Or.inr (slot_ne (Or.inr (hw _ (List.mem_of_getElem? (i := 20) rfl))) (Or.inr (hw _ (List.mem_of_getElem? (i := 21) rfl))) (by decide) (t := (.array .byte)) (t' := .byte) (by decide) (by decide)))
    have B41 := B9.other W38 hda
    have c42 := c10.wr W38
    have c43 := c11.wr W38
    have c44 := c12.wr W38
    have c45 := c13.wr W38
    have B46 := o5_0.other W38 (Ne.symm ne_d0_r5)
    have c47 := c8.same W38
    have K48 := K5.wr W38 (Or.inl (List.mem_of_getElem? (i := 0) rfl))
    have N38 := Fr.snoc X38 N37 g_d0
    refine Wp.step st38 ?_
    show Wp p e below _ (T38.setTop (mkF m 51 #[.val (.ref d0), .val (.ref d1), .val (.int (0 : Int32)), .val (.int (1 : Int32)), .val .null, .val (.ref r5)] []))
    refine Wp.step (fun t k => XS.aloadN X38.here hx rfl (hb hby d3_51) rfl rfl k) ?_
    show Wp p e below _ (T38.setTop (mkF m 52 #[.val (.ref d0), .val (.ref d1), .val (.int (0 : Int32)), .val (.int (1 : Int32)), .val .null, .val (.ref r5)] [(.ref d0)]))
    refine Wp.step (fun t k => XS.aload X38.here hx rfl (hb hby d3_52) rfl rfl k) ?_
    show Wp p e below _ (T38.setTop (mkF m 54 #[.val (.ref d0), .val (.ref d1), .val (.int (0 : Int32)), .val (.int (1 : Int32)), .val .null, .val (.ref r5)] [(.ref r5), (.ref d0)]))
    obtain ⟨T49, h49, X49, e49, W49, st49⟩ := putF X38 hx hZ hown (host := "") (Or.inl (hw _ (List.mem_of_getElem? (i := 24) rfl))) Via.refl e38 c40 c39 (Or.inr ⟨(hw _ (List.mem_of_getElem? (i := 20) rfl)), rfl, hnm⟩) (hw _ (List.mem_of_getElem? (i := 5) rfl)) (ty := (.array .byte)) (by decide) rfl rfl (g := (mkF m 54 #[.val (.ref d0), .val (.ref d1), .val (.int (0 : Int32)), .val (.int (1 : Int32)), .val .null, .val (.ref r5)] [(.ref r5), (.ref d0)])) rfl rfl (hb hby d3_54)
    have c50 := c39.wr W49
    have c51 := c47.other W49 (Or.inr (slot_ne (Or.inr (hw _ (List.mem_of_getElem? (i := 21) rfl))) (Or.inr (hw _ (List.mem_of_getElem? (i := 20) rfl))) (by decide) (t := .byte) (t' := (.array .byte)) (by decide) (by decide)))
    have B52 := B41.other W49 hda
    have c53 := c42.wr W49
    have c54 := c43.wr W49
    have c55 := c44.wr W49
    have c56 := c45.wr W49
    have B57 := B46.other W49 (Ne.symm ne_d0_r5)
    have c58 := c40.same W49
    have K59 := K48.wr W49 (Or.inl (List.mem_of_getElem? (i := 0) rfl))
    have N49 := Fr.snoc X49 N38 g_d0
    refine Wp.step st49 ?_
    show Wp p e below _ (T49.setTop (mkF m 57 #[.val (.ref d0), .val (.ref d1), .val (.int (0 : Int32)), .val (.int (1 : Int32)), .val .null, .val (.ref r5)] []))
    refine Wp.retV X49 hx Bd.returns (hb hby d3_57) hlk ?_ (by decide) (by decide)
    show Q3_1 Z d0 d1 (0 : Int32) (1 : Int32) c0 c1 cs h0 n0 none T49.heap _
    rw [e49]
    exact ⟨rfl, N49, K59, ⟨r5, (1 : Int32), (2 : Int32), gg_5, c50, c58, c51, B57, own_n3_1, hE_5⟩⟩
theorem pd_285bCIILjava2flang2fVoid3b29V : parseMethodDescriptor "([CIILjava/lang/Void;)V" = some ⟨[(.array .char), .int, .int, (.object "java/lang/Void")], none⟩ := by decide +kernel
theorem d2_0 : decode jdk_42_method_3_code 0 = .ok (.aload_n 0, 1) := by decide +kernel
theorem d2_1 : decode jdk_42_method_3_code 1 = .ok (.aload_n 1, 1) := by decide +kernel
theorem d2_2 : decode jdk_42_method_3_code 2 = .ok (.iconst 0, 1) := by decide +kernel
theorem d2_3 : decode jdk_42_method_3_code 3 = .ok (.aload_n 1, 1) := by decide +kernel
theorem d2_4 : decode jdk_42_method_3_code 4 = .ok (.arraylength, 1) := by decide +kernel
theorem d2_5 : decode jdk_42_method_3_code 5 = .ok (.aconst_null, 1) := by decide +kernel
theorem d2_6 : decode jdk_42_method_3_code 6 = .ok (.invokespecial 27, 3) := by decide +kernel
theorem d2_9 : decode jdk_42_method_3_code 9 = .ok (.return_, 1) := by decide +kernel
theorem ef_2_00 (m : MethodId) (x0 : Addr) (x1 : Addr) : entryFrame m #[(.ref x0), (.ref x1)] 2 = mkF m 0 #[.val (.ref x0), .val (.ref x1)] [] := by first | (simp [entryFrame, mkF, argsToLocals, Value.category]; done) | rfl
def Q2_1 (Z : State) (d0 : Addr) (d1 : Addr) (c0 : Int32) (c1 : Int32) (cs : Int32) (h0 : Heap) (n0 : Nat) (v : Option Value) (h : Heap) (L : List Loc) : Prop := v = none ∧ Fr n0 L ∧ Keep h0 h [d0] ∧ own_S Z h d0 (1 : Int32) (own_ch c0 c1)
set_option maxRecDepth 65536 in
set_option maxHeartbeats 40000000 in
theorem rm2_1 (l : Launch) (Z : State) (a0 : Array Value) (hw : ∀ d ∈ tables_1, d.before a0 Z = true) (ws : List Jvm.Cond) (d0 : Addr) (d1 : Addr) (c0 : Int32) (c1 : Int32) (cs : Int32) (h0 : Heap) (n0 : Nat) (Z0 : n0 ≤ h0.size) (g_d0 : n0 ≤ d0) (E_d0 : Exa Z h0 d0 "java/lang/String") (F_value_d0 : Fld Z h0 d0 "java/lang/String" "value" "[B" .null) (F_coder_d0 : Fld Z h0 d0 "java/lang/String" "coder" "B" (.int (0 : Int32))) (B_d1 : own_IA .char Z h0 d1 (1 : Int32) (own_ch c0 c1)) (S_COMPACT_STRINGS_cs : Sta Z h0 "java/lang/String" "COMPACT_STRINGS" "Z" (.int cs)) (S_assertionsDisabled_1Int32 : Sta Z h0 "java/lang/StringUTF16" "$assertionsDisabled" "Z" (.int (1 : Int32))) (S_HI_BYTE_SHIFT_0Int32 : Sta Z h0 "java/lang/StringUTF16" "HI_BYTE_SHIFT" "I" (.int (0 : Int32))) (S_LO_BYTE_SHIFT_8Int32 : Sta Z h0 "java/lang/StringUTF16" "LO_BYTE_SHIFT" "I" (.int (8 : Int32))) (hda : d1 ≠ d0) (hq0 : own_isC c0) (hq1 : own_isC c1) (hcs : ¬ cs = 0) :
    MetFree l (⟨"java/lang/String", "<init>", "([C)V"⟩ : MethodName) (head1 (Jvm.Cond.code (⟨"java/lang/String", "<init>", "([C)V"⟩ : MethodName) jdk_42_method_3_code 2 none :: ws) ({ frames := 5, cells := 2, slots := 5, locals := 74 } : Room)) (fun a U => a = #[(.ref d0), (.ref d1)] ∧ Z.Warmed39 U.vm ∧ U.heap = h0) (fun _ _ _ _ _ => True) (fun _ U o U' => ∃ v L, o = .returned v ∧ Q2_1 Z d0 d1 c0 c1 cs h0 n0 v U'.heap L ∧ FrameEnd U o U' L ({ frames := 5, cells := 2, slots := 5, locals := 74 } : Room).cells ({ frames := 5, cells := 2, slots := 5, locals := 74 } : Room).slots) := by
  refine MetFree.of_bodySF (plainFor_of_name pn_java_lang_String) hisR ?_
  intro p e s m args below meth c s₁ Bd hml0 hP hK
  obtain ⟨rfl, hZ, hh⟩ := hP
  have hx := Bd.exec
  have hby := Bd.bytes
  have hlk : meth.locks = false := Bd.notSynchronized
  have hml : c.maxLocals = 2 := hml0
  have hown : s.vm.findClass "java/lang/String" = some m.cls := findClass_of_methodNamed Bd.named
  have hnm := (name_of_methodNamed Bd.named Bd.method).1
  have X0 : Stand p l e ({ frames := 5, cells := 2, slots := 5, locals := 74 } : Room) s m #[(.ref d0), (.ref d1)] below meth c s₁ [] 0 0 := Stand.of_body Bd
  have e0 : s₁.heap = h0 := by rw [← hh, Bd.state]; rfl
  have N0 := Fr.nil n0
  have K0 : Keep h0 h0 [d0] := Keep.refl h0 _
  show Wp p e below (Out s (Q2_1 Z d0 d1 c0 c1 cs h0 n0) ({ frames := 5, cells := 2, slots := 5, locals := 74 } : Room).cells ({ frames := 5, cells := 2, slots := 5, locals := 74 } : Room).slots) (s₁.setTop (entryFrame m #[(.ref d0), (.ref d1)] 2))
  rw [ef_2_00]
  show Wp p e below _ (s₁.setTop (mkF m 0 #[.val (.ref d0), .val (.ref d1)] []))
  refine Wp.step (fun t k => XS.aloadN X0.here hx rfl (hb hby d2_0) rfl rfl k) ?_
  show Wp p e below _ (s₁.setTop (mkF m 1 #[.val (.ref d0), .val (.ref d1)] [(.ref d0)]))
  refine Wp.step (fun t k => XS.aloadN X0.here hx rfl (hb hby d2_1) rfl rfl k) ?_
  show Wp p e below _ (s₁.setTop (mkF m 2 #[.val (.ref d0), .val (.ref d1)] [(.ref d1), (.ref d0)]))
  refine Wp.step (fun t k => XS.iconst X0.here hx rfl (hb hby d2_2) k) ?_
  show Wp p e below _ (s₁.setTop (mkF m 3 #[.val (.ref d0), .val (.ref d1)] [(.int (0 : Int32)), (.ref d1), (.ref d0)]))
  refine Wp.step (fun t k => XS.aloadN X0.here hx rfl (hb hby d2_3) rfl rfl k) ?_
  show Wp p e below _ (s₁.setTop (mkF m 4 #[.val (.ref d0), .val (.ref d1)] [(.ref d1), (.int (0 : Int32)), (.ref d1), (.ref d0)]))
  obtain ⟨cl1, Ar1, Sz1, Nn1, -⟩ := id B_d1
  refine Wp.step (X0.arraylength hx (by rw [e0]; exact Ar1.1) (State.isArrayOf_alike hZ.alike Ar1.2.1) (g := (mkF m 4 #[.val (.ref d0), .val (.ref d1)] [(.ref d1), (.int (0 : Int32)), (.ref d1), (.ref d0)])) rfl rfl (hb hby d2_4)) ?_
  rw [len_of Sz1 Nn1]
  show Wp p e below _ (s₁.setTop (mkF m 5 #[.val (.ref d0), .val (.ref d1)] [(.int (1 : Int32)), (.int (0 : Int32)), (.ref d1), (.ref d0)]))
  refine Wp.step (fun t k => XS.aconstNull X0.here hx rfl (hb hby d2_5) k) ?_
  show Wp p e below _ (s₁.setTop (mkF m 6 #[.val (.ref d0), .val (.ref d1)] [.null, (.int (1 : Int32)), (.int (0 : Int32)), (.ref d1), (.ref d0)]))
  obtain ⟨_, _, ⟨T2, L2, k2, n2⟩, -, X2, ⟨Lc2, hQ2, l2, y2, z2⟩, st2⟩ := X0.specialBack hx (y := (⟨"java/lang/String", "<init>", "([CIILjava/lang/Void;)V"⟩ : MethodName)) rfl hown (mvT hZ (hw _ (List.mem_of_getElem? (i := 11) rfl))) (mvT hZ (hw _ (List.mem_of_getElem? (i := 12) rfl))) (mvT hZ (hw _ (List.mem_of_getElem? (i := 14) rfl))) (by decide) (backOf (W := 0) (rm3_1 l Z a0 hw [] d0 d1 (0 : Int32) (1 : Int32) c0 c1 cs h0 n0 (Nat.le_trans Z0 K0.1) g_d0 E_d0 F_value_d0 F_coder_d0 B_d1 S_COMPACT_STRINGS_cs S_assertionsDisabled_1Int32 S_HI_BYTE_SHIFT_0Int32 S_LO_BYTE_SHIFT_8Int32 rfl rfl hda hq0 hq1 hcs) hZ (hw _ (List.mem_of_getElem? (i := 14) rfl)) (hw _ (List.mem_of_getElem? (i := 6) rfl)) (by decide) (by decide)) (g := (mkF m 6 #[.val (.ref d0), .val (.ref d1)] [.null, (.int (1 : Int32)), (.int (0 : Int32)), (.ref d1), (.ref d0)])) rfl (by rw [hml]; rfl) (Steps.refl _) (a := d0) (argsL := [(.ref d1), (.int (0 : Int32)), (.int (1 : Int32)), .null]) (rest := []) (lenOf pd_285bCIILjava2flang2fVoid3b29V rfl) rfl (by show 2 * 0 + _ ≤ _; exact Nat.le_of_eq rfl) (hb hby d2_6) (fun _ _ => ⟨rfl, e0, (by decide : 0 + 2 ≤ _), (by decide : 0 + 5 ≤ _)⟩)
  dsimp only [Pt.U, Pt.locs, Pt.cells, Pt.slots] at X2 l2 y2 z2 st2 hQ2
  subst l2 y2 z2
  obtain ⟨h2, e2⟩ : ∃ z, T2.heap = z := ⟨_, rfl⟩
  rw [e2] at hQ2
  obtain ⟨rfl, N2q, Kc2, hS_2⟩ := hQ2
  have N2 := Fr.app N0 N2q
  have c3 := E_d0.keep Kc2
  have B4 := B_d1.keep Kc2 (ninS hda nin0)
  have c5 := own_sta_keep S_COMPACT_STRINGS_cs Kc2 (allS (own_ns E_d0) all0)
  have c6 := own_sta_keep S_assertionsDisabled_1Int32 Kc2 (allS (own_ns E_d0) all0)
  have c7 := own_sta_keep S_HI_BYTE_SHIFT_0Int32 Kc2 (allS (own_ns E_d0) all0)
  have c8 := own_sta_keep S_LO_BYTE_SHIFT_8Int32 Kc2 (allS (own_ns E_d0) all0)
  have K2 := K0.trans Kc2 (allS (Or.inl (List.mem_of_getElem? (i := 0) rfl)) all0)
  refine Wp.go st2 ?_
  show Wp p e below _ (T2.setTop (mkF m 9 #[.val (.ref d0), .val (.ref d1)] []))
  refine Wp.retV X2 hx Bd.returns (hb hby d2_9) hlk ?_ (by decide) (by decide)
  show Q2_1 Z d0 d1 c0 c1 cs h0 n0 none T2.heap _
  rw [e2]
  exact ⟨rfl, N2, K2, hS_2⟩
def Q21_2 (Z : State) (d0 : Addr) (u0 : Int32) (u1 : Int32) (c0 : Int32) (c1 : Int32) (h0 : Heap) (n0 : Nat) (v : Option Value) (h : Heap) (L : List Loc) : Prop := ∃ (r0 : Addr), v = some (.ref r0) ∧ Fr n0 L ∧ Keep h0 h [] ∧ h0.size ≤ r0 ∧ own_IA .byte Z h r0 (4 : Int32) (own_pc (own_pc (fun _ => (0 : Int32)) (0 : Int32) c0) (1 : Int32) c1)
set_option maxRecDepth 65536 in
set_option maxHeartbeats 40000000 in
theorem rm21_2 (l : Launch) (Z : State) (a0 : Array Value) (hw : ∀ d ∈ tables_1, d.before a0 Z = true) (ws : List Jvm.Cond) (d0 : Addr) (u0 : Int32) (u1 : Int32) (c0 : Int32) (c1 : Int32) (h0 : Heap) (n0 : Nat) (Z0 : n0 ≤ h0.size) (B_d0 : own_IA .char Z h0 d0 (2 : Int32) (own_ch c0 c1)) (S_assertionsDisabled_1Int32 : Sta Z h0 "java/lang/StringUTF16" "$assertionsDisabled" "Z" (.int (1 : Int32))) (S_HI_BYTE_SHIFT_0Int32 : Sta Z h0 "java/lang/StringUTF16" "HI_BYTE_SHIFT" "I" (.int (0 : Int32))) (S_LO_BYTE_SHIFT_8Int32 : Sta Z h0 "java/lang/StringUTF16" "LO_BYTE_SHIFT" "I" (.int (8 : Int32))) (hu0 : u0 = 0) (hu1 : u1 = 2) :
    MetFree l (⟨"java/lang/StringUTF16", "toBytes", "([CII)[B"⟩ : MethodName) (head1 (Jvm.Cond.code (⟨"java/lang/StringUTF16", "toBytes", "([CII)[B"⟩ : MethodName) jdk_52_method_14_code 5 (some (.array .byte)) :: ws) ({ frames := 2, cells := 1, slots := 4, locals := 24 } : Room)) (fun a U => a = #[(.ref d0), (.int u0), (.int u1)] ∧ Z.Warmed39 U.vm ∧ U.heap = h0) (fun _ _ _ _ _ => True) (fun _ U o U' => ∃ v L, o = .returned v ∧ Q21_2 Z d0 u0 u1 c0 c1 h0 n0 v U'.heap L ∧ FrameEnd U o U' L ({ frames := 2, cells := 1, slots := 4, locals := 24 } : Room).cells ({ frames := 2, cells := 1, slots := 4, locals := 24 } : Room).slots) := by
  refine MetFree.of_bodySF (plainFor_of_name pn_java_lang_StringUTF16) hisR ?_
  intro p e s m args below meth c s₁ Bd hml0 hP hK
  obtain ⟨rfl, hZ, hh⟩ := hP
  have hx := Bd.exec
  have hby := Bd.bytes
  have hlk : meth.locks = false := Bd.notSynchronized
  have hml : c.maxLocals = 5 := hml0
  have hown : s.vm.findClass "java/lang/StringUTF16" = some m.cls := findClass_of_methodNamed Bd.named
  have hnm := (name_of_methodNamed Bd.named Bd.method).1
  have X0 : Stand p l e ({ frames := 2, cells := 1, slots := 4, locals := 24 } : Room) s m #[(.ref d0), (.int u0), (.int u1)] below meth c s₁ [] 0 0 := Stand.of_body Bd
  have e0 : s₁.heap = h0 := by rw [← hh, Bd.state]; rfl
  have N0 := Fr.nil n0
  have K0 : Keep h0 h0 [] := Keep.refl h0 _
  show Wp p e below (Out s (Q21_2 Z d0 u0 u1 c0 c1 h0 n0) ({ frames := 2, cells := 1, slots := 4, locals := 24 } : Room).cells ({ frames := 2, cells := 1, slots := 4, locals := 24 } : Room).slots) (s₁.setTop (entryFrame m #[(.ref d0), (.int u0), (.int u1)] 5))
  rw [ef_21_000]
  subst hu0 hu1
  show Wp p e below _ (s₁.setTop (mkF m 0 #[.val (.ref d0), .val (.int (0 : Int32)), .val (.int (2 : Int32)), .unset, .unset] []))
  refine Wp.step (fun t k => XS.iloadN X0.here hx rfl (hb hby d21_0) rfl k) ?_
  show Wp p e below _ (s₁.setTop (mkF m 1 #[.val (.ref d0), .val (.int (0 : Int32)), .val (.int (2 : Int32)), .unset, .unset] [(.int (2 : Int32))]))
  obtain ⟨_, _, ⟨T1, L1, k1, n1⟩, -, X1, ⟨Lc1, hQ1, l1, y1, z1⟩, st1⟩ := Jvm.LawKit.callS X0 hx (y := (⟨"java/lang/StringUTF16", "newBytesFor", "(I)[B"⟩ : MethodName)) hown (mvT hZ (hw _ (List.mem_of_getElem? (i := 96) rfl))) (mvT hZ (hw _ (List.mem_of_getElem? (i := 97) rfl))) (mvT hZ (hw _ (List.mem_of_getElem? (i := 54) rfl))) (mvT hZ (hw _ (List.mem_of_getElem? (i := 98) rfl))) (by decide) (backOf (W := 0) (rm22 l Z a0 hw [] (2 : Int32)  h0 n0 (Nat.le_trans Z0 K0.1)  (by decide) (by decide) (by decide) (by decide)) hZ (hw _ (List.mem_of_getElem? (i := 98) rfl)) (hw _ (List.mem_of_getElem? (i := 54) rfl)) (by decide) (by decide)) (g := (mkF m 1 #[.val (.ref d0), .val (.int (0 : Int32)), .val (.int (2 : Int32)), .unset, .unset] [(.int (2 : Int32))])) rfl (by rw [hml]; rfl) (argsL := [(.int (2 : Int32))]) (rest := []) (lenOf pd_28I295bB rfl) rfl (by show 2 * 0 + _ ≤ _; exact Nat.le_of_eq rfl) (hb hby d21_1) (fun _ _ => ⟨rfl, e0, (by decide : 0 + 1 ≤ _), (by decide : 0 + 4 ≤ _)⟩)
  dsimp only [Pt.U, Pt.locs, Pt.cells, Pt.slots] at X1 l1 y1 z1 st1 hQ1
  subst l1 y1 z1
  obtain ⟨h1, e1⟩ : ∃ z, T1.heap = z := ⟨_, rfl⟩
  rw [e1] at hQ1
  obtain ⟨r1, rfl, N1q, Kc1, sz1, o1_0⟩ := hQ1
  have N1 := Fr.app N0 N1q
  have g_r1 : n0 ≤ r1 := Nat.le_trans (Nat.le_trans Z0 K0.1) sz1
  have sz_r1 : h0.size ≤ r1 := Nat.le_trans K0.1 sz1
  have ne_d0_r1 : d0 ≠ r1 := Nat.ne_of_lt (Nat.lt_of_lt_of_le B_d0.lt sz1)
  have B2 := B_d0.keep Kc1 nin0
  have c3 := own_sta_keep S_assertionsDisabled_1Int32 Kc1 all0
  have c4 := own_sta_keep S_HI_BYTE_SHIFT_0Int32 Kc1 all0
  have c5 := own_sta_keep S_LO_BYTE_SHIFT_8Int32 Kc1 all0
  have K1 := K0.trans Kc1 all0
  rw [show ((2 : Int32) <<< ((1 : Int32) &&& 31)) = (4 : Int32) from (by decide)] at o1_0
  refine Wp.step st1 ?_
  show Wp p e below _ (T1.setTop (mkF m 4 #[.val (.ref d0), .val (.int (0 : Int32)), .val (.int (2 : Int32)), .unset, .unset] [(.ref r1)]))
  refine Wp.step (fun t k => XS.astoreN X1.here hx rfl (hb hby d21_4) rfl rfl (l' := #[.val (.ref d0), .val (.int (0 : Int32)), .val (.int (2 : Int32)), .val (.ref r1), .unset]) rfl k) ?_
  show Wp p e below _ (T1.setTop (mkF m 5 #[.val (.ref d0), .val (.int (0 : Int32)), .val (.int (2 : Int32)), .val (.ref r1), .unset] []))
  refine Wp.step (fun t k => XS.iconst X1.here hx rfl (hb hby d21_5) k) ?_
  show Wp p e below _ (T1.setTop (mkF m 6 #[.val (.ref d0), .val (.int (0 : Int32)), .val (.int (2 : Int32)), .val (.ref r1), .unset] [(.int (0 : Int32))]))
  refine Wp.step (fun t k => XS.istore X1.here hx rfl (hb hby d21_6) rfl (l' := #[.val (.ref d0), .val (.int (0 : Int32)), .val (.int (2 : Int32)), .val (.ref r1), .val (.int (0 : Int32))]) rfl k) ?_
  show Wp p e below _ (T1.setTop (mkF m 8 #[.val (.ref d0), .val (.int (0 : Int32)), .val (.int (2 : Int32)), .val (.ref r1), .val (.int (0 : Int32))] []))
  refine Wp.step (fun t k => XS.iload X1.here hx rfl (hb hby d21_8) rfl k) ?_
  show Wp p e below _ (T1.setTop (mkF m 10 #[.val (.ref d0), .val (.int (0 : Int32)), .val (.int (2 : Int32)), .val (.ref r1), .val (.int (0 : Int32))] [(.int (0 : Int32))]))
  refine Wp.step (fun t k => XS.iloadN X1.here hx rfl (hb hby d21_10) rfl k) ?_
  show Wp p e below _ (T1.setTop (mkF m 11 #[.val (.ref d0), .val (.int (0 : Int32)), .val (.int (2 : Int32)), .val (.ref r1), .val (.int (0 : Int32))] [(.int (2 : Int32)), (.int (0 : Int32))]))
  refine Wp.step (fun t k => XS.icmpNo X1.here hx rfl (hb hby d21_11) rfl (tlt (show (0 : Int32) < (2 : Int32) by decide)).2.1 k) ?_
  show Wp p e below _ (T1.setTop (mkF m 14 #[.val (.ref d0), .val (.int (0 : Int32)), .val (.int (2 : Int32)), .val (.ref r1), .val (.int (0 : Int32))] []))
  refine Wp.step (fun t k => XS.aloadN X1.here hx rfl (hb hby d21_14) rfl rfl k) ?_
  show Wp p e below _ (T1.setTop (mkF m 15 #[.val (.ref d0), .val (.int (0 : Int32)), .val (.int (2 : Int32)), .val (.ref r1), .val (.int (0 : Int32))] [(.ref r1)]))
  refine Wp.step (fun t k => XS.iload X1.here hx rfl (hb hby d21_15) rfl k) ?_
  show Wp p e below _ (T1.setTop (mkF m 17 #[.val (.ref d0), .val (.int (0 : Int32)), .val (.int (2 : Int32)), .val (.ref r1), .val (.int (0 : Int32))] [(.int (0 : Int32)), (.ref r1)]))
  refine Wp.step (fun t k => XS.aloadN X1.here hx rfl (hb hby d21_17) rfl rfl k) ?_
  show Wp p e below _ (T1.setTop (mkF m 18 #[.val (.ref d0), .val (.int (0 : Int32)), .val (.int (2 : Int32)), .val (.ref r1), .val (.int (0 : Int32))] [(.ref d0), (.int (0 : Int32)), (.ref r1)]))
  refine Wp.step (fun t k => XS.iloadN X1.here hx rfl (hb hby d21_18) rfl k) ?_
  show Wp p e below _ (T1.setTop (mkF m 19 #[.val (.ref d0), .val (.int (0 : Int32)), .val (.int (2 : Int32)), .val (.ref r1), .val (.int (0 : Int32))] [(.int (0 : Int32)), (.ref d0), (.int (0 : Int32)), (.ref r1)]))
  obtain ⟨cl7, Ar7, Sz7, Nn7, El7⟩ := id B2
  have hin7 : ¬ ((0 : Int32) < 0 ∨ cl7.slots.size ≤ ((0 : Int32)).toNatClampNeg) := inb_of Sz7 ⟨by decide, by decide⟩
  have hat7 : cl7.slots[((0 : Int32)).toNatClampNeg]? = some (.int ((own_ch c0 c1) ((0 : Int32)).toNatClampNeg)) := (El7 _ (by have q := Nat.lt_of_not_le fun q => hin7 (Or.inr q); rw [Sz7] at q; exact q)).1
  rw [show ((own_ch c0 c1) ((0 : Int32)).toNatClampNeg) = c0 from rfl] at hat7
  refine Wp.step (X1.caload hx (j := (0 : Int32)) (v := (.int c0)) (by rw [e1]; exact Ar7.1) (State.isArrayOf_alike hZ.alike Ar7.2.1) Ar7.2.2 hin7 hat7 (g := (mkF m 19 #[.val (.ref d0), .val (.int (0 : Int32)), .val (.int (2 : Int32)), .val (.ref r1), .val (.int (0 : Int32))] [(.int (0 : Int32)), (.ref d0), (.int (0 : Int32)), (.ref r1)])) rfl rfl (hb hby d21_19)) ?_
  show Wp p e below _ (T1.setTop (mkF m 20 #[.val (.ref d0), .val (.int (0 : Int32)), .val (.int (2 : Int32)), .val (.ref r1), .val (.int (0 : Int32))] [(.int c0), (.int (0 : Int32)), (.ref r1)]))
  obtain ⟨_, _, ⟨T8, L8, k8, n8⟩, -, X8, ⟨Lc8, hQ8, l8, y8, z8⟩, st8⟩ := Jvm.LawKit.callS X1 hx (y := (⟨"java/lang/StringUTF16", "putChar", "([BII)V"⟩ : MethodName)) hown (mvT hZ (hw _ (List.mem_of_getElem? (i := 103) rfl))) (mvT hZ (hw _ (List.mem_of_getElem? (i := 104) rfl))) (mvT hZ (hw _ (List.mem_of_getElem? (i := 54) rfl))) (mvT hZ (hw _ (List.mem_of_getElem? (i := 105) rfl))) (by decide) (backOf (W := 0) (rm24 l Z a0 hw [] r1 (0 : Int32) c0 (4 : Int32) (fun _ => (0 : Int32)) h1 n0 (Nat.le_trans Z0 K1.1) g_r1 o1_0 c3 c4 c5 (by decide) (by decide)) hZ (hw _ (List.mem_of_getElem? (i := 105) rfl)) (hw _ (List.mem_of_getElem? (i := 54) rfl)) (by decide) (by decide)) (g := (mkF m 20 #[.val (.ref d0), .val (.int (0 : Int32)), .val (.int (2 : Int32)), .val (.ref r1), .val (.int (0 : Int32))] [(.int c0), (.int (0 : Int32)), (.ref r1)])) rfl (by rw [hml]; rfl) (argsL := [(.ref r1), (.int (0 : Int32)), (.int c0)]) (rest := []) (lenOf pd_285bBII29V rfl) rfl (by show 2 * 0 + _ ≤ _; exact Nat.le_of_eq rfl) (hb hby d21_20) (fun _ _ => ⟨rfl, e1, (by decide : 1 + 0 ≤ _), (by decide : 4 + 0 ≤ _)⟩)
  dsimp only [Pt.U, Pt.locs, Pt.cells, Pt.slots] at X8 l8 y8 z8 st8 hQ8
  subst l8 y8 z8
  obtain ⟨h8, e8⟩ : ∃ z, T8.heap = z := ⟨_, rfl⟩
  rw [e8] at hQ8
  obtain ⟨rfl, N8q, Kc8, o8_0⟩ := hQ8
  have N8 := Fr.app N1 N8q
  have B9 := B2.keep Kc8 (ninS ne_d0_r1 nin0)
  have c10 := own_sta_keep c3 Kc8 (allS (own_nsB o1_0) all0)
  have c11 := own_sta_keep c4 Kc8 (allS (own_nsB o1_0) all0)
  have c12 := own_sta_keep c5 Kc8 (allS (own_nsB o1_0) all0)
  have K8 := K1.trans Kc8 (allS (Or.inr sz_r1) all0)
  refine Wp.step st8 ?_
  show Wp p e below _ (T8.setTop (mkF m 23 #[.val (.ref d0), .val (.int (0 : Int32)), .val (.int (2 : Int32)), .val (.ref r1), .val (.int (0 : Int32))] []))
  refine Wp.step (fun t k => XS.iinc X8.here hx rfl (hb hby d21_23) rfl (l' := #[.val (.ref d0), .val (.int ((0 : Int32) + (1 : Int32))), .val (.int (2 : Int32)), .val (.ref r1), .val (.int (0 : Int32))]) rfl k) ?_
  show Wp p e below _ (T8.setTop (mkF m 26 #[.val (.ref d0), .val (.int ((0 : Int32) + (1 : Int32))), .val (.int (2 : Int32)), .val (.ref r1), .val (.int (0 : Int32))] []))
  rw [show ((0 : Int32) + (1 : Int32)) = (1 : Int32) from (by decide)]
  refine Wp.step (fun t k => XS.iinc X8.here hx rfl (hb hby d21_26) rfl (l' := #[.val (.ref d0), .val (.int (1 : Int32)), .val (.int (2 : Int32)), .val (.ref r1), .val (.int ((0 : Int32) + (1 : Int32)))]) rfl k) ?_
  show Wp p e below _ (T8.setTop (mkF m 29 #[.val (.ref d0), .val (.int (1 : Int32)), .val (.int (2 : Int32)), .val (.ref r1), .val (.int ((0 : Int32) + (1 : Int32)))] []))
  rw [show ((0 : Int32) + (1 : Int32)) = (1 : Int32) from (by decide)]
  refine Wp.step (fun t k => XS.goto X8.here hx rfl (pc0 := 29) (pc' := 8) rfl (hb hby d21_29) (by decide) (by decide) k) ?_
  show Wp p e below _ (T8.setTop (mkF m 8 #[.val (.ref d0), .val (.int (1 : Int32)), .val (.int (2 : Int32)), .val (.ref r1), .val (.int (1 : Int32))] []))
  refine Wp.step (fun t k => XS.iload X8.here hx rfl (hb hby d21_8) rfl k) ?_
  show Wp p e below _ (T8.setTop (mkF m 10 #[.val (.ref d0), .val (.int (1 : Int32)), .val (.int (2 : Int32)), .val (.ref r1), .val (.int (1 : Int32))] [(.int (1 : Int32))]))
  refine Wp.step (fun t k => XS.iloadN X8.here hx rfl (hb hby d21_10) rfl k) ?_
  show Wp p e below _ (T8.setTop (mkF m 11 #[.val (.ref d0), .val (.int (1 : Int32)), .val (.int (2 : Int32)), .val (.ref r1), .val (.int (1 : Int32))] [(.int (2 : Int32)), (.int (1 : Int32))]))
  refine Wp.step (fun t k => XS.icmpNo X8.here hx rfl (hb hby d21_11) rfl (tlt (show (1 : Int32) < (2 : Int32) by decide)).2.1 k) ?_
  show Wp p e below _ (T8.setTop (mkF m 14 #[.val (.ref d0), .val (.int (1 : Int32)), .val (.int (2 : Int32)), .val (.ref r1), .val (.int (1 : Int32))] []))
  refine Wp.step (fun t k => XS.aloadN X8.here hx rfl (hb hby d21_14) rfl rfl k) ?_
  show Wp p e below _ (T8.setTop (mkF m 15 #[.val (.ref d0), .val (.int (1 : Int32)), .val (.int (2 : Int32)), .val (.ref r1), .val (.int (1 : Int32))] [(.ref r1)]))
  refine Wp.step (fun t k => XS.iload X8.here hx rfl (hb hby d21_15) rfl k) ?_
  show Wp p e below _ (T8.setTop (mkF m 17 #[.val (.ref d0), .val (.int (1 : Int32)), .val (.int (2 : Int32)), .val (.ref r1), .val (.int (1 : Int32))] [(.int (1 : Int32)), (.ref r1)]))
  refine Wp.step (fun t k => XS.aloadN X8.here hx rfl (hb hby d21_17) rfl rfl k) ?_
  show Wp p e below _ (T8.setTop (mkF m 18 #[.val (.ref d0), .val (.int (1 : Int32)), .val (.int (2 : Int32)), .val (.ref r1), .val (.int (1 : Int32))] [(.ref d0), (.int (1 : Int32)), (.ref r1)]))
  refine Wp.step (fun t k => XS.iloadN X8.here hx rfl (hb hby d21_18) rfl k) ?_
  show Wp p e below _ (T8.setTop (mkF m 19 #[.val (.ref d0), .val (.int (1 : Int32)), .val (.int (2 : Int32)), .val (.ref r1), .val (.int (1 : Int32))] [(.int (1 : Int32)), (.ref d0), (.int (1 : Int32)), (.ref r1)]))
  obtain ⟨cl15, Ar15, Sz15, Nn15, El15⟩ := id B9
  have hin15 : ¬ ((1 : Int32) < 0 ∨ cl15.slots.size ≤ ((1 : Int32)).toNatClampNeg) := inb_of Sz15 ⟨by decide, by decide⟩
  have hat15 : cl15.slots[((1 : Int32)).toNatClampNeg]? = some (.int ((own_ch c0 c1) ((1 : Int32)).toNatClampNeg)) := (El15 _ (by have q := Nat.lt_of_not_le fun q => hin15 (Or.inr q); rw [Sz15] at q; exact q)).1
  rw [show ((own_ch c0 c1) ((1 : Int32)).toNatClampNeg) = c1 from rfl] at hat15
  refine Wp.step (X8.caload hx (j := (1 : Int32)) (v := (.int c1)) (by rw [e8]; exact Ar15.1) (State.isArrayOf_alike hZ.alike Ar15.2.1) Ar15.2.2 hin15 hat15 (g := (mkF m 19 #[.val (.ref d0), .val (.int (1 : Int32)), .val (.int (2 : Int32)), .val (.ref r1), .val (.int (1 : Int32))] [(.int (1 : Int32)), (.ref d0), (.int (1 : Int32)), (.ref r1)])) rfl rfl (hb hby d21_19)) ?_
  show Wp p e below _ (T8.setTop (mkF m 20 #[.val (.ref d0), .val (.int (1 : Int32)), .val (.int (2 : Int32)), .val (.ref r1), .val (.int (1 : Int32))] [(.int c1), (.int (1 : Int32)), (.ref r1)]))
  obtain ⟨_, _, ⟨T16, L16, k16, n16⟩, -, X16, ⟨Lc16, hQ16, l16, y16, z16⟩, st16⟩ := Jvm.LawKit.callS X8 hx (y := (⟨"java/lang/StringUTF16", "putChar", "([BII)V"⟩ : MethodName)) hown (mvT hZ (hw _ (List.mem_of_getElem? (i := 103) rfl))) (mvT hZ (hw _ (List.mem_of_getElem? (i := 104) rfl))) (mvT hZ (hw _ (List.mem_of_getElem? (i := 54) rfl))) (mvT hZ (hw _ (List.mem_of_getElem? (i := 105) rfl))) (by decide) (backOf (W := 0) (rm24 l Z a0 hw [] r1 (1 : Int32) c1 (4 : Int32) (own_pc (fun _ => (0 : Int32)) (0 : Int32) c0) h8 n0 (Nat.le_trans Z0 K8.1) g_r1 o8_0 c10 c11 c12 (by decide) (by decide)) hZ (hw _ (List.mem_of_getElem? (i := 105) rfl)) (hw _ (List.mem_of_getElem? (i := 54) rfl)) (by decide) (by decide)) (g := (mkF m 20 #[.val (.ref d0), .val (.int (1 : Int32)), .val (.int (2 : Int32)), .val (.ref r1), .val (.int (1 : Int32))] [(.int c1), (.int (1 : Int32)), (.ref r1)])) rfl (by rw [hml]; rfl) (argsL := [(.ref r1), (.int (1 : Int32)), (.int c1)]) (rest := []) (lenOf pd_285bBII29V rfl) rfl (by show 2 * 0 + _ ≤ _; exact Nat.le_of_eq rfl) (hb hby d21_20) (fun _ _ => ⟨rfl, e8, (by decide : 1 + 0 ≤ _), (by decide : 4 + 0 ≤ _)⟩)
  dsimp only [Pt.U, Pt.locs, Pt.cells, Pt.slots] at X16 l16 y16 z16 st16 hQ16
  subst l16 y16 z16
  obtain ⟨h16, e16⟩ : ∃ z, T16.heap = z := ⟨_, rfl⟩
  rw [e16] at hQ16
  obtain ⟨rfl, N16q, Kc16, o16_0⟩ := hQ16
  have N16 := Fr.app N8 N16q
  have B17 := B9.keep Kc16 (ninS ne_d0_r1 nin0)
  have c18 := own_sta_keep c10 Kc16 (allS (own_nsB o8_0) all0)
  have c19 := own_sta_keep c11 Kc16 (allS (own_nsB o8_0) all0)
  have c20 := own_sta_keep c12 Kc16 (allS (own_nsB o8_0) all0)
  have K16 := K8.trans Kc16 (allS (Or.inr sz_r1) all0)
  refine Wp.step st16 ?_
  show Wp p e below _ (T16.setTop (mkF m 23 #[.val (.ref d0), .val (.int (1 : Int32)), .val (.int (2 : Int32)), .val (.ref r1), .val (.int (1 : Int32))] []))
  refine Wp.step (fun t k => XS.iinc X16.here hx rfl (hb hby d21_23) rfl (l' := #[.val (.ref d0), .val (.int ((1 : Int32) + (1 : Int32))), .val (.int (2 : Int32)), .val (.ref r1), .val (.int (1 : Int32))]) rfl k) ?_
  show Wp p e below _ (T16.setTop (mkF m 26 #[.val (.ref d0), .val (.int ((1 : Int32) + (1 : Int32))), .val (.int (2 : Int32)), .val (.ref r1), .val (.int (1 : Int32))] []))
  rw [show ((1 : Int32) + (1 : Int32)) = (2 : Int32) from (by decide)]
  refine Wp.step (fun t k => XS.iinc X16.here hx rfl (hb hby d21_26) rfl (l' := #[.val (.ref d0), .val (.int (2 : Int32)), .val (.int (2 : Int32)), .val (.ref r1), .val (.int ((1 : Int32) + (1 : Int32)))]) rfl k) ?_
  show Wp p e below _ (T16.setTop (mkF m 29 #[.val (.ref d0), .val (.int (2 : Int32)), .val (.int (2 : Int32)), .val (.ref r1), .val (.int ((1 : Int32) + (1 : Int32)))] []))
  rw [show ((1 : Int32) + (1 : Int32)) = (2 : Int32) from (by decide)]
  refine Wp.step (fun t k => XS.goto X16.here hx rfl (pc0 := 29) (pc' := 8) rfl (hb hby d21_29) (by decide) (by decide) k) ?_
  show Wp p e below _ (T16.setTop (mkF m 8 #[.val (.ref d0), .val (.int (2 : Int32)), .val (.int (2 : Int32)), .val (.ref r1), .val (.int (2 : Int32))] []))
  refine Wp.step (fun t k => XS.iload X16.here hx rfl (hb hby d21_8) rfl k) ?_
  show Wp p e below _ (T16.setTop (mkF m 10 #[.val (.ref d0), .val (.int (2 : Int32)), .val (.int (2 : Int32)), .val (.ref r1), .val (.int (2 : Int32))] [(.int (2 : Int32))]))
  refine Wp.step (fun t k => XS.iloadN X16.here hx rfl (hb hby d21_10) rfl k) ?_
  show Wp p e below _ (T16.setTop (mkF m 11 #[.val (.ref d0), .val (.int (2 : Int32)), .val (.int (2 : Int32)), .val (.ref r1), .val (.int (2 : Int32))] [(.int (2 : Int32)), (.int (2 : Int32))]))
  refine Wp.step (fun t k => XS.icmpYes X16.here hx rfl (pc0 := 11) (pc' := 32) rfl (hb hby d21_11) rfl (flt (show ¬ ((2 : Int32) < (2 : Int32)) by decide)).2.1 (by decide) (by decide) k) ?_
  show Wp p e below _ (T16.setTop (mkF m 32 #[.val (.ref d0), .val (.int (2 : Int32)), .val (.int (2 : Int32)), .val (.ref r1), .val (.int (2 : Int32))] []))
  refine Wp.step (fun t k => XS.aloadN X16.here hx rfl (hb hby d21_32) rfl rfl k) ?_
  show Wp p e below _ (T16.setTop (mkF m 33 #[.val (.ref d0), .val (.int (2 : Int32)), .val (.int (2 : Int32)), .val (.ref r1), .val (.int (2 : Int32))] [(.ref r1)]))
  refine Wp.retA X16 hx Bd.returns rfl (hb hby d21_33) hlk ?_ (by decide) (by decide)
  show Q21_2 Z d0 (0 : Int32) (2 : Int32) c0 c1 h0 n0 (some (.ref r1)) T16.heap _
  rw [e16]
  exact ⟨r1, rfl, N16, K16, sz_r1, o16_0⟩
def Q12_L2 (Z : State) (d0 : Addr) (u0 : Int32) (d1 : Addr) (u1 : Int32) (u2 : Int32) (c0 : Int32) (c1 : Int32) (g : Nat → Int32) (h0 : Heap) (n0 : Nat) (v : Option Value) (h : Heap) (L : List Loc) : Prop := v = some (.int (2 : Int32)) ∧ Fr n0 L ∧ Keep h0 h [d1] ∧ own_IA .byte Z h d1 (2 : Int32) (own_bc (own_bc g (0 : Int32) c0) (1 : Int32) c1)
set_option maxRecDepth 65536 in
set_option maxHeartbeats 40000000 in
theorem rm12_L2 (l : Launch) (Z : State) (a0 : Array Value) (hw : ∀ d ∈ tables_1, d.before a0 Z = true) (ws : List Jvm.Cond) (d0 : Addr) (u0 : Int32) (d1 : Addr) (u1 : Int32) (u2 : Int32) (c0 : Int32) (c1 : Int32) (g : Nat → Int32) (h0 : Heap) (n0 : Nat) (Z0 : n0 ≤ h0.size) (g_d1 : n0 ≤ d1) (B_d0 : own_IA .char Z h0 d0 (2 : Int32) (own_ch c0 c1)) (B_d1 : own_IA .byte Z h0 d1 (2 : Int32) g) (hu0 : u0 = 0) (hu1 : u1 = 0) (hu2 : u2 = 2) (hda : d0 ≠ d1) (l0 : ¬ (255 : Int32) < c0) (l1 : ¬ (255 : Int32) < c1) :
    MetFree l (⟨"java/lang/StringUTF16", "compress", "([CI[BII)I"⟩ : MethodName) (head1 (Jvm.Cond.code (⟨"java/lang/StringUTF16", "compress", "([CI[BII)I"⟩ : MethodName) jdk_52_method_21_code 7 (some .int) :: ws) ({ frames := 0, cells := 0, slots := 0, locals := 0 } : Room)) (fun a U => a = #[(.ref d0), (.int u0), (.ref d1), (.int u1), (.int u2)] ∧ Z.Warmed39 U.vm ∧ U.heap = h0) (fun _ _ _ _ _ => True) (fun _ U o U' => ∃ v L, o = .returned v ∧ Q12_L2 Z d0 u0 d1 u1 u2 c0 c1 g h0 n0 v U'.heap L ∧ FrameEnd U o U' L ({ frames := 0, cells := 0, slots := 0, locals := 0 } : Room).cells ({ frames := 0, cells := 0, slots := 0, locals := 0 } : Room).slots) := by
  refine MetFree.of_bodySF (plainFor_of_name pn_java_lang_StringUTF16) hisR ?_
  intro p e s m args below meth c s₁ Bd hml0 hP hK
  obtain ⟨rfl, hZ, hh⟩ := hP
  have hx := Bd.exec
  have hby := Bd.bytes
  have hlk : meth.locks = false := Bd.notSynchronized
  have hml : c.maxLocals = 7 := hml0
  have hown : s.vm.findClass "java/lang/StringUTF16" = some m.cls := findClass_of_methodNamed Bd.named
  have hnm := (name_of_methodNamed Bd.named Bd.method).1
  have X0 : Stand p l e ({ frames := 0, cells := 0, slots := 0, locals := 0 } : Room) s m #[(.ref d0), (.int u0), (.ref d1), (.int u1), (.int u2)] below meth c s₁ [] 0 0 := Stand.of_body Bd
  have e0 : s₁.heap = h0 := by rw [← hh, Bd.state]; rfl
  have N0 := Fr.nil n0
  have K0 : Keep h0 h0 [d1] := Keep.refl h0 _
  show Wp p e below (Out s (Q12_L2 Z d0 u0 d1 u1 u2 c0 c1 g h0 n0) ({ frames := 0, cells := 0, slots := 0, locals := 0 } : Room).cells ({ frames := 0, cells := 0, slots := 0, locals := 0 } : Room).slots) (s₁.setTop (entryFrame m #[(.ref d0), (.int u0), (.ref d1), (.int u1), (.int u2)] 7))
  rw [ef_12_00000]
  subst hu0 hu1 hu2
  show Wp p e below _ (s₁.setTop (mkF m 0 #[.val (.ref d0), .val (.int (0 : Int32)), .val (.ref d1), .val (.int (0 : Int32)), .val (.int (2 : Int32)), .unset, .unset] []))
  refine Wp.step (fun t k => XS.iconst X0.here hx rfl (hb hby d12_0) k) ?_
  show Wp p e below _ (s₁.setTop (mkF m 1 #[.val (.ref d0), .val (.int (0 : Int32)), .val (.ref d1), .val (.int (0 : Int32)), .val (.int (2 : Int32)), .unset, .unset] [(.int (0 : Int32))]))
  refine Wp.step (fun t k => XS.istore X0.here hx rfl (hb hby d12_1) rfl (l' := #[.val (.ref d0), .val (.int (0 : Int32)), .val (.ref d1), .val (.int (0 : Int32)), .val (.int (2 : Int32)), .val (.int (0 : Int32)), .unset]) rfl k) ?_
  show Wp p e below _ (s₁.setTop (mkF m 3 #[.val (.ref d0), .val (.int (0 : Int32)), .val (.ref d1), .val (.int (0 : Int32)), .val (.int (2 : Int32)), .val (.int (0 : Int32)), .unset] []))
  refine Wp.step (fun t k => XS.iload X0.here hx rfl (hb hby d12_3) rfl k) ?_
  show Wp p e below _ (s₁.setTop (mkF m 5 #[.val (.ref d0), .val (.int (0 : Int32)), .val (.ref d1), .val (.int (0 : Int32)), .val (.int (2 : Int32)), .val (.int (0 : Int32)), .unset] [(.int (0 : Int32))]))
  refine Wp.step (fun t k => XS.iload X0.here hx rfl (hb hby d12_5) rfl k) ?_
  show Wp p e below _ (s₁.setTop (mkF m 7 #[.val (.ref d0), .val (.int (0 : Int32)), .val (.ref d1), .val (.int (0 : Int32)), .val (.int (2 : Int32)), .val (.int (0 : Int32)), .unset] [(.int (2 : Int32)), (.int (0 : Int32))]))
  refine Wp.step (fun t k => XS.icmpNo X0.here hx rfl (hb hby d12_7) rfl (tlt (show (0 : Int32) < (2 : Int32) by decide)).2.1 k) ?_
  show Wp p e below _ (s₁.setTop (mkF m 10 #[.val (.ref d0), .val (.int (0 : Int32)), .val (.ref d1), .val (.int (0 : Int32)), .val (.int (2 : Int32)), .val (.int (0 : Int32)), .unset] []))
  refine Wp.step (fun t k => XS.aloadN X0.here hx rfl (hb hby d12_10) rfl rfl k) ?_
  show Wp p e below _ (s₁.setTop (mkF m 11 #[.val (.ref d0), .val (.int (0 : Int32)), .val (.ref d1), .val (.int (0 : Int32)), .val (.int (2 : Int32)), .val (.int (0 : Int32)), .unset] [(.ref d0)]))
  refine Wp.step (fun t k => XS.iloadN X0.here hx rfl (hb hby d12_11) rfl k) ?_
  show Wp p e below _ (s₁.setTop (mkF m 12 #[.val (.ref d0), .val (.int (0 : Int32)), .val (.ref d1), .val (.int (0 : Int32)), .val (.int (2 : Int32)), .val (.int (0 : Int32)), .unset] [(.int (0 : Int32)), (.ref d0)]))
  obtain ⟨cl2, Ar2, Sz2, Nn2, El2⟩ := id B_d0
  have hin2 : ¬ ((0 : Int32) < 0 ∨ cl2.slots.size ≤ ((0 : Int32)).toNatClampNeg) := inb_of Sz2 ⟨by decide, by decide⟩
  have hat2 : cl2.slots[((0 : Int32)).toNatClampNeg]? = some (.int ((own_ch c0 c1) ((0 : Int32)).toNatClampNeg)) := (El2 _ (by have q := Nat.lt_of_not_le fun q => hin2 (Or.inr q); rw [Sz2] at q; exact q)).1
  rw [show ((own_ch c0 c1) ((0 : Int32)).toNatClampNeg) = c0 from rfl] at hat2
  refine Wp.step (X0.caload hx (j := (0 : Int32)) (v := (.int c0)) (by rw [e0]; exact Ar2.1) (State.isArrayOf_alike hZ.alike Ar2.2.1) Ar2.2.2 hin2 hat2 (g := (mkF m 12 #[.val (.ref d0), .val (.int (0 : Int32)), .val (.ref d1), .val (.int (0 : Int32)), .val (.int (2 : Int32)), .val (.int (0 : Int32)), .unset] [(.int (0 : Int32)), (.ref d0)])) rfl rfl (hb hby d12_12)) ?_
  show Wp p e below _ (s₁.setTop (mkF m 13 #[.val (.ref d0), .val (.int (0 : Int32)), .val (.ref d1), .val (.int (0 : Int32)), .val (.int (2 : Int32)), .val (.int (0 : Int32)), .unset] [(.int c0)]))
  refine Wp.step (fun t k => XS.istore X0.here hx rfl (hb hby d12_13) rfl (l' := #[.val (.ref d0), .val (.int (0 : Int32)), .val (.ref d1), .val (.int (0 : Int32)), .val (.int (2 : Int32)), .val (.int (0 : Int32)), .val (.int c0)]) rfl k) ?_
  show Wp p e below _ (s₁.setTop (mkF m 15 #[.val (.ref d0), .val (.int (0 : Int32)), .val (.ref d1), .val (.int (0 : Int32)), .val (.int (2 : Int32)), .val (.int (0 : Int32)), .val (.int c0)] []))
  refine Wp.step (fun t k => XS.iload X0.here hx rfl (hb hby d12_15) rfl k) ?_
  show Wp p e below _ (s₁.setTop (mkF m 17 #[.val (.ref d0), .val (.int (0 : Int32)), .val (.ref d1), .val (.int (0 : Int32)), .val (.int (2 : Int32)), .val (.int (0 : Int32)), .val (.int c0)] [(.int c0)]))
  refine Wp.step (fun t k => XS.sipush X0.here hx rfl (hb hby d12_17) k) ?_
  show Wp p e below _ (s₁.setTop (mkF m 20 #[.val (.ref d0), .val (.int (0 : Int32)), .val (.ref d1), .val (.int (0 : Int32)), .val (.int (2 : Int32)), .val (.int (0 : Int32)), .val (.int c0)] [(.int (255 : Int32)), (.int c0)]))
  refine Wp.step (fun t k => XS.icmpYes X0.here hx rfl (pc0 := 20) (pc' := 26) rfl (hb hby d12_20) rfl (flt (show ¬ ((255 : Int32) < c0) from l0)).2.2.2 (by decide) (by decide) k) ?_
  show Wp p e below _ (s₁.setTop (mkF m 26 #[.val (.ref d0), .val (.int (0 : Int32)), .val (.ref d1), .val (.int (0 : Int32)), .val (.int (2 : Int32)), .val (.int (0 : Int32)), .val (.int c0)] []))
  refine Wp.step (fun t k => XS.aloadN X0.here hx rfl (hb hby d12_26) rfl rfl k) ?_
  show Wp p e below _ (s₁.setTop (mkF m 27 #[.val (.ref d0), .val (.int (0 : Int32)), .val (.ref d1), .val (.int (0 : Int32)), .val (.int (2 : Int32)), .val (.int (0 : Int32)), .val (.int c0)] [(.ref d1)]))
  refine Wp.step (fun t k => XS.iloadN X0.here hx rfl (hb hby d12_27) rfl k) ?_
  show Wp p e below _ (s₁.setTop (mkF m 28 #[.val (.ref d0), .val (.int (0 : Int32)), .val (.ref d1), .val (.int (0 : Int32)), .val (.int (2 : Int32)), .val (.int (0 : Int32)), .val (.int c0)] [(.int (0 : Int32)), (.ref d1)]))
  refine Wp.step (fun t k => XS.iload X0.here hx rfl (hb hby d12_28) rfl k) ?_
  show Wp p e below _ (s₁.setTop (mkF m 30 #[.val (.ref d0), .val (.int (0 : Int32)), .val (.ref d1), .val (.int (0 : Int32)), .val (.int (2 : Int32)), .val (.int (0 : Int32)), .val (.int c0)] [(.int c0), (.int (0 : Int32)), (.ref d1)]))
  refine Wp.step (fun t k => XS.i2b X0.here hx rfl (hb hby d12_30) rfl k) ?_
  show Wp p e below _ (s₁.setTop (mkF m 31 #[.val (.ref d0), .val (.int (0 : Int32)), .val (.ref d1), .val (.int (0 : Int32)), .val (.int (2 : Int32)), .val (.int (0 : Int32)), .val (.int c0)] [(.int (c0.toInt8.toInt32)), (.int (0 : Int32)), (.ref d1)]))
  obtain ⟨cl4, Ar4, Sz4, Nn4, El4⟩ := id B_d1
  have hin4 : ¬ ((0 : Int32) < 0 ∨ cl4.slots.size ≤ ((0 : Int32)).toNatClampNeg) := inb_of Sz4 ⟨by decide, by decide⟩
  obtain ⟨T4, h4, X4, e4, W4, st4⟩ := stB X0 hx hZ e0 Ar4 (j := (0 : Int32)) hin4 (g := (mkF m 31 #[.val (.ref d0), .val (.int (0 : Int32)), .val (.ref d1), .val (.int (0 : Int32)), .val (.int (2 : Int32)), .val (.int (0 : Int32)), .val (.int c0)] [(.int (c0.toInt8.toInt32)), (.int (0 : Int32)), (.ref d1)])) rfl rfl (hb hby d12_31)
  have B5 := B_d0.other W4 hda
  have K6 := K0.wr W4 (Or.inl (List.mem_of_getElem? (i := 0) rfl))
  have N4 := Fr.snoc X4 N0 g_d1
  have B4 := own_IA.set Ar4 Sz4 Nn4 El4 W4 (fits_nar_byte _)
  rw [own_narb] at B4
  refine Wp.step st4 ?_
  show Wp p e below _ (T4.setTop (mkF m 32 #[.val (.ref d0), .val (.int (0 : Int32)), .val (.ref d1), .val (.int (0 : Int32)), .val (.int (2 : Int32)), .val (.int (0 : Int32)), .val (.int c0)] []))
  refine Wp.step (fun t k => XS.iinc X4.here hx rfl (hb hby d12_32) rfl (l' := #[.val (.ref d0), .val (.int ((0 : Int32) + (1 : Int32))), .val (.ref d1), .val (.int (0 : Int32)), .val (.int (2 : Int32)), .val (.int (0 : Int32)), .val (.int c0)]) rfl k) ?_
  show Wp p e below _ (T4.setTop (mkF m 35 #[.val (.ref d0), .val (.int ((0 : Int32) + (1 : Int32))), .val (.ref d1), .val (.int (0 : Int32)), .val (.int (2 : Int32)), .val (.int (0 : Int32)), .val (.int c0)] []))
  rw [show ((0 : Int32) + (1 : Int32)) = (1 : Int32) from (by decide)]
  refine Wp.step (fun t k => XS.iinc X4.here hx rfl (hb hby d12_35) rfl (l' := #[.val (.ref d0), .val (.int (1 : Int32)), .val (.ref d1), .val (.int ((0 : Int32) + (1 : Int32))), .val (.int (2 : Int32)), .val (.int (0 : Int32)), .val (.int c0)]) rfl k) ?_
  show Wp p e below _ (T4.setTop (mkF m 38 #[.val (.ref d0), .val (.int (1 : Int32)), .val (.ref d1), .val (.int ((0 : Int32) + (1 : Int32))), .val (.int (2 : Int32)), .val (.int (0 : Int32)), .val (.int c0)] []))
  rw [show ((0 : Int32) + (1 : Int32)) = (1 : Int32) from (by decide)]
  refine Wp.step (fun t k => XS.iinc X4.here hx rfl (hb hby d12_38) rfl (l' := #[.val (.ref d0), .val (.int (1 : Int32)), .val (.ref d1), .val (.int (1 : Int32)), .val (.int (2 : Int32)), .val (.int ((0 : Int32) + (1 : Int32))), .val (.int c0)]) rfl k) ?_
  show Wp p e below _ (T4.setTop (mkF m 41 #[.val (.ref d0), .val (.int (1 : Int32)), .val (.ref d1), .val (.int (1 : Int32)), .val (.int (2 : Int32)), .val (.int ((0 : Int32) + (1 : Int32))), .val (.int c0)] []))
  rw [show ((0 : Int32) + (1 : Int32)) = (1 : Int32) from (by decide)]
  refine Wp.step (fun t k => XS.goto X4.here hx rfl (pc0 := 41) (pc' := 3) rfl (hb hby d12_41) (by decide) (by decide) k) ?_
  show Wp p e below _ (T4.setTop (mkF m 3 #[.val (.ref d0), .val (.int (1 : Int32)), .val (.ref d1), .val (.int (1 : Int32)), .val (.int (2 : Int32)), .val (.int (1 : Int32)), .val (.int c0)] []))
  refine Wp.step (fun t k => XS.iload X4.here hx rfl (hb hby d12_3) rfl k) ?_
  show Wp p e below _ (T4.setTop (mkF m 5 #[.val (.ref d0), .val (.int (1 : Int32)), .val (.ref d1), .val (.int (1 : Int32)), .val (.int (2 : Int32)), .val (.int (1 : Int32)), .val (.int c0)] [(.int (1 : Int32))]))
  refine Wp.step (fun t k => XS.iload X4.here hx rfl (hb hby d12_5) rfl k) ?_
  show Wp p e below _ (T4.setTop (mkF m 7 #[.val (.ref d0), .val (.int (1 : Int32)), .val (.ref d1), .val (.int (1 : Int32)), .val (.int (2 : Int32)), .val (.int (1 : Int32)), .val (.int c0)] [(.int (2 : Int32)), (.int (1 : Int32))]))
  refine Wp.step (fun t k => XS.icmpNo X4.here hx rfl (hb hby d12_7) rfl (tlt (show (1 : Int32) < (2 : Int32) by decide)).2.1 k) ?_
  show Wp p e below _ (T4.setTop (mkF m 10 #[.val (.ref d0), .val (.int (1 : Int32)), .val (.ref d1), .val (.int (1 : Int32)), .val (.int (2 : Int32)), .val (.int (1 : Int32)), .val (.int c0)] []))
  refine Wp.step (fun t k => XS.aloadN X4.here hx rfl (hb hby d12_10) rfl rfl k) ?_
  show Wp p e below _ (T4.setTop (mkF m 11 #[.val (.ref d0), .val (.int (1 : Int32)), .val (.ref d1), .val (.int (1 : Int32)), .val (.int (2 : Int32)), .val (.int (1 : Int32)), .val (.int c0)] [(.ref d0)]))
  refine Wp.step (fun t k => XS.iloadN X4.here hx rfl (hb hby d12_11) rfl k) ?_
  show Wp p e below _ (T4.setTop (mkF m 12 #[.val (.ref d0), .val (.int (1 : Int32)), .val (.ref d1), .val (.int (1 : Int32)), .val (.int (2 : Int32)), .val (.int (1 : Int32)), .val (.int c0)] [(.int (1 : Int32)), (.ref d0)]))
  obtain ⟨cl8, Ar8, Sz8, Nn8, El8⟩ := id B5
  have hin8 : ¬ ((1 : Int32) < 0 ∨ cl8.slots.size ≤ ((1 : Int32)).toNatClampNeg) := inb_of Sz8 ⟨by decide, by decide⟩
  have hat8 : cl8.slots[((1 : Int32)).toNatClampNeg]? = some (.int ((own_ch c0 c1) ((1 : Int32)).toNatClampNeg)) := (El8 _ (by have q := Nat.lt_of_not_le fun q => hin8 (Or.inr q); rw [Sz8] at q; exact q)).1
  rw [show ((own_ch c0 c1) ((1 : Int32)).toNatClampNeg) = c1 from rfl] at hat8
  refine Wp.step (X4.caload hx (j := (1 : Int32)) (v := (.int c1)) (by rw [e4]; exact Ar8.1) (State.isArrayOf_alike hZ.alike Ar8.2.1) Ar8.2.2 hin8 hat8 (g := (mkF m 12 #[.val (.ref d0), .val (.int (1 : Int32)), .val (.ref d1), .val (.int (1 : Int32)), .val (.int (2 : Int32)), .val (.int (1 : Int32)), .val (.int c0)] [(.int (1 : Int32)), (.ref d0)])) rfl rfl (hb hby d12_12)) ?_
  show Wp p e below _ (T4.setTop (mkF m 13 #[.val (.ref d0), .val (.int (1 : Int32)), .val (.ref d1), .val (.int (1 : Int32)), .val (.int (2 : Int32)), .val (.int (1 : Int32)), .val (.int c0)] [(.int c1)]))
  refine Wp.step (fun t k => XS.istore X4.here hx rfl (hb hby d12_13) rfl (l' := #[.val (.ref d0), .val (.int (1 : Int32)), .val (.ref d1), .val (.int (1 : Int32)), .val (.int (2 : Int32)), .val (.int (1 : Int32)), .val (.int c1)]) rfl k) ?_
  show Wp p e below _ (T4.setTop (mkF m 15 #[.val (.ref d0), .val (.int (1 : Int32)), .val (.ref d1), .val (.int (1 : Int32)), .val (.int (2 : Int32)), .val (.int (1 : Int32)), .val (.int c1)] []))
  refine Wp.step (fun t k => XS.iload X4.here hx rfl (hb hby d12_15) rfl k) ?_
  show Wp p e below _ (T4.setTop (mkF m 17 #[.val (.ref d0), .val (.int (1 : Int32)), .val (.ref d1), .val (.int (1 : Int32)), .val (.int (2 : Int32)), .val (.int (1 : Int32)), .val (.int c1)] [(.int c1)]))
  refine Wp.step (fun t k => XS.sipush X4.here hx rfl (hb hby d12_17) k) ?_
  show Wp p e below _ (T4.setTop (mkF m 20 #[.val (.ref d0), .val (.int (1 : Int32)), .val (.ref d1), .val (.int (1 : Int32)), .val (.int (2 : Int32)), .val (.int (1 : Int32)), .val (.int c1)] [(.int (255 : Int32)), (.int c1)]))
  refine Wp.step (fun t k => XS.icmpYes X4.here hx rfl (pc0 := 20) (pc' := 26) rfl (hb hby d12_20) rfl (flt (show ¬ ((255 : Int32) < c1) from l1)).2.2.2 (by decide) (by decide) k) ?_
  show Wp p e below _ (T4.setTop (mkF m 26 #[.val (.ref d0), .val (.int (1 : Int32)), .val (.ref d1), .val (.int (1 : Int32)), .val (.int (2 : Int32)), .val (.int (1 : Int32)), .val (.int c1)] []))
  refine Wp.step (fun t k => XS.aloadN X4.here hx rfl (hb hby d12_26) rfl rfl k) ?_
  show Wp p e below _ (T4.setTop (mkF m 27 #[.val (.ref d0), .val (.int (1 : Int32)), .val (.ref d1), .val (.int (1 : Int32)), .val (.int (2 : Int32)), .val (.int (1 : Int32)), .val (.int c1)] [(.ref d1)]))
  refine Wp.step (fun t k => XS.iloadN X4.here hx rfl (hb hby d12_27) rfl k) ?_
  show Wp p e below _ (T4.setTop (mkF m 28 #[.val (.ref d0), .val (.int (1 : Int32)), .val (.ref d1), .val (.int (1 : Int32)), .val (.int (2 : Int32)), .val (.int (1 : Int32)), .val (.int c1)] [(.int (1 : Int32)), (.ref d1)]))
  refine Wp.step (fun t k => XS.iload X4.here hx rfl (hb hby d12_28) rfl k) ?_
  show Wp p e below _ (T4.setTop (mkF m 30 #[.val (.ref d0), .val (.int (1 : Int32)), .val (.ref d1), .val (.int (1 : Int32)), .val (.int (2 : Int32)), .val (.int (1 : Int32)), .val (.int c1)] [(.int c1), (.int (1 : Int32)), (.ref d1)]))
  refine Wp.step (fun t k => XS.i2b X4.here hx rfl (hb hby d12_30) rfl k) ?_
  show Wp p e below _ (T4.setTop (mkF m 31 #[.val (.ref d0), .val (.int (1 : Int32)), .val (.ref d1), .val (.int (1 : Int32)), .val (.int (2 : Int32)), .val (.int (1 : Int32)), .val (.int c1)] [(.int (c1.toInt8.toInt32)), (.int (1 : Int32)), (.ref d1)]))
  obtain ⟨cl10, Ar10, Sz10, Nn10, El10⟩ := id B4
  have hin10 : ¬ ((1 : Int32) < 0 ∨ cl10.slots.size ≤ ((1 : Int32)).toNatClampNeg) := inb_of Sz10 ⟨by decide, by decide⟩
  obtain ⟨T10, h10, X10, e10, W10, st10⟩ := stB X4 hx hZ e4 Ar10 (j := (1 : Int32)) hin10 (g := (mkF m 31 #[.val (.ref d0), .val (.int (1 : Int32)), .val (.ref d1), .val (.int (1 : Int32)), .val (.int (2 : Int32)), .val (.int (1 : Int32)), .val (.int c1)] [(.int (c1.toInt8.toInt32)), (.int (1 : Int32)), (.ref d1)])) rfl rfl (hb hby d12_31)
  have B11 := B5.other W10 hda
  have K12 := K6.wr W10 (Or.inl (List.mem_of_getElem? (i := 0) rfl))
  have N10 := Fr.snoc X10 N4 g_d1
  have B10 := own_IA.set Ar10 Sz10 Nn10 El10 W10 (fits_nar_byte _)
  rw [own_narb] at B10
  refine Wp.step st10 ?_
  show Wp p e below _ (T10.setTop (mkF m 32 #[.val (.ref d0), .val (.int (1 : Int32)), .val (.ref d1), .val (.int (1 : Int32)), .val (.int (2 : Int32)), .val (.int (1 : Int32)), .val (.int c1)] []))
  refine Wp.step (fun t k => XS.iinc X10.here hx rfl (hb hby d12_32) rfl (l' := #[.val (.ref d0), .val (.int ((1 : Int32) + (1 : Int32))), .val (.ref d1), .val (.int (1 : Int32)), .val (.int (2 : Int32)), .val (.int (1 : Int32)), .val (.int c1)]) rfl k) ?_
  show Wp p e below _ (T10.setTop (mkF m 35 #[.val (.ref d0), .val (.int ((1 : Int32) + (1 : Int32))), .val (.ref d1), .val (.int (1 : Int32)), .val (.int (2 : Int32)), .val (.int (1 : Int32)), .val (.int c1)] []))
  rw [show ((1 : Int32) + (1 : Int32)) = (2 : Int32) from (by decide)]
  refine Wp.step (fun t k => XS.iinc X10.here hx rfl (hb hby d12_35) rfl (l' := #[.val (.ref d0), .val (.int (2 : Int32)), .val (.ref d1), .val (.int ((1 : Int32) + (1 : Int32))), .val (.int (2 : Int32)), .val (.int (1 : Int32)), .val (.int c1)]) rfl k) ?_
  show Wp p e below _ (T10.setTop (mkF m 38 #[.val (.ref d0), .val (.int (2 : Int32)), .val (.ref d1), .val (.int ((1 : Int32) + (1 : Int32))), .val (.int (2 : Int32)), .val (.int (1 : Int32)), .val (.int c1)] []))
  rw [show ((1 : Int32) + (1 : Int32)) = (2 : Int32) from (by decide)]
  refine Wp.step (fun t k => XS.iinc X10.here hx rfl (hb hby d12_38) rfl (l' := #[.val (.ref d0), .val (.int (2 : Int32)), .val (.ref d1), .val (.int (2 : Int32)), .val (.int (2 : Int32)), .val (.int ((1 : Int32) + (1 : Int32))), .val (.int c1)]) rfl k) ?_
  show Wp p e below _ (T10.setTop (mkF m 41 #[.val (.ref d0), .val (.int (2 : Int32)), .val (.ref d1), .val (.int (2 : Int32)), .val (.int (2 : Int32)), .val (.int ((1 : Int32) + (1 : Int32))), .val (.int c1)] []))
  rw [show ((1 : Int32) + (1 : Int32)) = (2 : Int32) from (by decide)]
  refine Wp.step (fun t k => XS.goto X10.here hx rfl (pc0 := 41) (pc' := 3) rfl (hb hby d12_41) (by decide) (by decide) k) ?_
  show Wp p e below _ (T10.setTop (mkF m 3 #[.val (.ref d0), .val (.int (2 : Int32)), .val (.ref d1), .val (.int (2 : Int32)), .val (.int (2 : Int32)), .val (.int (2 : Int32)), .val (.int c1)] []))
  refine Wp.step (fun t k => XS.iload X10.here hx rfl (hb hby d12_3) rfl k) ?_
  show Wp p e below _ (T10.setTop (mkF m 5 #[.val (.ref d0), .val (.int (2 : Int32)), .val (.ref d1), .val (.int (2 : Int32)), .val (.int (2 : Int32)), .val (.int (2 : Int32)), .val (.int c1)] [(.int (2 : Int32))]))
  refine Wp.step (fun t k => XS.iload X10.here hx rfl (hb hby d12_5) rfl k) ?_
  show Wp p e below _ (T10.setTop (mkF m 7 #[.val (.ref d0), .val (.int (2 : Int32)), .val (.ref d1), .val (.int (2 : Int32)), .val (.int (2 : Int32)), .val (.int (2 : Int32)), .val (.int c1)] [(.int (2 : Int32)), (.int (2 : Int32))]))
  refine Wp.step (fun t k => XS.icmpYes X10.here hx rfl (pc0 := 7) (pc' := 44) rfl (hb hby d12_7) rfl (flt (show ¬ ((2 : Int32) < (2 : Int32)) by decide)).2.1 (by decide) (by decide) k) ?_
  show Wp p e below _ (T10.setTop (mkF m 44 #[.val (.ref d0), .val (.int (2 : Int32)), .val (.ref d1), .val (.int (2 : Int32)), .val (.int (2 : Int32)), .val (.int (2 : Int32)), .val (.int c1)] []))
  refine Wp.step (fun t k => XS.iload X10.here hx rfl (hb hby d12_44) rfl k) ?_
  show Wp p e below _ (T10.setTop (mkF m 46 #[.val (.ref d0), .val (.int (2 : Int32)), .val (.ref d1), .val (.int (2 : Int32)), .val (.int (2 : Int32)), .val (.int (2 : Int32)), .val (.int c1)] [(.int (2 : Int32))]))
  refine Wp.retI X10 hx Bd.returns (hb hby d12_46) hlk ?_ (by decide) (by decide)
  show Q12_L2 Z d0 (0 : Int32) d1 (0 : Int32) (2 : Int32) c0 c1 g h0 n0 (some (.int (2 : Int32))) T10.heap _
  rw [e10]
  exact ⟨rfl, N10, K12, B10⟩
def Q12_N2 (Z : State) (d0 : Addr) (u0 : Int32) (d1 : Addr) (u1 : Int32) (u2 : Int32) (c0 : Int32) (c1 : Int32) (g : Nat → Int32) (h0 : Heap) (n0 : Nat) (v : Option Value) (h : Heap) (L : List Loc) : Prop := v = some (.int (0 : Int32)) ∧ Fr n0 L ∧ Keep h0 h [d1]
set_option maxRecDepth 65536 in
set_option maxHeartbeats 40000000 in
theorem rm12_N2 (l : Launch) (Z : State) (a0 : Array Value) (hw : ∀ d ∈ tables_1, d.before a0 Z = true) (ws : List Jvm.Cond) (d0 : Addr) (u0 : Int32) (d1 : Addr) (u1 : Int32) (u2 : Int32) (c0 : Int32) (c1 : Int32) (g : Nat → Int32) (h0 : Heap) (n0 : Nat) (Z0 : n0 ≤ h0.size) (g_d1 : n0 ≤ d1) (B_d0 : own_IA .char Z h0 d0 (2 : Int32) (own_ch c0 c1)) (B_d1 : own_IA .byte Z h0 d1 (2 : Int32) g) (hu0 : u0 = 0) (hu1 : u1 = 0) (hu2 : u2 = 2) (hda : d0 ≠ d1) (l0 : (255 : Int32) < c0) :
    MetFree l (⟨"java/lang/StringUTF16", "compress", "([CI[BII)I"⟩ : MethodName) (head1 (Jvm.Cond.code (⟨"java/lang/StringUTF16", "compress", "([CI[BII)I"⟩ : MethodName) jdk_52_method_21_code 7 (some .int) :: ws) ({ frames := 0, cells := 0, slots := 0, locals := 0 } : Room)) (fun a U => a = #[(.ref d0), (.int u0), (.ref d1), (.int u1), (.int u2)] ∧ Z.Warmed39 U.vm ∧ U.heap = h0) (fun _ _ _ _ _ => True) (fun _ U o U' => ∃ v L, o = .returned v ∧ Q12_N2 Z d0 u0 d1 u1 u2 c0 c1 g h0 n0 v U'.heap L ∧ FrameEnd U o U' L ({ frames := 0, cells := 0, slots := 0, locals := 0 } : Room).cells ({ frames := 0, cells := 0, slots := 0, locals := 0 } : Room).slots) := by
  refine MetFree.of_bodySF (plainFor_of_name pn_java_lang_StringUTF16) hisR ?_
  intro p e s m args below meth c s₁ Bd hml0 hP hK
  obtain ⟨rfl, hZ, hh⟩ := hP
  have hx := Bd.exec
  have hby := Bd.bytes
  have hlk : meth.locks = false := Bd.notSynchronized
  have hml : c.maxLocals = 7 := hml0
  have hown : s.vm.findClass "java/lang/StringUTF16" = some m.cls := findClass_of_methodNamed Bd.named
  have hnm := (name_of_methodNamed Bd.named Bd.method).1
  have X0 : Stand p l e ({ frames := 0, cells := 0, slots := 0, locals := 0 } : Room) s m #[(.ref d0), (.int u0), (.ref d1), (.int u1), (.int u2)] below meth c s₁ [] 0 0 := Stand.of_body Bd
  have e0 : s₁.heap = h0 := by rw [← hh, Bd.state]; rfl
  have N0 := Fr.nil n0
  have K0 : Keep h0 h0 [d1] := Keep.refl h0 _
  show Wp p e below (Out s (Q12_N2 Z d0 u0 d1 u1 u2 c0 c1 g h0 n0) ({ frames := 0, cells := 0, slots := 0, locals := 0 } : Room).cells ({ frames := 0, cells := 0, slots := 0, locals := 0 } : Room).slots) (s₁.setTop (entryFrame m #[(.ref d0), (.int u0), (.ref d1), (.int u1), (.int u2)] 7))
  rw [ef_12_00000]
  subst hu0 hu1 hu2
  show Wp p e below _ (s₁.setTop (mkF m 0 #[.val (.ref d0), .val (.int (0 : Int32)), .val (.ref d1), .val (.int (0 : Int32)), .val (.int (2 : Int32)), .unset, .unset] []))
  refine Wp.step (fun t k => XS.iconst X0.here hx rfl (hb hby d12_0) k) ?_
  show Wp p e below _ (s₁.setTop (mkF m 1 #[.val (.ref d0), .val (.int (0 : Int32)), .val (.ref d1), .val (.int (0 : Int32)), .val (.int (2 : Int32)), .unset, .unset] [(.int (0 : Int32))]))
  refine Wp.step (fun t k => XS.istore X0.here hx rfl (hb hby d12_1) rfl (l' := #[.val (.ref d0), .val (.int (0 : Int32)), .val (.ref d1), .val (.int (0 : Int32)), .val (.int (2 : Int32)), .val (.int (0 : Int32)), .unset]) rfl k) ?_
  show Wp p e below _ (s₁.setTop (mkF m 3 #[.val (.ref d0), .val (.int (0 : Int32)), .val (.ref d1), .val (.int (0 : Int32)), .val (.int (2 : Int32)), .val (.int (0 : Int32)), .unset] []))
  refine Wp.step (fun t k => XS.iload X0.here hx rfl (hb hby d12_3) rfl k) ?_
  show Wp p e below _ (s₁.setTop (mkF m 5 #[.val (.ref d0), .val (.int (0 : Int32)), .val (.ref d1), .val (.int (0 : Int32)), .val (.int (2 : Int32)), .val (.int (0 : Int32)), .unset] [(.int (0 : Int32))]))
  refine Wp.step (fun t k => XS.iload X0.here hx rfl (hb hby d12_5) rfl k) ?_
  show Wp p e below _ (s₁.setTop (mkF m 7 #[.val (.ref d0), .val (.int (0 : Int32)), .val (.ref d1), .val (.int (0 : Int32)), .val (.int (2 : Int32)), .val (.int (0 : Int32)), .unset] [(.int (2 : Int32)), (.int (0 : Int32))]))
  refine Wp.step (fun t k => XS.icmpNo X0.here hx rfl (hb hby d12_7) rfl (tlt (show (0 : Int32) < (2 : Int32) by decide)).2.1 k) ?_
  show Wp p e below _ (s₁.setTop (mkF m 10 #[.val (.ref d0), .val (.int (0 : Int32)), .val (.ref d1), .val (.int (0 : Int32)), .val (.int (2 : Int32)), .val (.int (0 : Int32)), .unset] []))
  refine Wp.step (fun t k => XS.aloadN X0.here hx rfl (hb hby d12_10) rfl rfl k) ?_
  show Wp p e below _ (s₁.setTop (mkF m 11 #[.val (.ref d0), .val (.int (0 : Int32)), .val (.ref d1), .val (.int (0 : Int32)), .val (.int (2 : Int32)), .val (.int (0 : Int32)), .unset] [(.ref d0)]))
  refine Wp.step (fun t k => XS.iloadN X0.here hx rfl (hb hby d12_11) rfl k) ?_
  show Wp p e below _ (s₁.setTop (mkF m 12 #[.val (.ref d0), .val (.int (0 : Int32)), .val (.ref d1), .val (.int (0 : Int32)), .val (.int (2 : Int32)), .val (.int (0 : Int32)), .unset] [(.int (0 : Int32)), (.ref d0)]))
  obtain ⟨cl2, Ar2, Sz2, Nn2, El2⟩ := id B_d0
  have hin2 : ¬ ((0 : Int32) < 0 ∨ cl2.slots.size ≤ ((0 : Int32)).toNatClampNeg) := inb_of Sz2 ⟨by decide, by decide⟩
  have hat2 : cl2.slots[((0 : Int32)).toNatClampNeg]? = some (.int ((own_ch c0 c1) ((0 : Int32)).toNatClampNeg)) := (El2 _ (by have q := Nat.lt_of_not_le fun q => hin2 (Or.inr q); rw [Sz2] at q; exact q)).1
  rw [show ((own_ch c0 c1) ((0 : Int32)).toNatClampNeg) = c0 from rfl] at hat2
  refine Wp.step (X0.caload hx (j := (0 : Int32)) (v := (.int c0)) (by rw [e0]; exact Ar2.1) (State.isArrayOf_alike hZ.alike Ar2.2.1) Ar2.2.2 hin2 hat2 (g := (mkF m 12 #[.val (.ref d0), .val (.int (0 : Int32)), .val (.ref d1), .val (.int (0 : Int32)), .val (.int (2 : Int32)), .val (.int (0 : Int32)), .unset] [(.int (0 : Int32)), (.ref d0)])) rfl rfl (hb hby d12_12)) ?_
  show Wp p e below _ (s₁.setTop (mkF m 13 #[.val (.ref d0), .val (.int (0 : Int32)), .val (.ref d1), .val (.int (0 : Int32)), .val (.int (2 : Int32)), .val (.int (0 : Int32)), .unset] [(.int c0)]))
  refine Wp.step (fun t k => XS.istore X0.here hx rfl (hb hby d12_13) rfl (l' := #[.val (.ref d0), .val (.int (0 : Int32)), .val (.ref d1), .val (.int (0 : Int32)), .val (.int (2 : Int32)), .val (.int (0 : Int32)), .val (.int c0)]) rfl k) ?_
  show Wp p e below _ (s₁.setTop (mkF m 15 #[.val (.ref d0), .val (.int (0 : Int32)), .val (.ref d1), .val (.int (0 : Int32)), .val (.int (2 : Int32)), .val (.int (0 : Int32)), .val (.int c0)] []))
  refine Wp.step (fun t k => XS.iload X0.here hx rfl (hb hby d12_15) rfl k) ?_
  show Wp p e below _ (s₁.setTop (mkF m 17 #[.val (.ref d0), .val (.int (0 : Int32)), .val (.ref d1), .val (.int (0 : Int32)), .val (.int (2 : Int32)), .val (.int (0 : Int32)), .val (.int c0)] [(.int c0)]))
  refine Wp.step (fun t k => XS.sipush X0.here hx rfl (hb hby d12_17) k) ?_
  show Wp p e below _ (s₁.setTop (mkF m 20 #[.val (.ref d0), .val (.int (0 : Int32)), .val (.ref d1), .val (.int (0 : Int32)), .val (.int (2 : Int32)), .val (.int (0 : Int32)), .val (.int c0)] [(.int (255 : Int32)), (.int c0)]))
  refine Wp.step (fun t k => XS.icmpNo X0.here hx rfl (hb hby d12_20) rfl (tlt (show (255 : Int32) < c0 from l0)).2.2.2 k) ?_
  show Wp p e below _ (s₁.setTop (mkF m 23 #[.val (.ref d0), .val (.int (0 : Int32)), .val (.ref d1), .val (.int (0 : Int32)), .val (.int (2 : Int32)), .val (.int (0 : Int32)), .val (.int c0)] []))
  refine Wp.step (fun t k => XS.iload X0.here hx rfl (hb hby d12_23) rfl k) ?_
  show Wp p e below _ (s₁.setTop (mkF m 25 #[.val (.ref d0), .val (.int (0 : Int32)), .val (.ref d1), .val (.int (0 : Int32)), .val (.int (2 : Int32)), .val (.int (0 : Int32)), .val (.int c0)] [(.int (0 : Int32))]))
  refine Wp.retI X0 hx Bd.returns (hb hby d12_25) hlk ?_ (by decide) (by decide)
  show Q12_N2 Z d0 (0 : Int32) d1 (0 : Int32) (2 : Int32) c0 c1 g h0 n0 (some (.int (0 : Int32))) s₁.heap _
  rw [e0]
  exact ⟨rfl, N0, K0⟩
def Q12_M2 (Z : State) (d0 : Addr) (u0 : Int32) (d1 : Addr) (u1 : Int32) (u2 : Int32) (c0 : Int32) (c1 : Int32) (g : Nat → Int32) (h0 : Heap) (n0 : Nat) (v : Option Value) (h : Heap) (L : List Loc) : Prop := v = some (.int (1 : Int32)) ∧ Fr n0 L ∧ Keep h0 h [d1]
set_option maxRecDepth 65536 in
set_option maxHeartbeats 40000000 in
theorem rm12_M2 (l : Launch) (Z : State) (a0 : Array Value) (hw : ∀ d ∈ tables_1, d.before a0 Z = true) (ws : List Jvm.Cond) (d0 : Addr) (u0 : Int32) (d1 : Addr) (u1 : Int32) (u2 : Int32) (c0 : Int32) (c1 : Int32) (g : Nat → Int32) (h0 : Heap) (n0 : Nat) (Z0 : n0 ≤ h0.size) (g_d1 : n0 ≤ d1) (B_d0 : own_IA .char Z h0 d0 (2 : Int32) (own_ch c0 c1)) (B_d1 : own_IA .byte Z h0 d1 (2 : Int32) g) (hu0 : u0 = 0) (hu1 : u1 = 0) (hu2 : u2 = 2) (hda : d0 ≠ d1) (l0 : ¬ (255 : Int32) < c0) (l1 : (255 : Int32) < c1) :
    MetFree l (⟨"java/lang/StringUTF16", "compress", "([CI[BII)I"⟩ : MethodName) (head1 (Jvm.Cond.code (⟨"java/lang/StringUTF16", "compress", "([CI[BII)I"⟩ : MethodName) jdk_52_method_21_code 7 (some .int) :: ws) ({ frames := 0, cells := 0, slots := 0, locals := 0 } : Room)) (fun a U => a = #[(.ref d0), (.int u0), (.ref d1), (.int u1), (.int u2)] ∧ Z.Warmed39 U.vm ∧ U.heap = h0) (fun _ _ _ _ _ => True) (fun _ U o U' => ∃ v L, o = .returned v ∧ Q12_M2 Z d0 u0 d1 u1 u2 c0 c1 g h0 n0 v U'.heap L ∧ FrameEnd U o U' L ({ frames := 0, cells := 0, slots := 0, locals := 0 } : Room).cells ({ frames := 0, cells := 0, slots := 0, locals := 0 } : Room).slots) := by
  refine MetFree.of_bodySF (plainFor_of_name pn_java_lang_StringUTF16) hisR ?_
  intro p e s m args below meth c s₁ Bd hml0 hP hK
  obtain ⟨rfl, hZ, hh⟩ := hP
  have hx := Bd.exec
  have hby := Bd.bytes
  have hlk : meth.locks = false := Bd.notSynchronized
  have hml : c.maxLocals = 7 := hml0
  have hown : s.vm.findClass "java/lang/StringUTF16" = some m.cls := findClass_of_methodNamed Bd.named
  have hnm := (name_of_methodNamed Bd.named Bd.method).1
  have X0 : Stand p l e ({ frames := 0, cells := 0, slots := 0, locals := 0 } : Room) s m #[(.ref d0), (.int u0), (.ref d1), (.int u1), (.int u2)] below meth c s₁ [] 0 0 := Stand.of_body Bd
  have e0 : s₁.heap = h0 := by rw [← hh, Bd.state]; rfl
  have N0 := Fr.nil n0
  have K0 : Keep h0 h0 [d1] := Keep.refl h0 _
  show Wp p e below (Out s (Q12_M2 Z d0 u0 d1 u1 u2 c0 c1 g h0 n0) ({ frames := 0, cells := 0, slots := 0, locals := 0 } : Room).cells ({ frames := 0, cells := 0, slots := 0, locals := 0 } : Room).slots) (s₁.setTop (entryFrame m #[(.ref d0), (.int u0), (.ref d1), (.int u1), (.int u2)] 7))
  rw [ef_12_00000]
  subst hu0 hu1 hu2
  show Wp p e below _ (s₁.setTop (mkF m 0 #[.val (.ref d0), .val (.int (0 : Int32)), .val (.ref d1), .val (.int (0 : Int32)), .val (.int (2 : Int32)), .unset, .unset] []))
  refine Wp.step (fun t k => XS.iconst X0.here hx rfl (hb hby d12_0) k) ?_
  show Wp p e below _ (s₁.setTop (mkF m 1 #[.val (.ref d0), .val (.int (0 : Int32)), .val (.ref d1), .val (.int (0 : Int32)), .val (.int (2 : Int32)), .unset, .unset] [(.int (0 : Int32))]))
  refine Wp.step (fun t k => XS.istore X0.here hx rfl (hb hby d12_1) rfl (l' := #[.val (.ref d0), .val (.int (0 : Int32)), .val (.ref d1), .val (.int (0 : Int32)), .val (.int (2 : Int32)), .val (.int (0 : Int32)), .unset]) rfl k) ?_
  show Wp p e below _ (s₁.setTop (mkF m 3 #[.val (.ref d0), .val (.int (0 : Int32)), .val (.ref d1), .val (.int (0 : Int32)), .val (.int (2 : Int32)), .val (.int (0 : Int32)), .unset] []))
  refine Wp.step (fun t k => XS.iload X0.here hx rfl (hb hby d12_3) rfl k) ?_
  show Wp p e below _ (s₁.setTop (mkF m 5 #[.val (.ref d0), .val (.int (0 : Int32)), .val (.ref d1), .val (.int (0 : Int32)), .val (.int (2 : Int32)), .val (.int (0 : Int32)), .unset] [(.int (0 : Int32))]))
  refine Wp.step (fun t k => XS.iload X0.here hx rfl (hb hby d12_5) rfl k) ?_
  show Wp p e below _ (s₁.setTop (mkF m 7 #[.val (.ref d0), .val (.int (0 : Int32)), .val (.ref d1), .val (.int (0 : Int32)), .val (.int (2 : Int32)), .val (.int (0 : Int32)), .unset] [(.int (2 : Int32)), (.int (0 : Int32))]))
  refine Wp.step (fun t k => XS.icmpNo X0.here hx rfl (hb hby d12_7) rfl (tlt (show (0 : Int32) < (2 : Int32) by decide)).2.1 k) ?_
  show Wp p e below _ (s₁.setTop (mkF m 10 #[.val (.ref d0), .val (.int (0 : Int32)), .val (.ref d1), .val (.int (0 : Int32)), .val (.int (2 : Int32)), .val (.int (0 : Int32)), .unset] []))
  refine Wp.step (fun t k => XS.aloadN X0.here hx rfl (hb hby d12_10) rfl rfl k) ?_
  show Wp p e below _ (s₁.setTop (mkF m 11 #[.val (.ref d0), .val (.int (0 : Int32)), .val (.ref d1), .val (.int (0 : Int32)), .val (.int (2 : Int32)), .val (.int (0 : Int32)), .unset] [(.ref d0)]))
  refine Wp.step (fun t k => XS.iloadN X0.here hx rfl (hb hby d12_11) rfl k) ?_
  show Wp p e below _ (s₁.setTop (mkF m 12 #[.val (.ref d0), .val (.int (0 : Int32)), .val (.ref d1), .val (.int (0 : Int32)), .val (.int (2 : Int32)), .val (.int (0 : Int32)), .unset] [(.int (0 : Int32)), (.ref d0)]))
  obtain ⟨cl2, Ar2, Sz2, Nn2, El2⟩ := id B_d0
  have hin2 : ¬ ((0 : Int32) < 0 ∨ cl2.slots.size ≤ ((0 : Int32)).toNatClampNeg) := inb_of Sz2 ⟨by decide, by decide⟩
  have hat2 : cl2.slots[((0 : Int32)).toNatClampNeg]? = some (.int ((own_ch c0 c1) ((0 : Int32)).toNatClampNeg)) := (El2 _ (by have q := Nat.lt_of_not_le fun q => hin2 (Or.inr q); rw [Sz2] at q; exact q)).1
  rw [show ((own_ch c0 c1) ((0 : Int32)).toNatClampNeg) = c0 from rfl] at hat2
  refine Wp.step (X0.caload hx (j := (0 : Int32)) (v := (.int c0)) (by rw [e0]; exact Ar2.1) (State.isArrayOf_alike hZ.alike Ar2.2.1) Ar2.2.2 hin2 hat2 (g := (mkF m 12 #[.val (.ref d0), .val (.int (0 : Int32)), .val (.ref d1), .val (.int (0 : Int32)), .val (.int (2 : Int32)), .val (.int (0 : Int32)), .unset] [(.int (0 : Int32)), (.ref d0)])) rfl rfl (hb hby d12_12)) ?_
  show Wp p e below _ (s₁.setTop (mkF m 13 #[.val (.ref d0), .val (.int (0 : Int32)), .val (.ref d1), .val (.int (0 : Int32)), .val (.int (2 : Int32)), .val (.int (0 : Int32)), .unset] [(.int c0)]))
  refine Wp.step (fun t k => XS.istore X0.here hx rfl (hb hby d12_13) rfl (l' := #[.val (.ref d0), .val (.int (0 : Int32)), .val (.ref d1), .val (.int (0 : Int32)), .val (.int (2 : Int32)), .val (.int (0 : Int32)), .val (.int c0)]) rfl k) ?_
  show Wp p e below _ (s₁.setTop (mkF m 15 #[.val (.ref d0), .val (.int (0 : Int32)), .val (.ref d1), .val (.int (0 : Int32)), .val (.int (2 : Int32)), .val (.int (0 : Int32)), .val (.int c0)] []))
  refine Wp.step (fun t k => XS.iload X0.here hx rfl (hb hby d12_15) rfl k) ?_
  show Wp p e below _ (s₁.setTop (mkF m 17 #[.val (.ref d0), .val (.int (0 : Int32)), .val (.ref d1), .val (.int (0 : Int32)), .val (.int (2 : Int32)), .val (.int (0 : Int32)), .val (.int c0)] [(.int c0)]))
  refine Wp.step (fun t k => XS.sipush X0.here hx rfl (hb hby d12_17) k) ?_
  show Wp p e below _ (s₁.setTop (mkF m 20 #[.val (.ref d0), .val (.int (0 : Int32)), .val (.ref d1), .val (.int (0 : Int32)), .val (.int (2 : Int32)), .val (.int (0 : Int32)), .val (.int c0)] [(.int (255 : Int32)), (.int c0)]))
  refine Wp.step (fun t k => XS.icmpYes X0.here hx rfl (pc0 := 20) (pc' := 26) rfl (hb hby d12_20) rfl (flt (show ¬ ((255 : Int32) < c0) from l0)).2.2.2 (by decide) (by decide) k) ?_
  show Wp p e below _ (s₁.setTop (mkF m 26 #[.val (.ref d0), .val (.int (0 : Int32)), .val (.ref d1), .val (.int (0 : Int32)), .val (.int (2 : Int32)), .val (.int (0 : Int32)), .val (.int c0)] []))
  refine Wp.step (fun t k => XS.aloadN X0.here hx rfl (hb hby d12_26) rfl rfl k) ?_
  show Wp p e below _ (s₁.setTop (mkF m 27 #[.val (.ref d0), .val (.int (0 : Int32)), .val (.ref d1), .val (.int (0 : Int32)), .val (.int (2 : Int32)), .val (.int (0 : Int32)), .val (.int c0)] [(.ref d1)]))
  refine Wp.step (fun t k => XS.iloadN X0.here hx rfl (hb hby d12_27) rfl k) ?_
  show Wp p e below _ (s₁.setTop (mkF m 28 #[.val (.ref d0), .val (.int (0 : Int32)), .val (.ref d1), .val (.int (0 : Int32)), .val (.int (2 : Int32)), .val (.int (0 : Int32)), .val (.int c0)] [(.int (0 : Int32)), (.ref d1)]))
  refine Wp.step (fun t k => XS.iload X0.here hx rfl (hb hby d12_28) rfl k) ?_
  show Wp p e below _ (s₁.setTop (mkF m 30 #[.val (.ref d0), .val (.int (0 : Int32)), .val (.ref d1), .val (.int (0 : Int32)), .val (.int (2 : Int32)), .val (.int (0 : Int32)), .val (.int c0)] [(.int c0), (.int (0 : Int32)), (.ref d1)]))
  refine Wp.step (fun t k => XS.i2b X0.here hx rfl (hb hby d12_30) rfl k) ?_
  show Wp p e below _ (s₁.setTop (mkF m 31 #[.val (.ref d0), .val (.int (0 : Int32)), .val (.ref d1), .val (.int (0 : Int32)), .val (.int (2 : Int32)), .val (.int (0 : Int32)), .val (.int c0)] [(.int (c0.toInt8.toInt32)), (.int (0 : Int32)), (.ref d1)]))
  obtain ⟨cl4, Ar4, Sz4, Nn4, El4⟩ := id B_d1
  have hin4 : ¬ ((0 : Int32) < 0 ∨ cl4.slots.size ≤ ((0 : Int32)).toNatClampNeg) := inb_of Sz4 ⟨by decide, by decide⟩
  obtain ⟨T4, h4, X4, e4, W4, st4⟩ := stB X0 hx hZ e0 Ar4 (j := (0 : Int32)) hin4 (g := (mkF m 31 #[.val (.ref d0), .val (.int (0 : Int32)), .val (.ref d1), .val (.int (0 : Int32)), .val (.int (2 : Int32)), .val (.int (0 : Int32)), .val (.int c0)] [(.int (c0.toInt8.toInt32)), (.int (0 : Int32)), (.ref d1)])) rfl rfl (hb hby d12_31)
  have B5 := B_d0.other W4 hda
  have K6 := K0.wr W4 (Or.inl (List.mem_of_getElem? (i := 0) rfl))
  have N4 := Fr.snoc X4 N0 g_d1
  have B4 := own_IA.set Ar4 Sz4 Nn4 El4 W4 (fits_nar_byte _)
  rw [own_narb] at B4
  refine Wp.step st4 ?_
  show Wp p e below _ (T4.setTop (mkF m 32 #[.val (.ref d0), .val (.int (0 : Int32)), .val (.ref d1), .val (.int (0 : Int32)), .val (.int (2 : Int32)), .val (.int (0 : Int32)), .val (.int c0)] []))
  refine Wp.step (fun t k => XS.iinc X4.here hx rfl (hb hby d12_32) rfl (l' := #[.val (.ref d0), .val (.int ((0 : Int32) + (1 : Int32))), .val (.ref d1), .val (.int (0 : Int32)), .val (.int (2 : Int32)), .val (.int (0 : Int32)), .val (.int c0)]) rfl k) ?_
  show Wp p e below _ (T4.setTop (mkF m 35 #[.val (.ref d0), .val (.int ((0 : Int32) + (1 : Int32))), .val (.ref d1), .val (.int (0 : Int32)), .val (.int (2 : Int32)), .val (.int (0 : Int32)), .val (.int c0)] []))
  rw [show ((0 : Int32) + (1 : Int32)) = (1 : Int32) from (by decide)]
  refine Wp.step (fun t k => XS.iinc X4.here hx rfl (hb hby d12_35) rfl (l' := #[.val (.ref d0), .val (.int (1 : Int32)), .val (.ref d1), .val (.int ((0 : Int32) + (1 : Int32))), .val (.int (2 : Int32)), .val (.int (0 : Int32)), .val (.int c0)]) rfl k) ?_
  show Wp p e below _ (T4.setTop (mkF m 38 #[.val (.ref d0), .val (.int (1 : Int32)), .val (.ref d1), .val (.int ((0 : Int32) + (1 : Int32))), .val (.int (2 : Int32)), .val (.int (0 : Int32)), .val (.int c0)] []))
  rw [show ((0 : Int32) + (1 : Int32)) = (1 : Int32) from (by decide)]
  refine Wp.step (fun t k => XS.iinc X4.here hx rfl (hb hby d12_38) rfl (l' := #[.val (.ref d0), .val (.int (1 : Int32)), .val (.ref d1), .val (.int (1 : Int32)), .val (.int (2 : Int32)), .val (.int ((0 : Int32) + (1 : Int32))), .val (.int c0)]) rfl k) ?_
  show Wp p e below _ (T4.setTop (mkF m 41 #[.val (.ref d0), .val (.int (1 : Int32)), .val (.ref d1), .val (.int (1 : Int32)), .val (.int (2 : Int32)), .val (.int ((0 : Int32) + (1 : Int32))), .val (.int c0)] []))
  rw [show ((0 : Int32) + (1 : Int32)) = (1 : Int32) from (by decide)]
  refine Wp.step (fun t k => XS.goto X4.here hx rfl (pc0 := 41) (pc' := 3) rfl (hb hby d12_41) (by decide) (by decide) k) ?_
  show Wp p e below _ (T4.setTop (mkF m 3 #[.val (.ref d0), .val (.int (1 : Int32)), .val (.ref d1), .val (.int (1 : Int32)), .val (.int (2 : Int32)), .val (.int (1 : Int32)), .val (.int c0)] []))
  refine Wp.step (fun t k => XS.iload X4.here hx rfl (hb hby d12_3) rfl k) ?_
  show Wp p e below _ (T4.setTop (mkF m 5 #[.val (.ref d0), .val (.int (1 : Int32)), .val (.ref d1), .val (.int (1 : Int32)), .val (.int (2 : Int32)), .val (.int (1 : Int32)), .val (.int c0)] [(.int (1 : Int32))]))
  refine Wp.step (fun t k => XS.iload X4.here hx rfl (hb hby d12_5) rfl k) ?_
  show Wp p e below _ (T4.setTop (mkF m 7 #[.val (.ref d0), .val (.int (1 : Int32)), .val (.ref d1), .val (.int (1 : Int32)), .val (.int (2 : Int32)), .val (.int (1 : Int32)), .val (.int c0)] [(.int (2 : Int32)), (.int (1 : Int32))]))
  refine Wp.step (fun t k => XS.icmpNo X4.here hx rfl (hb hby d12_7) rfl (tlt (show (1 : Int32) < (2 : Int32) by decide)).2.1 k) ?_
  show Wp p e below _ (T4.setTop (mkF m 10 #[.val (.ref d0), .val (.int (1 : Int32)), .val (.ref d1), .val (.int (1 : Int32)), .val (.int (2 : Int32)), .val (.int (1 : Int32)), .val (.int c0)] []))
  refine Wp.step (fun t k => XS.aloadN X4.here hx rfl (hb hby d12_10) rfl rfl k) ?_
  show Wp p e below _ (T4.setTop (mkF m 11 #[.val (.ref d0), .val (.int (1 : Int32)), .val (.ref d1), .val (.int (1 : Int32)), .val (.int (2 : Int32)), .val (.int (1 : Int32)), .val (.int c0)] [(.ref d0)]))
  refine Wp.step (fun t k => XS.iloadN X4.here hx rfl (hb hby d12_11) rfl k) ?_
  show Wp p e below _ (T4.setTop (mkF m 12 #[.val (.ref d0), .val (.int (1 : Int32)), .val (.ref d1), .val (.int (1 : Int32)), .val (.int (2 : Int32)), .val (.int (1 : Int32)), .val (.int c0)] [(.int (1 : Int32)), (.ref d0)]))
  obtain ⟨cl8, Ar8, Sz8, Nn8, El8⟩ := id B5
  have hin8 : ¬ ((1 : Int32) < 0 ∨ cl8.slots.size ≤ ((1 : Int32)).toNatClampNeg) := inb_of Sz8 ⟨by decide, by decide⟩
  have hat8 : cl8.slots[((1 : Int32)).toNatClampNeg]? = some (.int ((own_ch c0 c1) ((1 : Int32)).toNatClampNeg)) := (El8 _ (by have q := Nat.lt_of_not_le fun q => hin8 (Or.inr q); rw [Sz8] at q; exact q)).1
  rw [show ((own_ch c0 c1) ((1 : Int32)).toNatClampNeg) = c1 from rfl] at hat8
  refine Wp.step (X4.caload hx (j := (1 : Int32)) (v := (.int c1)) (by rw [e4]; exact Ar8.1) (State.isArrayOf_alike hZ.alike Ar8.2.1) Ar8.2.2 hin8 hat8 (g := (mkF m 12 #[.val (.ref d0), .val (.int (1 : Int32)), .val (.ref d1), .val (.int (1 : Int32)), .val (.int (2 : Int32)), .val (.int (1 : Int32)), .val (.int c0)] [(.int (1 : Int32)), (.ref d0)])) rfl rfl (hb hby d12_12)) ?_
  show Wp p e below _ (T4.setTop (mkF m 13 #[.val (.ref d0), .val (.int (1 : Int32)), .val (.ref d1), .val (.int (1 : Int32)), .val (.int (2 : Int32)), .val (.int (1 : Int32)), .val (.int c0)] [(.int c1)]))
  refine Wp.step (fun t k => XS.istore X4.here hx rfl (hb hby d12_13) rfl (l' := #[.val (.ref d0), .val (.int (1 : Int32)), .val (.ref d1), .val (.int (1 : Int32)), .val (.int (2 : Int32)), .val (.int (1 : Int32)), .val (.int c1)]) rfl k) ?_
  show Wp p e below _ (T4.setTop (mkF m 15 #[.val (.ref d0), .val (.int (1 : Int32)), .val (.ref d1), .val (.int (1 : Int32)), .val (.int (2 : Int32)), .val (.int (1 : Int32)), .val (.int c1)] []))
  refine Wp.step (fun t k => XS.iload X4.here hx rfl (hb hby d12_15) rfl k) ?_
  show Wp p e below _ (T4.setTop (mkF m 17 #[.val (.ref d0), .val (.int (1 : Int32)), .val (.ref d1), .val (.int (1 : Int32)), .val (.int (2 : Int32)), .val (.int (1 : Int32)), .val (.int c1)] [(.int c1)]))
  refine Wp.step (fun t k => XS.sipush X4.here hx rfl (hb hby d12_17) k) ?_
  show Wp p e below _ (T4.setTop (mkF m 20 #[.val (.ref d0), .val (.int (1 : Int32)), .val (.ref d1), .val (.int (1 : Int32)), .val (.int (2 : Int32)), .val (.int (1 : Int32)), .val (.int c1)] [(.int (255 : Int32)), (.int c1)]))
  refine Wp.step (fun t k => XS.icmpNo X4.here hx rfl (hb hby d12_20) rfl (tlt (show (255 : Int32) < c1 from l1)).2.2.2 k) ?_
  show Wp p e below _ (T4.setTop (mkF m 23 #[.val (.ref d0), .val (.int (1 : Int32)), .val (.ref d1), .val (.int (1 : Int32)), .val (.int (2 : Int32)), .val (.int (1 : Int32)), .val (.int c1)] []))
  refine Wp.step (fun t k => XS.iload X4.here hx rfl (hb hby d12_23) rfl k) ?_
  show Wp p e below _ (T4.setTop (mkF m 25 #[.val (.ref d0), .val (.int (1 : Int32)), .val (.ref d1), .val (.int (1 : Int32)), .val (.int (2 : Int32)), .val (.int (1 : Int32)), .val (.int c1)] [(.int (1 : Int32))]))
  refine Wp.retI X4 hx Bd.returns (hb hby d12_25) hlk ?_ (by decide) (by decide)
  show Q12_M2 Z d0 (0 : Int32) d1 (0 : Int32) (2 : Int32) c0 c1 g h0 n0 (some (.int (1 : Int32))) T4.heap _
  rw [e4]
  exact ⟨rfl, N4, K6⟩
def Q11_2 (Z : State) (d0 : Addr) (u0 : Int32) (u1 : Int32) (c0 : Int32) (c1 : Int32) (h0 : Heap) (n0 : Nat) (v : Option Value) (h : Heap) (L : List Loc) : Prop := ∃ (r0 : Addr) (ln : Int32) (cc : Int32) (gg : Nat → Int32), v = some (.ref r0) ∧ Fr n0 L ∧ Keep h0 h [] ∧ h0.size ≤ r0 ∧ own_IA .byte Z h r0 ln gg ∧ own_enc (2 : Int32) ln cc gg (own_ch c0 c1)
set_option maxRecDepth 65536 in
set_option maxHeartbeats 40000000 in
theorem rm11_2 (l : Launch) (Z : State) (a0 : Array Value) (hw : ∀ d ∈ tables_1, d.before a0 Z = true) (ws : List Jvm.Cond) (d0 : Addr) (u0 : Int32) (u1 : Int32) (c0 : Int32) (c1 : Int32) (h0 : Heap) (n0 : Nat) (Z0 : n0 ≤ h0.size) (B_d0 : own_IA .char Z h0 d0 (2 : Int32) (own_ch c0 c1)) (S_assertionsDisabled_1Int32 : Sta Z h0 "java/lang/StringUTF16" "$assertionsDisabled" "Z" (.int (1 : Int32))) (S_HI_BYTE_SHIFT_0Int32 : Sta Z h0 "java/lang/StringUTF16" "HI_BYTE_SHIFT" "I" (.int (0 : Int32))) (S_LO_BYTE_SHIFT_8Int32 : Sta Z h0 "java/lang/StringUTF16" "LO_BYTE_SHIFT" "I" (.int (8 : Int32))) (hu0 : u0 = 0) (hu1 : u1 = 2) (hq0 : own_isC c0) (hq1 : own_isC c1) :
    MetFree l (⟨"java/lang/StringUTF16", "compress", "([CII)[B"⟩ : MethodName) (head1 (Jvm.Cond.code (⟨"java/lang/StringUTF16", "compress", "([CII)[B"⟩ : MethodName) jdk_52_method_16_code 6 (some (.array .byte)) :: ws) ({ frames := 3, cells := 2, slots := 6, locals := 40 } : Room)) (fun a U => a = #[(.ref d0), (.int u0), (.int u1)] ∧ Z.Warmed39 U.vm ∧ U.heap = h0) (fun _ _ _ _ _ => True) (fun _ U o U' => ∃ v L, o = .returned v ∧ Q11_2 Z d0 u0 u1 c0 c1 h0 n0 v U'.heap L ∧ FrameEnd U o U' L ({ frames := 3, cells := 2, slots := 6, locals := 40 } : Room).cells ({ frames := 3, cells := 2, slots := 6, locals := 40 } : Room).slots) := by
  refine MetFree.of_bodySF (plainFor_of_name pn_java_lang_StringUTF16) hisR ?_
  intro p e s m args below meth c s₁ Bd hml0 hP hK
  obtain ⟨rfl, hZ, hh⟩ := hP
  have hx := Bd.exec
  have hby := Bd.bytes
  have hlk : meth.locks = false := Bd.notSynchronized
  have hml : c.maxLocals = 6 := hml0
  have hown : s.vm.findClass "java/lang/StringUTF16" = some m.cls := findClass_of_methodNamed Bd.named
  have hnm := (name_of_methodNamed Bd.named Bd.method).1
  have X0 : Stand p l e ({ frames := 3, cells := 2, slots := 6, locals := 40 } : Room) s m #[(.ref d0), (.int u0), (.int u1)] below meth c s₁ [] 0 0 := Stand.of_body Bd
  have e0 : s₁.heap = h0 := by rw [← hh, Bd.state]; rfl
  have N0 := Fr.nil n0
  have K0 : Keep h0 h0 [] := Keep.refl h0 _
  show Wp p e below (Out s (Q11_2 Z d0 u0 u1 c0 c1 h0 n0) ({ frames := 3, cells := 2, slots := 6, locals := 40 } : Room).cells ({ frames := 3, cells := 2, slots := 6, locals := 40 } : Room).slots) (s₁.setTop (entryFrame m #[(.ref d0), (.int u0), (.int u1)] 6))
  rw [ef_11_000]
  subst hu0 hu1
  show Wp p e below _ (s₁.setTop (mkF m 0 #[.val (.ref d0), .val (.int (0 : Int32)), .val (.int (2 : Int32)), .unset, .unset, .unset] []))
  by_cases l0 : (255 : Int32) < c0
  · refine Wp.step (fun t k => XS.iloadN X0.here hx rfl (hb hby d11_0) rfl k) ?_
    show Wp p e below _ (s₁.setTop (mkF m 1 #[.val (.ref d0), .val (.int (0 : Int32)), .val (.int (2 : Int32)), .unset, .unset, .unset] [(.int (2 : Int32))]))
    obtain ⟨T1, h1, k1, X1, e1, E1, A1, st1⟩ := newP X0 hx hZ (hw _ (List.mem_of_getElem? (i := 19) rfl)) e0 (g := (mkF m 1 #[.val (.ref d0), .val (.int (0 : Int32)), .val (.int (2 : Int32)), .unset, .unset, .unset] [(.int (2 : Int32))])) rfl (hb hby d11_1) rfl (by decide) (cap := 2) (by decide) (by decide) (by decide) (by decide)
    obtain ⟨b1, g1⟩ : ∃ z, z = h0.size := ⟨_, rfl⟩
    rw [← g1] at A1 st1
    have g_b1 : n0 ≤ b1 := Nat.le_trans (Nat.le_trans Z0 K0.1) (Nat.le_of_eq g1.symm)
    have sz_b1 : h0.size ≤ b1 := Nat.le_trans K0.1 (Nat.le_of_eq g1.symm)
    have ne_d0_b1 : d0 ≠ b1 := Nat.ne_of_lt (Nat.lt_of_lt_of_le B_d0.lt (Nat.le_of_eq g1.symm))
    have B2 := B_d0.ext E1
    have c3 := S_assertionsDisabled_1Int32.ext E1
    have c4 := S_HI_BYTE_SHIFT_0Int32.ext E1
    have c5 := S_LO_BYTE_SHIFT_8Int32.ext E1
    have K6 := K0.ext E1
    have Z1 : (newA k1 .byte (2 : Int32)).slots.size = ((2 : Int32)).toNatClampNeg := sz_new _ _ _
    have nn1 : ¬ (2 : Int32) < 0 := (by decide)
    refine Wp.step st1 ?_
    have B1 := own_IA.new A1 nn1 rfl
    show Wp p e below _ (T1.setTop (mkF m 3 #[.val (.ref d0), .val (.int (0 : Int32)), .val (.int (2 : Int32)), .unset, .unset, .unset] [(.ref b1)]))
    refine Wp.step (fun t k => XS.astoreN X1.here hx rfl (hb hby d11_3) rfl rfl (l' := #[.val (.ref d0), .val (.int (0 : Int32)), .val (.int (2 : Int32)), .val (.ref b1), .unset, .unset]) rfl k) ?_
    show Wp p e below _ (T1.setTop (mkF m 4 #[.val (.ref d0), .val (.int (0 : Int32)), .val (.int (2 : Int32)), .val (.ref b1), .unset, .unset] []))
    refine Wp.step (fun t k => XS.aloadN X1.here hx rfl (hb hby d11_4) rfl rfl k) ?_
    show Wp p e below _ (T1.setTop (mkF m 5 #[.val (.ref d0), .val (.int (0 : Int32)), .val (.int (2 : Int32)), .val (.ref b1), .unset, .unset] [(.ref d0)]))
    refine Wp.step (fun t k => XS.iloadN X1.here hx rfl (hb hby d11_5) rfl k) ?_
    show Wp p e below _ (T1.setTop (mkF m 6 #[.val (.ref d0), .val (.int (0 : Int32)), .val (.int (2 : Int32)), .val (.ref b1), .unset, .unset] [(.int (0 : Int32)), (.ref d0)]))
    refine Wp.step (fun t k => XS.aloadN X1.here hx rfl (hb hby d11_6) rfl rfl k) ?_
    show Wp p e below _ (T1.setTop (mkF m 7 #[.val (.ref d0), .val (.int (0 : Int32)), .val (.int (2 : Int32)), .val (.ref b1), .unset, .unset] [(.ref b1), (.int (0 : Int32)), (.ref d0)]))
    refine Wp.step (fun t k => XS.iconst X1.here hx rfl (hb hby d11_7) k) ?_
    show Wp p e below _ (T1.setTop (mkF m 8 #[.val (.ref d0), .val (.int (0 : Int32)), .val (.int (2 : Int32)), .val (.ref b1), .unset, .unset] [(.int (0 : Int32)), (.ref b1), (.int (0 : Int32)), (.ref d0)]))
    refine Wp.step (fun t k => XS.iloadN X1.here hx rfl (hb hby d11_8) rfl k) ?_
    show Wp p e below _ (T1.setTop (mkF m 9 #[.val (.ref d0), .val (.int (0 : Int32)), .val (.int (2 : Int32)), .val (.ref b1), .unset, .unset] [(.int (2 : Int32)), (.int (0 : Int32)), (.ref b1), (.int (0 : Int32)), (.ref d0)]))
    obtain ⟨_, _, ⟨T7, L7, k7, n7⟩, -, X7, ⟨Lc7, hQ7, l7, y7, z7⟩, st7⟩ := Jvm.LawKit.callS X1 hx (y := (⟨"java/lang/StringUTF16", "compress", "([CI[BII)I"⟩ : MethodName)) hown (mvT hZ (hw _ (List.mem_of_getElem? (i := 56) rfl))) (mvT hZ (hw _ (List.mem_of_getElem? (i := 57) rfl))) (mvT hZ (hw _ (List.mem_of_getElem? (i := 54) rfl))) (mvT hZ (hw _ (List.mem_of_getElem? (i := 58) rfl))) (by decide) (backOf (W := 0) (rm12_N2 l Z a0 hw [] d0 (0 : Int32) b1 (0 : Int32) (2 : Int32) c0 c1 (fun _ => (0 : Int32)) h1 n0 (Nat.le_trans Z0 K6.1) g_b1 B2 B1 rfl rfl rfl ne_d0_b1 l0) hZ (hw _ (List.mem_of_getElem? (i := 58) rfl)) (hw _ (List.mem_of_getElem? (i := 54) rfl)) (by decide) (by decide)) (g := (mkF m 9 #[.val (.ref d0), .val (.int (0 : Int32)), .val (.int (2 : Int32)), .val (.ref b1), .unset, .unset] [(.int (2 : Int32)), (.int (0 : Int32)), (.ref b1), (.int (0 : Int32)), (.ref d0)])) rfl (by rw [hml]; rfl) (argsL := [(.ref d0), (.int (0 : Int32)), (.ref b1), (.int (0 : Int32)), (.int (2 : Int32))]) (rest := []) (lenOf pd_285bCI5bBII29I rfl) rfl (by show 2 * 0 + _ ≤ _; exact Nat.le_of_eq rfl) (hb hby d11_9) (fun _ _ => ⟨rfl, e1, (by decide : 1 + 0 ≤ _), (by decide : 2 + 0 ≤ _)⟩)
    dsimp only [Pt.U, Pt.locs, Pt.cells, Pt.slots] at X7 l7 y7 z7 st7 hQ7
    subst l7 y7 z7
    obtain ⟨h7, e7⟩ : ∃ z, T7.heap = z := ⟨_, rfl⟩
    rw [e7] at hQ7
    obtain ⟨rfl, N7q, Kc7⟩ := hQ7
    have N7 := Fr.app N0 N7q
    have B8 := B2.keep Kc7 (ninS ne_d0_b1 nin0)
    have c9 := own_sta_keep c3 Kc7 (allS (own_nsB B1) all0)
    have c10 := own_sta_keep c4 Kc7 (allS (own_nsB B1) all0)
    have c11 := own_sta_keep c5 Kc7 (allS (own_nsB B1) all0)
    have K7 := K6.trans Kc7 (allS (Or.inr sz_b1) all0)
    refine Wp.step st7 ?_
    show Wp p e below _ (T7.setTop (mkF m 12 #[.val (.ref d0), .val (.int (0 : Int32)), .val (.int (2 : Int32)), .val (.ref b1), .unset, .unset] [(.int (0 : Int32))]))
    refine Wp.step (fun t k => XS.istore X7.here hx rfl (hb hby d11_12) rfl (l' := #[.val (.ref d0), .val (.int (0 : Int32)), .val (.int (2 : Int32)), .val (.ref b1), .val (.int (0 : Int32)), .unset]) rfl k) ?_
    show Wp p e below _ (T7.setTop (mkF m 14 #[.val (.ref d0), .val (.int (0 : Int32)), .val (.int (2 : Int32)), .val (.ref b1), .val (.int (0 : Int32)), .unset] []))
    refine Wp.step (fun t k => XS.iload X7.here hx rfl (hb hby d11_14) rfl k) ?_
    show Wp p e below _ (T7.setTop (mkF m 16 #[.val (.ref d0), .val (.int (0 : Int32)), .val (.int (2 : Int32)), .val (.ref b1), .val (.int (0 : Int32)), .unset] [(.int (0 : Int32))]))
    refine Wp.step (fun t k => XS.iloadN X7.here hx rfl (hb hby d11_16) rfl k) ?_
    show Wp p e below _ (T7.setTop (mkF m 17 #[.val (.ref d0), .val (.int (0 : Int32)), .val (.int (2 : Int32)), .val (.ref b1), .val (.int (0 : Int32)), .unset] [(.int (2 : Int32)), (.int (0 : Int32))]))
    refine Wp.step (fun t k => XS.icmpNo X7.here hx rfl (hb hby d11_17) rfl (feq (show ¬ ((0 : Int32) = (2 : Int32)) by decide)).1 k) ?_
    show Wp p e below _ (T7.setTop (mkF m 20 #[.val (.ref d0), .val (.int (0 : Int32)), .val (.int (2 : Int32)), .val (.ref b1), .val (.int (0 : Int32)), .unset] []))
    refine Wp.step (fun t k => XS.aloadN X7.here hx rfl (hb hby d11_20) rfl rfl k) ?_
    show Wp p e below _ (T7.setTop (mkF m 21 #[.val (.ref d0), .val (.int (0 : Int32)), .val (.int (2 : Int32)), .val (.ref b1), .val (.int (0 : Int32)), .unset] [(.ref d0)]))
    refine Wp.step (fun t k => XS.iloadN X7.here hx rfl (hb hby d11_21) rfl k) ?_
    show Wp p e below _ (T7.setTop (mkF m 22 #[.val (.ref d0), .val (.int (0 : Int32)), .val (.int (2 : Int32)), .val (.ref b1), .val (.int (0 : Int32)), .unset] [(.int (0 : Int32)), (.ref d0)]))
    refine Wp.step (fun t k => XS.iloadN X7.here hx rfl (hb hby d11_22) rfl k) ?_
    show Wp p e below _ (T7.setTop (mkF m 23 #[.val (.ref d0), .val (.int (0 : Int32)), .val (.int (2 : Int32)), .val (.ref b1), .val (.int (0 : Int32)), .unset] [(.int (2 : Int32)), (.int (0 : Int32)), (.ref d0)]))
    obtain ⟨_, _, ⟨T14, L14, k14, n14⟩, -, X14, ⟨Lc14, hQ14, l14, y14, z14⟩, st14⟩ := Jvm.LawKit.callS X7 hx (y := (⟨"java/lang/StringUTF16", "toBytes", "([CII)[B"⟩ : MethodName)) hown (mvT hZ (hw _ (List.mem_of_getElem? (i := 93) rfl))) (mvT hZ (hw _ (List.mem_of_getElem? (i := 94) rfl))) (mvT hZ (hw _ (List.mem_of_getElem? (i := 54) rfl))) (mvT hZ (hw _ (List.mem_of_getElem? (i := 95) rfl))) (by decide) (backOf (W := 0) (rm21_2 l Z a0 hw [] d0 (0 : Int32) (2 : Int32) c0 c1 h7 n0 (Nat.le_trans Z0 K7.1) B8 c9 c10 c11 rfl rfl) hZ (hw _ (List.mem_of_getElem? (i := 95) rfl)) (hw _ (List.mem_of_getElem? (i := 54) rfl)) (by decide) (by decide)) (g := (mkF m 23 #[.val (.ref d0), .val (.int (0 : Int32)), .val (.int (2 : Int32)), .val (.ref b1), .val (.int (0 : Int32)), .unset] [(.int (2 : Int32)), (.int (0 : Int32)), (.ref d0)])) rfl (by rw [hml]; rfl) (argsL := [(.ref d0), (.int (0 : Int32)), (.int (2 : Int32))]) (rest := []) (lenOf pd_285bCII295bB rfl) rfl (by show 2 * 0 + _ ≤ _; exact Nat.le_of_eq rfl) (hb hby d11_23) (fun _ _ => ⟨rfl, e7, (by decide : 1 + 1 ≤ _), (by decide : 2 + 4 ≤ _)⟩)
    dsimp only [Pt.U, Pt.locs, Pt.cells, Pt.slots] at X14 l14 y14 z14 st14 hQ14
    subst l14 y14 z14
    obtain ⟨h14, e14⟩ : ∃ z, T14.heap = z := ⟨_, rfl⟩
    rw [e14] at hQ14
    obtain ⟨r14, rfl, N14q, Kc14, sz14, o14_0⟩ := hQ14
    have N14 := Fr.app N7 N14q
    have g_r14 : n0 ≤ r14 := Nat.le_trans (Nat.le_trans Z0 K7.1) sz14
    have sz_r14 : h0.size ≤ r14 := Nat.le_trans K7.1 sz14
    have ne_d0_r14 : d0 ≠ r14 := Nat.ne_of_lt (Nat.lt_of_lt_of_le B8.lt sz14)
    have B15 := B8.keep Kc14 nin0
    have c16 := own_sta_keep c9 Kc14 all0
    have c17 := own_sta_keep c10 Kc14 all0
    have c18 := own_sta_keep c11 Kc14 all0
    have K14 := K7.trans Kc14 all0
    refine Wp.step st14 ?_
    show Wp p e below _ (T14.setTop (mkF m 26 #[.val (.ref d0), .val (.int (0 : Int32)), .val (.int (2 : Int32)), .val (.ref b1), .val (.int (0 : Int32)), .unset] [(.ref r14)]))
    refine Wp.step (fun t k => XS.astore X14.here hx rfl (hb hby d11_26) rfl rfl (l' := #[.val (.ref d0), .val (.int (0 : Int32)), .val (.int (2 : Int32)), .val (.ref b1), .val (.int (0 : Int32)), .val (.ref r14)]) rfl k) ?_
    show Wp p e below _ (T14.setTop (mkF m 28 #[.val (.ref d0), .val (.int (0 : Int32)), .val (.int (2 : Int32)), .val (.ref b1), .val (.int (0 : Int32)), .val (.ref r14)] []))
    refine Wp.step (fun t k => XS.aload X14.here hx rfl (hb hby d11_28) rfl rfl k) ?_
    show Wp p e below _ (T14.setTop (mkF m 30 #[.val (.ref d0), .val (.int (0 : Int32)), .val (.int (2 : Int32)), .val (.ref b1), .val (.int (0 : Int32)), .val (.ref r14)] [(.ref r14)]))
    refine Wp.step (fun t k => XS.iload X14.here hx rfl (hb hby d11_30) rfl k) ?_
    show Wp p e below _ (T14.setTop (mkF m 32 #[.val (.ref d0), .val (.int (0 : Int32)), .val (.int (2 : Int32)), .val (.ref b1), .val (.int (0 : Int32)), .val (.ref r14)] [(.int (0 : Int32)), (.ref r14)]))
    obtain ⟨_, _, ⟨T19, L19, k19, n19⟩, -, X19, ⟨Lc19, hQ19, l19, y19, z19⟩, st19⟩ := Jvm.LawKit.callS X14 hx (y := (⟨"java/lang/StringUTF16", "getChar", "([BI)C"⟩ : MethodName)) hown (mvT hZ (hw _ (List.mem_of_getElem? (i := 109) rfl))) (mvT hZ (hw _ (List.mem_of_getElem? (i := 110) rfl))) (mvT hZ (hw _ (List.mem_of_getElem? (i := 54) rfl))) (mvT hZ (hw _ (List.mem_of_getElem? (i := 111) rfl))) (by decide) (backOf (W := 0) (rm25 l Z a0 hw [] r14 (0 : Int32) (4 : Int32) (own_pc (own_pc (fun _ => (0 : Int32)) (0 : Int32) c0) (1 : Int32) c1) h14 n0 (Nat.le_trans Z0 K14.1) o14_0 c16 c17 c18 (by decide) (by decide)) hZ (hw _ (List.mem_of_getElem? (i := 111) rfl)) (hw _ (List.mem_of_getElem? (i := 54) rfl)) (by decide) (by decide)) (g := (mkF m 32 #[.val (.ref d0), .val (.int (0 : Int32)), .val (.int (2 : Int32)), .val (.ref b1), .val (.int (0 : Int32)), .val (.ref r14)] [(.int (0 : Int32)), (.ref r14)])) rfl (by rw [hml]; rfl) (argsL := [(.ref r14), (.int (0 : Int32))]) (rest := []) (lenOf pd_285bBI29C rfl) rfl (by show 2 * 0 + _ ≤ _; exact Nat.le_of_eq rfl) (hb hby d11_32) (fun _ _ => ⟨rfl, e14, (by decide : 2 + 0 ≤ _), (by decide : 6 + 0 ≤ _)⟩)
    dsimp only [Pt.U, Pt.locs, Pt.cells, Pt.slots] at X19 l19 y19 z19 st19 hQ19
    subst l19 y19 z19
    obtain ⟨rfl, N19q, e19⟩ := hQ19
    have N19 := Fr.app N14 N19q
    refine Wp.step st19 ?_
    show Wp p e below _ (T19.setTop (mkF m 35 #[.val (.ref d0), .val (.int (0 : Int32)), .val (.int (2 : Int32)), .val (.ref b1), .val (.int (0 : Int32)), .val (.ref r14)] [(.int (own_gc (own_pc (own_pc (fun _ => (0 : Int32)) (0 : Int32) c0) (1 : Int32) c1) (0 : Int32)))]))
    refine Wp.step (fun t k => XS.sipush X19.here hx rfl (hb hby d11_35) k) ?_
    show Wp p e below _ (T19.setTop (mkF m 38 #[.val (.ref d0), .val (.int (0 : Int32)), .val (.int (2 : Int32)), .val (.ref b1), .val (.int (0 : Int32)), .val (.ref r14)] [(.int (255 : Int32)), (.int (own_gc (own_pc (own_pc (fun _ => (0 : Int32)) (0 : Int32) c0) (1 : Int32) c1) (0 : Int32)))]))
    refine Wp.step (fun t k => XS.icmpYes X19.here hx rfl (pc0 := 38) (pc' := 54) rfl (hb hby d11_38) rfl (tlt (show (255 : Int32) < (own_gc (own_pc (own_pc (fun _ => (0 : Int32)) (0 : Int32) c0) (1 : Int32) c1) (0 : Int32)) from (by rw [own_gc_pc0 hq0]; exact l0))).2.2.1 (by decide) (by decide) k) ?_
    show Wp p e below _ (T19.setTop (mkF m 54 #[.val (.ref d0), .val (.int (0 : Int32)), .val (.int (2 : Int32)), .val (.ref b1), .val (.int (0 : Int32)), .val (.ref r14)] []))
    refine Wp.step (fun t k => XS.aload X19.here hx rfl (hb hby d11_54) rfl rfl k) ?_
    show Wp p e below _ (T19.setTop (mkF m 56 #[.val (.ref d0), .val (.int (0 : Int32)), .val (.int (2 : Int32)), .val (.ref b1), .val (.int (0 : Int32)), .val (.ref r14)] [(.ref r14)]))
    refine Wp.retA X19 hx Bd.returns rfl (hb hby d11_56) hlk ?_ (by decide) (by decide)
    show Q11_2 Z d0 (0 : Int32) (2 : Int32) c0 c1 h0 n0 (some (.ref r14)) T19.heap _
    rw [e19]
    exact ⟨r14, (4 : Int32), (1 : Int32), (own_pc (own_pc (fun _ => (0 : Int32)) (0 : Int32) c0) (1 : Int32) c1), rfl, N19, K14, sz_r14, o14_0, (own_encU2 hq0 hq1)⟩
  · by_cases l1 : (255 : Int32) < c1
    · refine Wp.step (fun t k => XS.iloadN X0.here hx rfl (hb hby d11_0) rfl k) ?_
      show Wp p e below _ (s₁.setTop (mkF m 1 #[.val (.ref d0), .val (.int (0 : Int32)), .val (.int (2 : Int32)), .unset, .unset, .unset] [(.int (2 : Int32))]))
      obtain ⟨T21, h21, k21, X21, e21, E21, A21, st21⟩ := newP X0 hx hZ (hw _ (List.mem_of_getElem? (i := 19) rfl)) e0 (g := (mkF m 1 #[.val (.ref d0), .val (.int (0 : Int32)), .val (.int (2 : Int32)), .unset, .unset, .unset] [(.int (2 : Int32))])) rfl (hb hby d11_1) rfl (by decide) (cap := 2) (by decide) (by decide) (by decide) (by decide)
      obtain ⟨b21, g21⟩ : ∃ z, z = h0.size := ⟨_, rfl⟩
      rw [← g21] at A21 st21
      have g_b21 : n0 ≤ b21 := Nat.le_trans (Nat.le_trans Z0 K0.1) (Nat.le_of_eq g21.symm)
      have sz_b21 : h0.size ≤ b21 := Nat.le_trans K0.1 (Nat.le_of_eq g21.symm)
      have ne_d0_b21 : d0 ≠ b21 := Nat.ne_of_lt (Nat.lt_of_lt_of_le B_d0.lt (Nat.le_of_eq g21.symm))
      have B22 := B_d0.ext E21
      have c23 := S_assertionsDisabled_1Int32.ext E21
      have c24 := S_HI_BYTE_SHIFT_0Int32.ext E21
      have c25 := S_LO_BYTE_SHIFT_8Int32.ext E21
      have K26 := K0.ext E21
      have Z21 : (newA k21 .byte (2 : Int32)).slots.size = ((2 : Int32)).toNatClampNeg := sz_new _ _ _
      have nn21 : ¬ (2 : Int32) < 0 := (by decide)
      refine Wp.step st21 ?_
      have B21 := own_IA.new A21 nn21 rfl
      show Wp p e below _ (T21.setTop (mkF m 3 #[.val (.ref d0), .val (.int (0 : Int32)), .val (.int (2 : Int32)), .unset, .unset, .unset] [(.ref b21)]))
      refine Wp.step (fun t k => XS.astoreN X21.here hx rfl (hb hby d11_3) rfl rfl (l' := #[.val (.ref d0), .val (.int (0 : Int32)), .val (.int (2 : Int32)), .val (.ref b21), .unset, .unset]) rfl k) ?_
      show Wp p e below _ (T21.setTop (mkF m 4 #[.val (.ref d0), .val (.int (0 : Int32)), .val (.int (2 : Int32)), .val (.ref b21), .unset, .unset] []))
      refine Wp.step (fun t k => XS.aloadN X21.here hx rfl (hb hby d11_4) rfl rfl k) ?_
      show Wp p e below _ (T21.setTop (mkF m 5 #[.val (.ref d0), .val (.int (0 : Int32)), .val (.int (2 : Int32)), .val (.ref b21), .unset, .unset] [(.ref d0)]))
      refine Wp.step (fun t k => XS.iloadN X21.here hx rfl (hb hby d11_5) rfl k) ?_
      show Wp p e below _ (T21.setTop (mkF m 6 #[.val (.ref d0), .val (.int (0 : Int32)), .val (.int (2 : Int32)), .val (.ref b21), .unset, .unset] [(.int (0 : Int32)), (.ref d0)]))
      refine Wp.step (fun t k => XS.aloadN X21.here hx rfl (hb hby d11_6) rfl rfl k) ?_
      show Wp p e below _ (T21.setTop (mkF m 7 #[.val (.ref d0), .val (.int (0 : Int32)), .val (.int (2 : Int32)), .val (.ref b21), .unset, .unset] [(.ref b21), (.int (0 : Int32)), (.ref d0)]))
      refine Wp.step (fun t k => XS.iconst X21.here hx rfl (hb hby d11_7) k) ?_
      show Wp p e below _ (T21.setTop (mkF m 8 #[.val (.ref d0), .val (.int (0 : Int32)), .val (.int (2 : Int32)), .val (.ref b21), .unset, .unset] [(.int (0 : Int32)), (.ref b21), (.int (0 : Int32)), (.ref d0)]))
      refine Wp.step (fun t k => XS.iloadN X21.here hx rfl (hb hby d11_8) rfl k) ?_
      show Wp p e below _ (T21.setTop (mkF m 9 #[.val (.ref d0), .val (.int (0 : Int32)), .val (.int (2 : Int32)), .val (.ref b21), .unset, .unset] [(.int (2 : Int32)), (.int (0 : Int32)), (.ref b21), (.int (0 : Int32)), (.ref d0)]))
      obtain ⟨_, _, ⟨T27, L27, k27, n27⟩, -, X27, ⟨Lc27, hQ27, l27, y27, z27⟩, st27⟩ := Jvm.LawKit.callS X21 hx (y := (⟨"java/lang/StringUTF16", "compress", "([CI[BII)I"⟩ : MethodName)) hown (mvT hZ (hw _ (List.mem_of_getElem? (i := 56) rfl))) (mvT hZ (hw _ (List.mem_of_getElem? (i := 57) rfl))) (mvT hZ (hw _ (List.mem_of_getElem? (i := 54) rfl))) (mvT hZ (hw _ (List.mem_of_getElem? (i := 58) rfl))) (by decide) (backOf (W := 0) (rm12_M2 l Z a0 hw [] d0 (0 : Int32) b21 (0 : Int32) (2 : Int32) c0 c1 (fun _ => (0 : Int32)) h21 n0 (Nat.le_trans Z0 K26.1) g_b21 B22 B21 rfl rfl rfl ne_d0_b21 l0 l1) hZ (hw _ (List.mem_of_getElem? (i := 58) rfl)) (hw _ (List.mem_of_getElem? (i := 54) rfl)) (by decide) (by decide)) (g := (mkF m 9 #[.val (.ref d0), .val (.int (0 : Int32)), .val (.int (2 : Int32)), .val (.ref b21), .unset, .unset] [(.int (2 : Int32)), (.int (0 : Int32)), (.ref b21), (.int (0 : Int32)), (.ref d0)])) rfl (by rw [hml]; rfl) (argsL := [(.ref d0), (.int (0 : Int32)), (.ref b21), (.int (0 : Int32)), (.int (2 : Int32))]) (rest := []) (lenOf pd_285bCI5bBII29I rfl) rfl (by show 2 * 0 + _ ≤ _; exact Nat.le_of_eq rfl) (hb hby d11_9) (fun _ _ => ⟨rfl, e21, (by decide : 1 + 0 ≤ _), (by decide : 2 + 0 ≤ _)⟩)
      dsimp only [Pt.U, Pt.locs, Pt.cells, Pt.slots] at X27 l27 y27 z27 st27 hQ27
      subst l27 y27 z27
      obtain ⟨h27, e27⟩ : ∃ z, T27.heap = z := ⟨_, rfl⟩
      rw [e27] at hQ27
      obtain ⟨rfl, N27q, Kc27⟩ := hQ27
      have N27 := Fr.app N0 N27q
      have B28 := B22.keep Kc27 (ninS ne_d0_b21 nin0)
      have c29 := own_sta_keep c23 Kc27 (allS (own_nsB B21) all0)
      have c30 := own_sta_keep c24 Kc27 (allS (own_nsB B21) all0)
      have c31 := own_sta_keep c25 Kc27 (allS (own_nsB B21) all0)
      have K27 := K26.trans Kc27 (allS (Or.inr sz_b21) all0)
      refine Wp.step st27 ?_
      show Wp p e below _ (T27.setTop (mkF m 12 #[.val (.ref d0), .val (.int (0 : Int32)), .val (.int (2 : Int32)), .val (.ref b21), .unset, .unset] [(.int (1 : Int32))]))
      refine Wp.step (fun t k => XS.istore X27.here hx rfl (hb hby d11_12) rfl (l' := #[.val (.ref d0), .val (.int (0 : Int32)), .val (.int (2 : Int32)), .val (.ref b21), .val (.int (1 : Int32)), .unset]) rfl k) ?_
      show Wp p e below _ (T27.setTop (mkF m 14 #[.val (.ref d0), .val (.int (0 : Int32)), .val (.int (2 : Int32)), .val (.ref b21), .val (.int (1 : Int32)), .unset] []))
      refine Wp.step (fun t k => XS.iload X27.here hx rfl (hb hby d11_14) rfl k) ?_
      show Wp p e below _ (T27.setTop (mkF m 16 #[.val (.ref d0), .val (.int (0 : Int32)), .val (.int (2 : Int32)), .val (.ref b21), .val (.int (1 : Int32)), .unset] [(.int (1 : Int32))]))
      refine Wp.step (fun t k => XS.iloadN X27.here hx rfl (hb hby d11_16) rfl k) ?_
      show Wp p e below _ (T27.setTop (mkF m 17 #[.val (.ref d0), .val (.int (0 : Int32)), .val (.int (2 : Int32)), .val (.ref b21), .val (.int (1 : Int32)), .unset] [(.int (2 : Int32)), (.int (1 : Int32))]))
      refine Wp.step (fun t k => XS.icmpNo X27.here hx rfl (hb hby d11_17) rfl (feq (show ¬ ((1 : Int32) = (2 : Int32)) by decide)).1 k) ?_
      show Wp p e below _ (T27.setTop (mkF m 20 #[.val (.ref d0), .val (.int (0 : Int32)), .val (.int (2 : Int32)), .val (.ref b21), .val (.int (1 : Int32)), .unset] []))
      refine Wp.step (fun t k => XS.aloadN X27.here hx rfl (hb hby d11_20) rfl rfl k) ?_
      show Wp p e below _ (T27.setTop (mkF m 21 #[.val (.ref d0), .val (.int (0 : Int32)), .val (.int (2 : Int32)), .val (.ref b21), .val (.int (1 : Int32)), .unset] [(.ref d0)]))
      refine Wp.step (fun t k => XS.iloadN X27.here hx rfl (hb hby d11_21) rfl k) ?_
      show Wp p e below _ (T27.setTop (mkF m 22 #[.val (.ref d0), .val (.int (0 : Int32)), .val (.int (2 : Int32)), .val (.ref b21), .val (.int (1 : Int32)), .unset] [(.int (0 : Int32)), (.ref d0)]))
      refine Wp.step (fun t k => XS.iloadN X27.here hx rfl (hb hby d11_22) rfl k) ?_
      show Wp p e below _ (T27.setTop (mkF m 23 #[.val (.ref d0), .val (.int (0 : Int32)), .val (.int (2 : Int32)), .val (.ref b21), .val (.int (1 : Int32)), .unset] [(.int (2 : Int32)), (.int (0 : Int32)), (.ref d0)]))
      obtain ⟨_, _, ⟨T34, L34, k34, n34⟩, -, X34, ⟨Lc34, hQ34, l34, y34, z34⟩, st34⟩ := Jvm.LawKit.callS X27 hx (y := (⟨"java/lang/StringUTF16", "toBytes", "([CII)[B"⟩ : MethodName)) hown (mvT hZ (hw _ (List.mem_of_getElem? (i := 93) rfl))) (mvT hZ (hw _ (List.mem_of_getElem? (i := 94) rfl))) (mvT hZ (hw _ (List.mem_of_getElem? (i := 54) rfl))) (mvT hZ (hw _ (List.mem_of_getElem? (i := 95) rfl))) (by decide) (backOf (W := 0) (rm21_2 l Z a0 hw [] d0 (0 : Int32) (2 : Int32) c0 c1 h27 n0 (Nat.le_trans Z0 K27.1) B28 c29 c30 c31 rfl rfl) hZ (hw _ (List.mem_of_getElem? (i := 95) rfl)) (hw _ (List.mem_of_getElem? (i := 54) rfl)) (by decide) (by decide)) (g := (mkF m 23 #[.val (.ref d0), .val (.int (0 : Int32)), .val (.int (2 : Int32)), .val (.ref b21), .val (.int (1 : Int32)), .unset] [(.int (2 : Int32)), (.int (0 : Int32)), (.ref d0)])) rfl (by rw [hml]; rfl) (argsL := [(.ref d0), (.int (0 : Int32)), (.int (2 : Int32))]) (rest := []) (lenOf pd_285bCII295bB rfl) rfl (by show 2 * 0 + _ ≤ _; exact Nat.le_of_eq rfl) (hb hby d11_23) (fun _ _ => ⟨rfl, e27, (by decide : 1 + 1 ≤ _), (by decide : 2 + 4 ≤ _)⟩)
      dsimp only [Pt.U, Pt.locs, Pt.cells, Pt.slots] at X34 l34 y34 z34 st34 hQ34
      subst l34 y34 z34
      obtain ⟨h34, e34⟩ : ∃ z, T34.heap = z := ⟨_, rfl⟩
      rw [e34] at hQ34
      obtain ⟨r34, rfl, N34q, Kc34, sz34, o34_0⟩ := hQ34
      have N34 := Fr.app N27 N34q
      have g_r34 : n0 ≤ r34 := Nat.le_trans (Nat.le_trans Z0 K27.1) sz34
      have sz_r34 : h0.size ≤ r34 := Nat.le_trans K27.1 sz34
      have ne_d0_r34 : d0 ≠ r34 := Nat.ne_of_lt (Nat.lt_of_lt_of_le B28.lt sz34)
      have B35 := B28.keep Kc34 nin0
      have c36 := own_sta_keep c29 Kc34 all0
      have c37 := own_sta_keep c30 Kc34 all0
      have c38 := own_sta_keep c31 Kc34 all0
      have K34 := K27.trans Kc34 all0
      refine Wp.step st34 ?_
      show Wp p e below _ (T34.setTop (mkF m 26 #[.val (.ref d0), .val (.int (0 : Int32)), .val (.int (2 : Int32)), .val (.ref b21), .val (.int (1 : Int32)), .unset] [(.ref r34)]))
      refine Wp.step (fun t k => XS.astore X34.here hx rfl (hb hby d11_26) rfl rfl (l' := #[.val (.ref d0), .val (.int (0 : Int32)), .val (.int (2 : Int32)), .val (.ref b21), .val (.int (1 : Int32)), .val (.ref r34)]) rfl k) ?_
      show Wp p e below _ (T34.setTop (mkF m 28 #[.val (.ref d0), .val (.int (0 : Int32)), .val (.int (2 : Int32)), .val (.ref b21), .val (.int (1 : Int32)), .val (.ref r34)] []))
      refine Wp.step (fun t k => XS.aload X34.here hx rfl (hb hby d11_28) rfl rfl k) ?_
      show Wp p e below _ (T34.setTop (mkF m 30 #[.val (.ref d0), .val (.int (0 : Int32)), .val (.int (2 : Int32)), .val (.ref b21), .val (.int (1 : Int32)), .val (.ref r34)] [(.ref r34)]))
      refine Wp.step (fun t k => XS.iload X34.here hx rfl (hb hby d11_30) rfl k) ?_
      show Wp p e below _ (T34.setTop (mkF m 32 #[.val (.ref d0), .val (.int (0 : Int32)), .val (.int (2 : Int32)), .val (.ref b21), .val (.int (1 : Int32)), .val (.ref r34)] [(.int (1 : Int32)), (.ref r34)]))
      obtain ⟨_, _, ⟨T39, L39, k39, n39⟩, -, X39, ⟨Lc39, hQ39, l39, y39, z39⟩, st39⟩ := Jvm.LawKit.callS X34 hx (y := (⟨"java/lang/StringUTF16", "getChar", "([BI)C"⟩ : MethodName)) hown (mvT hZ (hw _ (List.mem_of_getElem? (i := 109) rfl))) (mvT hZ (hw _ (List.mem_of_getElem? (i := 110) rfl))) (mvT hZ (hw _ (List.mem_of_getElem? (i := 54) rfl))) (mvT hZ (hw _ (List.mem_of_getElem? (i := 111) rfl))) (by decide) (backOf (W := 0) (rm25 l Z a0 hw [] r34 (1 : Int32) (4 : Int32) (own_pc (own_pc (fun _ => (0 : Int32)) (0 : Int32) c0) (1 : Int32) c1) h34 n0 (Nat.le_trans Z0 K34.1) o34_0 c36 c37 c38 (by decide) (by decide)) hZ (hw _ (List.mem_of_getElem? (i := 111) rfl)) (hw _ (List.mem_of_getElem? (i := 54) rfl)) (by decide) (by decide)) (g := (mkF m 32 #[.val (.ref d0), .val (.int (0 : Int32)), .val (.int (2 : Int32)), .val (.ref b21), .val (.int (1 : Int32)), .val (.ref r34)] [(.int (1 : Int32)), (.ref r34)])) rfl (by rw [hml]; rfl) (argsL := [(.ref r34), (.int (1 : Int32))]) (rest := []) (lenOf pd_285bBI29C rfl) rfl (by show 2 * 0 + _ ≤ _; exact Nat.le_of_eq rfl) (hb hby d11_32) (fun _ _ => ⟨rfl, e34, (by decide : 2 + 0 ≤ _), (by decide : 6 + 0 ≤ _)⟩)
      dsimp only [Pt.U, Pt.locs, Pt.cells, Pt.slots] at X39 l39 y39 z39 st39 hQ39
      subst l39 y39 z39
      obtain ⟨rfl, N39q, e39⟩ := hQ39
      have N39 := Fr.app N34 N39q
      refine Wp.step st39 ?_
      show Wp p e below _ (T39.setTop (mkF m 35 #[.val (.ref d0), .val (.int (0 : Int32)), .val (.int (2 : Int32)), .val (.ref b21), .val (.int (1 : Int32)), .val (.ref r34)] [(.int (own_gc (own_pc (own_pc (fun _ => (0 : Int32)) (0 : Int32) c0) (1 : Int32) c1) (1 : Int32)))]))
      refine Wp.step (fun t k => XS.sipush X39.here hx rfl (hb hby d11_35) k) ?_
      show Wp p e below _ (T39.setTop (mkF m 38 #[.val (.ref d0), .val (.int (0 : Int32)), .val (.int (2 : Int32)), .val (.ref b21), .val (.int (1 : Int32)), .val (.ref r34)] [(.int (255 : Int32)), (.int (own_gc (own_pc (own_pc (fun _ => (0 : Int32)) (0 : Int32) c0) (1 : Int32) c1) (1 : Int32)))]))
      refine Wp.step (fun t k => XS.icmpYes X39.here hx rfl (pc0 := 38) (pc' := 54) rfl (hb hby d11_38) rfl (tlt (show (255 : Int32) < (own_gc (own_pc (own_pc (fun _ => (0 : Int32)) (0 : Int32) c0) (1 : Int32) c1) (1 : Int32)) from (by rw [own_gc_pc hq1 (Or.inr rfl)]; exact l1))).2.2.1 (by decide) (by decide) k) ?_
      show Wp p e below _ (T39.setTop (mkF m 54 #[.val (.ref d0), .val (.int (0 : Int32)), .val (.int (2 : Int32)), .val (.ref b21), .val (.int (1 : Int32)), .val (.ref r34)] []))
      refine Wp.step (fun t k => XS.aload X39.here hx rfl (hb hby d11_54) rfl rfl k) ?_
      show Wp p e below _ (T39.setTop (mkF m 56 #[.val (.ref d0), .val (.int (0 : Int32)), .val (.int (2 : Int32)), .val (.ref b21), .val (.int (1 : Int32)), .val (.ref r34)] [(.ref r34)]))
      refine Wp.retA X39 hx Bd.returns rfl (hb hby d11_56) hlk ?_ (by decide) (by decide)
      show Q11_2 Z d0 (0 : Int32) (2 : Int32) c0 c1 h0 n0 (some (.ref r34)) T39.heap _
      rw [e39]
      exact ⟨r34, (4 : Int32), (1 : Int32), (own_pc (own_pc (fun _ => (0 : Int32)) (0 : Int32) c0) (1 : Int32) c1), rfl, N39, K34, sz_r34, o34_0, (own_encU2 hq0 hq1)⟩
    · refine Wp.step (fun t k => XS.iloadN X0.here hx rfl (hb hby d11_0) rfl k) ?_
      show Wp p e below _ (s₁.setTop (mkF m 1 #[.val (.ref d0), .val (.int (0 : Int32)), .val (.int (2 : Int32)), .unset, .unset, .unset] [(.int (2 : Int32))]))
      obtain ⟨T41, h41, k41, X41, e41, E41, A41, st41⟩ := newP X0 hx hZ (hw _ (List.mem_of_getElem? (i := 19) rfl)) e0 (g := (mkF m 1 #[.val (.ref d0), .val (.int (0 : Int32)), .val (.int (2 : Int32)), .unset, .unset, .unset] [(.int (2 : Int32))])) rfl (hb hby d11_1) rfl (by decide) (cap := 2) (by decide) (by decide) (by decide) (by decide)
      obtain ⟨b41, g41⟩ : ∃ z, z = h0.size := ⟨_, rfl⟩
      rw [← g41] at A41 st41
      have g_b41 : n0 ≤ b41 := Nat.le_trans (Nat.le_trans Z0 K0.1) (Nat.le_of_eq g41.symm)
      have sz_b41 : h0.size ≤ b41 := Nat.le_trans K0.1 (Nat.le_of_eq g41.symm)
      have ne_d0_b41 : d0 ≠ b41 := Nat.ne_of_lt (Nat.lt_of_lt_of_le B_d0.lt (Nat.le_of_eq g41.symm))
      have B42 := B_d0.ext E41
      have c43 := S_assertionsDisabled_1Int32.ext E41
      have c44 := S_HI_BYTE_SHIFT_0Int32.ext E41
      have c45 := S_LO_BYTE_SHIFT_8Int32.ext E41
      have K46 := K0.ext E41
      have Z41 : (newA k41 .byte (2 : Int32)).slots.size = ((2 : Int32)).toNatClampNeg := sz_new _ _ _
      have nn41 : ¬ (2 : Int32) < 0 := (by decide)
      refine Wp.step st41 ?_
      have B41 := own_IA.new A41 nn41 rfl
      show Wp p e below _ (T41.setTop (mkF m 3 #[.val (.ref d0), .val (.int (0 : Int32)), .val (.int (2 : Int32)), .unset, .unset, .unset] [(.ref b41)]))
      refine Wp.step (fun t k => XS.astoreN X41.here hx rfl (hb hby d11_3) rfl rfl (l' := #[.val (.ref d0), .val (.int (0 : Int32)), .val (.int (2 : Int32)), .val (.ref b41), .unset, .unset]) rfl k) ?_
      show Wp p e below _ (T41.setTop (mkF m 4 #[.val (.ref d0), .val (.int (0 : Int32)), .val (.int (2 : Int32)), .val (.ref b41), .unset, .unset] []))
      refine Wp.step (fun t k => XS.aloadN X41.here hx rfl (hb hby d11_4) rfl rfl k) ?_
      show Wp p e below _ (T41.setTop (mkF m 5 #[.val (.ref d0), .val (.int (0 : Int32)), .val (.int (2 : Int32)), .val (.ref b41), .unset, .unset] [(.ref d0)]))
      refine Wp.step (fun t k => XS.iloadN X41.here hx rfl (hb hby d11_5) rfl k) ?_
      show Wp p e below _ (T41.setTop (mkF m 6 #[.val (.ref d0), .val (.int (0 : Int32)), .val (.int (2 : Int32)), .val (.ref b41), .unset, .unset] [(.int (0 : Int32)), (.ref d0)]))
      refine Wp.step (fun t k => XS.aloadN X41.here hx rfl (hb hby d11_6) rfl rfl k) ?_
      show Wp p e below _ (T41.setTop (mkF m 7 #[.val (.ref d0), .val (.int (0 : Int32)), .val (.int (2 : Int32)), .val (.ref b41), .unset, .unset] [(.ref b41), (.int (0 : Int32)), (.ref d0)]))
      refine Wp.step (fun t k => XS.iconst X41.here hx rfl (hb hby d11_7) k) ?_
      show Wp p e below _ (T41.setTop (mkF m 8 #[.val (.ref d0), .val (.int (0 : Int32)), .val (.int (2 : Int32)), .val (.ref b41), .unset, .unset] [(.int (0 : Int32)), (.ref b41), (.int (0 : Int32)), (.ref d0)]))
      refine Wp.step (fun t k => XS.iloadN X41.here hx rfl (hb hby d11_8) rfl k) ?_
      show Wp p e below _ (T41.setTop (mkF m 9 #[.val (.ref d0), .val (.int (0 : Int32)), .val (.int (2 : Int32)), .val (.ref b41), .unset, .unset] [(.int (2 : Int32)), (.int (0 : Int32)), (.ref b41), (.int (0 : Int32)), (.ref d0)]))
      obtain ⟨_, _, ⟨T47, L47, k47, n47⟩, -, X47, ⟨Lc47, hQ47, l47, y47, z47⟩, st47⟩ := Jvm.LawKit.callS X41 hx (y := (⟨"java/lang/StringUTF16", "compress", "([CI[BII)I"⟩ : MethodName)) hown (mvT hZ (hw _ (List.mem_of_getElem? (i := 56) rfl))) (mvT hZ (hw _ (List.mem_of_getElem? (i := 57) rfl))) (mvT hZ (hw _ (List.mem_of_getElem? (i := 54) rfl))) (mvT hZ (hw _ (List.mem_of_getElem? (i := 58) rfl))) (by decide) (backOf (W := 0) (rm12_L2 l Z a0 hw [] d0 (0 : Int32) b41 (0 : Int32) (2 : Int32) c0 c1 (fun _ => (0 : Int32)) h41 n0 (Nat.le_trans Z0 K46.1) g_b41 B42 B41 rfl rfl rfl ne_d0_b41 l0 l1) hZ (hw _ (List.mem_of_getElem? (i := 58) rfl)) (hw _ (List.mem_of_getElem? (i := 54) rfl)) (by decide) (by decide)) (g := (mkF m 9 #[.val (.ref d0), .val (.int (0 : Int32)), .val (.int (2 : Int32)), .val (.ref b41), .unset, .unset] [(.int (2 : Int32)), (.int (0 : Int32)), (.ref b41), (.int (0 : Int32)), (.ref d0)])) rfl (by rw [hml]; rfl) (argsL := [(.ref d0), (.int (0 : Int32)), (.ref b41), (.int (0 : Int32)), (.int (2 : Int32))]) (rest := []) (lenOf pd_285bCI5bBII29I rfl) rfl (by show 2 * 0 + _ ≤ _; exact Nat.le_of_eq rfl) (hb hby d11_9) (fun _ _ => ⟨rfl, e41, (by decide : 1 + 0 ≤ _), (by decide : 2 + 0 ≤ _)⟩)
      dsimp only [Pt.U, Pt.locs, Pt.cells, Pt.slots] at X47 l47 y47 z47 st47 hQ47
      subst l47 y47 z47
      obtain ⟨h47, e47⟩ : ∃ z, T47.heap = z := ⟨_, rfl⟩
      rw [e47] at hQ47
      obtain ⟨rfl, N47q, Kc47, o47_0⟩ := hQ47
      have N47 := Fr.app N0 N47q
      have B48 := B42.keep Kc47 (ninS ne_d0_b41 nin0)
      have c49 := own_sta_keep c43 Kc47 (allS (own_nsB B41) all0)
      have c50 := own_sta_keep c44 Kc47 (allS (own_nsB B41) all0)
      have c51 := own_sta_keep c45 Kc47 (allS (own_nsB B41) all0)
      have K47 := K46.trans Kc47 (allS (Or.inr sz_b41) all0)
      refine Wp.step st47 ?_
      show Wp p e below _ (T47.setTop (mkF m 12 #[.val (.ref d0), .val (.int (0 : Int32)), .val (.int (2 : Int32)), .val (.ref b41), .unset, .unset] [(.int (2 : Int32))]))
      refine Wp.step (fun t k => XS.istore X47.here hx rfl (hb hby d11_12) rfl (l' := #[.val (.ref d0), .val (.int (0 : Int32)), .val (.int (2 : Int32)), .val (.ref b41), .val (.int (2 : Int32)), .unset]) rfl k) ?_
      show Wp p e below _ (T47.setTop (mkF m 14 #[.val (.ref d0), .val (.int (0 : Int32)), .val (.int (2 : Int32)), .val (.ref b41), .val (.int (2 : Int32)), .unset] []))
      refine Wp.step (fun t k => XS.iload X47.here hx rfl (hb hby d11_14) rfl k) ?_
      show Wp p e below _ (T47.setTop (mkF m 16 #[.val (.ref d0), .val (.int (0 : Int32)), .val (.int (2 : Int32)), .val (.ref b41), .val (.int (2 : Int32)), .unset] [(.int (2 : Int32))]))
      refine Wp.step (fun t k => XS.iloadN X47.here hx rfl (hb hby d11_16) rfl k) ?_
      show Wp p e below _ (T47.setTop (mkF m 17 #[.val (.ref d0), .val (.int (0 : Int32)), .val (.int (2 : Int32)), .val (.ref b41), .val (.int (2 : Int32)), .unset] [(.int (2 : Int32)), (.int (2 : Int32))]))
      refine Wp.step (fun t k => XS.icmpYes X47.here hx rfl (pc0 := 17) (pc' := 57) rfl (hb hby d11_17) rfl (teq (show (2 : Int32) = (2 : Int32) by decide)).1 (by decide) (by decide) k) ?_
      show Wp p e below _ (T47.setTop (mkF m 57 #[.val (.ref d0), .val (.int (0 : Int32)), .val (.int (2 : Int32)), .val (.ref b41), .val (.int (2 : Int32)), .unset] []))
      refine Wp.step (fun t k => XS.aloadN X47.here hx rfl (hb hby d11_57) rfl rfl k) ?_
      show Wp p e below _ (T47.setTop (mkF m 58 #[.val (.ref d0), .val (.int (0 : Int32)), .val (.int (2 : Int32)), .val (.ref b41), .val (.int (2 : Int32)), .unset] [(.ref b41)]))
      refine Wp.retA X47 hx Bd.returns rfl (hb hby d11_58) hlk ?_ (by decide) (by decide)
      show Q11_2 Z d0 (0 : Int32) (2 : Int32) c0 c1 h0 n0 (some (.ref b41)) T47.heap _
      rw [e47]
      exact ⟨b41, (2 : Int32), (0 : Int32), (own_bc (own_bc (fun _ => (0 : Int32)) (0 : Int32) c0) (1 : Int32) c1), rfl, N47, K47, sz_b41, o47_0, (own_encL2 hq0 hq1 l0 l1)⟩
def Q3_2 (Z : State) (d0 : Addr) (d1 : Addr) (u0 : Int32) (u1 : Int32) (c0 : Int32) (c1 : Int32) (cs : Int32) (h0 : Heap) (n0 : Nat) (v : Option Value) (h : Heap) (L : List Loc) : Prop := v = none ∧ Fr n0 L ∧ Keep h0 h [d0] ∧ own_S Z h d0 (2 : Int32) (own_ch c0 c1)
set_option maxRecDepth 65536 in
set_option maxHeartbeats 40000000 in
theorem rm3_2 (l : Launch) (Z : State) (a0 : Array Value) (hw : ∀ d ∈ tables_1, d.before a0 Z = true) (ws : List Jvm.Cond) (d0 : Addr) (d1 : Addr) (u0 : Int32) (u1 : Int32) (c0 : Int32) (c1 : Int32) (cs : Int32) (h0 : Heap) (n0 : Nat) (Z0 : n0 ≤ h0.size) (g_d0 : n0 ≤ d0) (E_d0 : Exa Z h0 d0 "java/lang/String") (F_value_d0 : Fld Z h0 d0 "java/lang/String" "value" "[B" .null) (F_coder_d0 : Fld Z h0 d0 "java/lang/String" "coder" "B" (.int (0 : Int32))) (B_d1 : own_IA .char Z h0 d1 (2 : Int32) (own_ch c0 c1)) (S_COMPACT_STRINGS_cs : Sta Z h0 "java/lang/String" "COMPACT_STRINGS" "Z" (.int cs)) (S_assertionsDisabled_1Int32 : Sta Z h0 "java/lang/StringUTF16" "$assertionsDisabled" "Z" (.int (1 : Int32))) (S_HI_BYTE_SHIFT_0Int32 : Sta Z h0 "java/lang/StringUTF16" "HI_BYTE_SHIFT" "I" (.int (0 : Int32))) (S_LO_BYTE_SHIFT_8Int32 : Sta Z h0 "java/lang/StringUTF16" "LO_BYTE_SHIFT" "I" (.int (8 : Int32))) (hu0 : u0 = 0) (hu1 : u1 = 2) (hda : d1 ≠ d0) (hq0 : own_isC c0) (hq1 : own_isC c1) (hcs : ¬ cs = 0) :
    MetFree l (⟨"java/lang/String", "<init>", "([CIILjava/lang/Void;)V"⟩ : MethodName) (head1 (Jvm.Cond.code (⟨"java/lang/String", "<init>", "([CIILjava/lang/Void;)V"⟩ : MethodName) jdk_42_method_149_code 6 none :: ws) ({ frames := 4, cells := 2, slots := 6, locals := 57 } : Room)) (fun a U => a = #[(.ref d0), (.ref d1), (.int u0), (.int u1), .null] ∧ Z.Warmed39 U.vm ∧ U.heap = h0) (fun _ _ _ _ _ => True) (fun _ U o U' => ∃ v L, o = .returned v ∧ Q3_2 Z d0 d1 u0 u1 c0 c1 cs h0 n0 v U'.heap L ∧ FrameEnd U o U' L ({ frames := 4, cells := 2, slots := 6, locals := 57 } : Room).cells ({ frames := 4, cells := 2, slots := 6, locals := 57 } : Room).slots) := by
  refine MetFree.of_bodySF (plainFor_of_name pn_java_lang_String) hisR ?_
  intro p e s m args below meth c s₁ Bd hml0 hP hK
  obtain ⟨rfl, hZ, hh⟩ := hP
  have hx := Bd.exec
  have hby := Bd.bytes
  have hlk : meth.locks = false := Bd.notSynchronized
  have hml : c.maxLocals = 6 := hml0
  have hown : s.vm.findClass "java/lang/String" = some m.cls := findClass_of_methodNamed Bd.named
  have hnm := (name_of_methodNamed Bd.named Bd.method).1
  have X0 : Stand p l e ({ frames := 4, cells := 2, slots := 6, locals := 57 } : Room) s m #[(.ref d0), (.ref d1), (.int u0), (.int u1), .null] below meth c s₁ [] 0 0 := Stand.of_body Bd
  have e0 : s₁.heap = h0 := by rw [← hh, Bd.state]; rfl
  have N0 := Fr.nil n0
  have K0 : Keep h0 h0 [d0] := Keep.refl h0 _
  show Wp p e below (Out s (Q3_2 Z d0 d1 u0 u1 c0 c1 cs h0 n0) ({ frames := 4, cells := 2, slots := 6, locals := 57 } : Room).cells ({ frames := 4, cells := 2, slots := 6, locals := 57 } : Room).slots) (s₁.setTop (entryFrame m #[(.ref d0), (.ref d1), (.int u0), (.int u1), .null] 6))
  rw [ef_3_00001]
  subst hu0 hu1
  show Wp p e below _ (s₁.setTop (mkF m 0 #[.val (.ref d0), .val (.ref d1), .val (.int (0 : Int32)), .val (.int (2 : Int32)), .val .null, .unset] []))
  refine Wp.step (fun t k => XS.aloadN X0.here hx rfl (hb hby d3_0) rfl rfl k) ?_
  show Wp p e below _ (s₁.setTop (mkF m 1 #[.val (.ref d0), .val (.ref d1), .val (.int (0 : Int32)), .val (.int (2 : Int32)), .val .null, .unset] [(.ref d0)]))
  obtain ⟨T1, X1, e1, st1⟩ := initO X0 hx hZ hown (hw _ (List.mem_of_getElem? (i := 15) rfl)) (hw _ (List.mem_of_getElem? (i := 16) rfl)) (hw _ (List.mem_of_getElem? (i := 17) rfl)) e0 (g := (mkF m 1 #[.val (.ref d0), .val (.ref d1), .val (.int (0 : Int32)), .val (.int (2 : Int32)), .val .null, .unset] [(.ref d0)])) rfl (by rw [hml]; rfl) rfl (hb hby d3_1) (by decide) (W := 0) (by show 2 * 0 + _ ≤ _; exact Nat.le_of_eq rfl) (by decide)
  refine Wp.step st1 ?_
  show Wp p e below _ (T1.setTop (mkF m 4 #[.val (.ref d0), .val (.ref d1), .val (.int (0 : Int32)), .val (.int (2 : Int32)), .val .null, .unset] []))
  refine Wp.step (fun t k => XS.iloadN X1.here hx rfl (hb hby d3_4) rfl k) ?_
  show Wp p e below _ (T1.setTop (mkF m 5 #[.val (.ref d0), .val (.ref d1), .val (.int (0 : Int32)), .val (.int (2 : Int32)), .val .null, .unset] [(.int (2 : Int32))]))
  refine Wp.step (fun t k => XS.ifYes X1.here hx rfl (pc0 := 5) (pc' := 27) rfl (hb hby d3_5) rfl ((if0 _ _).trans (feq (show ¬ ((2 : Int32) = (0 : Int32)) by decide)).2) (by decide) (by decide) k) ?_
  show Wp p e below _ (T1.setTop (mkF m 27 #[.val (.ref d0), .val (.ref d1), .val (.int (0 : Int32)), .val (.int (2 : Int32)), .val .null, .unset] []))
  obtain ⟨T3, X3, e3, st3⟩ := getS2 X1 hx hZ hown (host := "") (Or.inl (hw _ (List.mem_of_getElem? (i := 43) rfl))) Via.refl e1 S_COMPACT_STRINGS_cs (g := (mkF m 27 #[.val (.ref d0), .val (.ref d1), .val (.int (0 : Int32)), .val (.int (2 : Int32)), .val .null, .unset] [])) rfl (hb hby d3_27)
  refine Wp.step st3 ?_
  show Wp p e below _ (T3.setTop (mkF m 30 #[.val (.ref d0), .val (.ref d1), .val (.int (0 : Int32)), .val (.int (2 : Int32)), .val .null, .unset] [(.int cs)]))
  refine Wp.step (fun t k => XS.ifNo X3.here hx rfl (hb hby d3_30) rfl ((if0 _ _).trans (feq (show ¬ (cs = (0 : Int32)) from hcs)).1) k) ?_
  show Wp p e below _ (T3.setTop (mkF m 33 #[.val (.ref d0), .val (.ref d1), .val (.int (0 : Int32)), .val (.int (2 : Int32)), .val .null, .unset] []))
  refine Wp.step (fun t k => XS.aloadN X3.here hx rfl (hb hby d3_33) rfl rfl k) ?_
  show Wp p e below _ (T3.setTop (mkF m 34 #[.val (.ref d0), .val (.ref d1), .val (.int (0 : Int32)), .val (.int (2 : Int32)), .val .null, .unset] [(.ref d1)]))
  refine Wp.step (fun t k => XS.iloadN X3.here hx rfl (hb hby d3_34) rfl k) ?_
  show Wp p e below _ (T3.setTop (mkF m 35 #[.val (.ref d0), .val (.ref d1), .val (.int (0 : Int32)), .val (.int (2 : Int32)), .val .null, .unset] [(.int (0 : Int32)), (.ref d1)]))
  refine Wp.step (fun t k => XS.iloadN X3.here hx rfl (hb hby d3_35) rfl k) ?_
  show Wp p e below _ (T3.setTop (mkF m 36 #[.val (.ref d0), .val (.ref d1), .val (.int (0 : Int32)), .val (.int (2 : Int32)), .val .null, .unset] [(.int (2 : Int32)), (.int (0 : Int32)), (.ref d1)]))
  obtain ⟨_, _, ⟨T5, L5, k5, n5⟩, -, X5, ⟨Lc5, hQ5, l5, y5, z5⟩, st5⟩ := Jvm.LawKit.callS X3 hx (y := (⟨"java/lang/StringUTF16", "compress", "([CII)[B"⟩ : MethodName)) hown (mvT hZ (hw _ (List.mem_of_getElem? (i := 52) rfl))) (mvT hZ (hw _ (List.mem_of_getElem? (i := 53) rfl))) (mvT hZ (hw _ (List.mem_of_getElem? (i := 54) rfl))) (mvT hZ (hw _ (List.mem_of_getElem? (i := 55) rfl))) (by decide) (backOf (W := 0) (rm11_2 l Z a0 hw [] d1 (0 : Int32) (2 : Int32) c0 c1 h0 n0 (Nat.le_trans Z0 K0.1) B_d1 S_assertionsDisabled_1Int32 S_HI_BYTE_SHIFT_0Int32 S_LO_BYTE_SHIFT_8Int32 rfl rfl hq0 hq1) hZ (hw _ (List.mem_of_getElem? (i := 55) rfl)) (hw _ (List.mem_of_getElem? (i := 54) rfl)) (by decide) (by decide)) (g := (mkF m 36 #[.val (.ref d0), .val (.ref d1), .val (.int (0 : Int32)), .val (.int (2 : Int32)), .val .null, .unset] [(.int (2 : Int32)), (.int (0 : Int32)), (.ref d1)])) rfl (by rw [hml]; rfl) (argsL := [(.ref d1), (.int (0 : Int32)), (.int (2 : Int32))]) (rest := []) (lenOf pd_285bCII295bB rfl) rfl (by show 2 * 0 + _ ≤ _; exact Nat.le_of_eq rfl) (hb hby d3_36) (fun _ _ => ⟨rfl, e3, (by decide : 0 + 2 ≤ _), (by decide : 0 + 6 ≤ _)⟩)
  dsimp only [Pt.U, Pt.locs, Pt.cells, Pt.slots] at X5 l5 y5 z5 st5 hQ5
  subst l5 y5 z5
  obtain ⟨h5, e5⟩ : ∃ z, T5.heap = z := ⟨_, rfl⟩
  rw [e5] at hQ5
  obtain ⟨r5, ln_5, cc_5, gg_5, rfl, N5q, Kc5, sz5, o5_0, hE_5⟩ := hQ5
  have N5 := Fr.app N0 N5q
  have g_r5 : n0 ≤ r5 := Nat.le_trans (Nat.le_trans Z0 K0.1) sz5
  have sz_r5 : h0.size ≤ r5 := Nat.le_trans K0.1 sz5
  have ne_d0_r5 : d0 ≠ r5 := Nat.ne_of_lt (Nat.lt_of_lt_of_le E_d0.lt sz5)
  have ne_d1_r5 : d1 ≠ r5 := Nat.ne_of_lt (Nat.lt_of_lt_of_le B_d1.lt sz5)
  have c6 := E_d0.keep Kc5
  have c7 := F_value_d0.keep Kc5 nin0
  have c8 := F_coder_d0.keep Kc5 nin0
  have B9 := B_d1.keep Kc5 nin0
  have c10 := own_sta_keep S_COMPACT_STRINGS_cs Kc5 all0
  have c11 := own_sta_keep S_assertionsDisabled_1Int32 Kc5 all0
  have c12 := own_sta_keep S_HI_BYTE_SHIFT_0Int32 Kc5 all0
  have c13 := own_sta_keep S_LO_BYTE_SHIFT_8Int32 Kc5 all0
  have K5 := K0.trans Kc5 all0
  refine Wp.step st5 ?_
  show Wp p e below _ (T5.setTop (mkF m 39 #[.val (.ref d0), .val (.ref d1), .val (.int (0 : Int32)), .val (.int (2 : Int32)), .val .null, .unset] [(.ref r5)]))
  rcases id hE_5 with ⟨hcc, hln, -⟩ | ⟨hcc, hln, -⟩
  · have hln : ln_5 = (2 : Int32) := hln
    subst hcc
    subst hln
    refine Wp.step (fun t k => XS.astore X5.here hx rfl (hb hby d3_39) rfl rfl (l' := #[.val (.ref d0), .val (.ref d1), .val (.int (0 : Int32)), .val (.int (2 : Int32)), .val .null, .val (.ref r5)]) rfl k) ?_
    show Wp p e below _ (T5.setTop (mkF m 41 #[.val (.ref d0), .val (.ref d1), .val (.int (0 : Int32)), .val (.int (2 : Int32)), .val .null, .val (.ref r5)] []))
    refine Wp.step (fun t k => XS.aloadN X5.here hx rfl (hb hby d3_41) rfl rfl k) ?_
    show Wp p e below _ (T5.setTop (mkF m 42 #[.val (.ref d0), .val (.ref d1), .val (.int (0 : Int32)), .val (.int (2 : Int32)), .val .null, .val (.ref r5)] [(.ref d0)]))
    refine Wp.step (fun t k => XS.aload X5.here hx rfl (hb hby d3_42) rfl rfl k) ?_
    show Wp p e below _ (T5.setTop (mkF m 44 #[.val (.ref d0), .val (.ref d1), .val (.int (0 : Int32)), .val (.int (2 : Int32)), .val .null, .val (.ref r5)] [(.ref r5), (.ref d0)]))
    refine Wp.step (fun t k => XS.iloadN X5.here hx rfl (hb hby d3_44) rfl k) ?_
    show Wp p e below _ (T5.setTop (mkF m 45 #[.val (.ref d0), .val (.ref d1), .val (.int (0 : Int32)), .val (.int (2 : Int32)), .val .null, .val (.ref r5)] [(.int (2 : Int32)), (.ref r5), (.ref d0)]))
    obtain ⟨_, _, ⟨T14, L14, k14, n14⟩, -, X14, ⟨Lc14, hQ14, l14, y14, z14⟩, st14⟩ := Jvm.LawKit.callS X5 hx (y := (⟨"java/lang/StringUTF16", "coderFromArrayLen", "([BI)B"⟩ : MethodName)) hown (mvT hZ (hw _ (List.mem_of_getElem? (i := 59) rfl))) (mvT hZ (hw _ (List.mem_of_getElem? (i := 60) rfl))) (mvT hZ (hw _ (List.mem_of_getElem? (i := 54) rfl))) (mvT hZ (hw _ (List.mem_of_getElem? (i := 61) rfl))) (by decide) (backOf (W := 1) (rm13 l Z a0 hw [] r5 (2 : Int32) (2 : Int32) gg_5 h5 n0 (Nat.le_trans Z0 K5.1) o5_0 ) hZ (hw _ (List.mem_of_getElem? (i := 61) rfl)) (hw _ (List.mem_of_getElem? (i := 54) rfl)) (by decide) (by decide)) (g := (mkF m 45 #[.val (.ref d0), .val (.ref d1), .val (.int (0 : Int32)), .val (.int (2 : Int32)), .val .null, .val (.ref r5)] [(.int (2 : Int32)), (.ref r5), (.ref d0)])) rfl (by rw [hml]; rfl) (argsL := [(.ref r5), (.int (2 : Int32))]) (rest := [(.ref d0)]) (lenOf pd_285bBI29B rfl) rfl (by show 2 * 0 + _ ≤ _; exact Nat.le_of_eq rfl) (hb hby d3_45) (fun _ _ => ⟨rfl, e5, (by decide : 2 + 0 ≤ _), (by decide : 6 + 0 ≤ _)⟩)
    dsimp only [Pt.U, Pt.locs, Pt.cells, Pt.slots] at X14 l14 y14 z14 st14 hQ14
    subst l14 y14 z14
    obtain ⟨rfl, N14q, e14⟩ := hQ14
    have N14 := Fr.app N5 N14q
    refine Wp.step st14 ?_
    show Wp p e below _ (T14.setTop (mkF m 48 #[.val (.ref d0), .val (.ref d1), .val (.int (0 : Int32)), .val (.int (2 : Int32)), .val .null, .val (.ref r5)] [(.int (own_cal (2 : Int32) (2 : Int32))), (.ref d0)]))
    rw [show (own_cal (2 : Int32) (2 : Int32)) = (0 : Int32) from (by decide)]
    obtain ⟨T15, h15, X15, e15, W15, st15⟩ := putFN X14 hx hZ hown (hw _ (List.mem_of_getElem? (i := 25) rfl)) Via.refl e14 c8 c6 (Or.inr ⟨(hw _ (List.mem_of_getElem? (i := 21) rfl)), rfl, hnm⟩) (hw _ (List.mem_of_getElem? (i := 5) rfl)) (ty := .byte) (v' := (.int (0 : Int32))) (by decide) rfl ((by decide)) (g := (mkF m 48 #[.val (.ref d0), .val (.ref d1), .val (.int (0 : Int32)), .val (.int (2 : Int32)), .val .null, .val (.ref r5)] [(.int (0 : Int32)), (.ref d0)])) rfl rfl (hb hby d3_48)
    have c16 := c6.wr W15
    have c17 := c7.other W15 (Or.inr (slot_ne (Or.inr (hw _ (List.mem_of_getElem? (i := 20) rfl))) (Or.inr (hw _ (List.mem_of_getElem? (i := 21) rfl))) (by decide) (t := (.array .byte)) (t' := .byte) (by decide) (by decide)))
    have B18 := B9.other W15 hda
    have c19 := c10.wr W15
    have c20 := c11.wr W15
    have c21 := c12.wr W15
    have c22 := c13.wr W15
    have B23 := o5_0.other W15 (Ne.symm ne_d0_r5)
    have c24 := c8.same W15
    have K25 := K5.wr W15 (Or.inl (List.mem_of_getElem? (i := 0) rfl))
    have N15 := Fr.snoc X15 N14 g_d0
    refine Wp.step st15 ?_
    show Wp p e below _ (T15.setTop (mkF m 51 #[.val (.ref d0), .val (.ref d1), .val (.int (0 : Int32)), .val (.int (2 : Int32)), .val .null, .val (.ref r5)] []))
    refine Wp.step (fun t k => XS.aloadN X15.here hx rfl (hb hby d3_51) rfl rfl k) ?_
    show Wp p e below _ (T15.setTop (mkF m 52 #[.val (.ref d0), .val (.ref d1), .val (.int (0 : Int32)), .val (.int (2 : Int32)), .val .null, .val (.ref r5)] [(.ref d0)]))
    refine Wp.step (fun t k => XS.aload X15.here hx rfl (hb hby d3_52) rfl rfl k) ?_
    show Wp p e below _ (T15.setTop (mkF m 54 #[.val (.ref d0), .val (.ref d1), .val (.int (0 : Int32)), .val (.int (2 : Int32)), .val .null, .val (.ref r5)] [(.ref r5), (.ref d0)]))
    obtain ⟨T26, h26, X26, e26, W26, st26⟩ := putF X15 hx hZ hown (host := "") (Or.inl (hw _ (List.mem_of_getElem? (i := 24) rfl))) Via.refl e15 c17 c16 (Or.inr ⟨(hw _ (List.mem_of_getElem? (i := 20) rfl)), rfl, hnm⟩) (hw _ (List.mem_of_getElem? (i := 5) rfl)) (ty := (.array .byte)) (by decide) rfl rfl (g := (mkF m 54 #[.val (.ref d0), .val (.ref d1), .val (.int (0 : Int32)), .val (.int (2 : Int32)), .val .null, .val (.ref r5)] [(.ref r5), (.ref d0)])) rfl rfl (hb hby d3_54)
    have c27 := c16.wr W26
    have c28 := c24.other W26 (Or.inr (slot_ne (Or.inr (hw _ (List.mem_of_getElem? (i := 21) rfl))) (Or.inr (hw _ (List.mem_of_getElem? (i := 20) rfl))) (by decide) (t := .byte) (t' := (.array .byte)) (by decide) (by decide)))
    have B29 := B18.other W26 hda
    have c30 := c19.wr W26
    have c31 := c20.wr W26
    have c32 := c21.wr W26
    have c33 := c22.wr W26
    have B34 := B23.other W26 (Ne.symm ne_d0_r5)
    have c35 := c17.same W26
    have K36 := K25.wr W26 (Or.inl (List.mem_of_getElem? (i := 0) rfl))
    have N26 := Fr.snoc X26 N15 g_d0
    refine Wp.step st26 ?_
    show Wp p e below _ (T26.setTop (mkF m 57 #[.val (.ref d0), .val (.ref d1), .val (.int (0 : Int32)), .val (.int (2 : Int32)), .val .null, .val (.ref r5)] []))
    refine Wp.retV X26 hx Bd.returns (hb hby d3_57) hlk ?_ (by decide) (by decide)
    show Q3_2 Z d0 d1 (0 : Int32) (2 : Int32) c0 c1 cs h0 n0 none T26.heap _
    rw [e26]
    exact ⟨rfl, N26, K36, ⟨r5, (0 : Int32), (2 : Int32), gg_5, c27, c35, c28, B34, own_n3_2, hE_5⟩⟩
  · have hln : ln_5 = (4 : Int32) := hln
    subst hcc
    subst hln
    refine Wp.step (fun t k => XS.astore X5.here hx rfl (hb hby d3_39) rfl rfl (l' := #[.val (.ref d0), .val (.ref d1), .val (.int (0 : Int32)), .val (.int (2 : Int32)), .val .null, .val (.ref r5)]) rfl k) ?_
    show Wp p e below _ (T5.setTop (mkF m 41 #[.val (.ref d0), .val (.ref d1), .val (.int (0 : Int32)), .val (.int (2 : Int32)), .val .null, .val (.ref r5)] []))
    refine Wp.step (fun t k => XS.aloadN X5.here hx rfl (hb hby d3_41) rfl rfl k) ?_
    show Wp p e below _ (T5.setTop (mkF m 42 #[.val (.ref d0), .val (.ref d1), .val (.int (0 : Int32)), .val (.int (2 : Int32)), .val .null, .val (.ref r5)] [(.ref d0)]))
    refine Wp.step (fun t k => XS.aload X5.here hx rfl (hb hby d3_42) rfl rfl k) ?_
    show Wp p e below _ (T5.setTop (mkF m 44 #[.val (.ref d0), .val (.ref d1), .val (.int (0 : Int32)), .val (.int (2 : Int32)), .val .null, .val (.ref r5)] [(.ref r5), (.ref d0)]))
    refine Wp.step (fun t k => XS.iloadN X5.here hx rfl (hb hby d3_44) rfl k) ?_
    show Wp p e below _ (T5.setTop (mkF m 45 #[.val (.ref d0), .val (.ref d1), .val (.int (0 : Int32)), .val (.int (2 : Int32)), .val .null, .val (.ref r5)] [(.int (2 : Int32)), (.ref r5), (.ref d0)]))
    obtain ⟨_, _, ⟨T37, L37, k37, n37⟩, -, X37, ⟨Lc37, hQ37, l37, y37, z37⟩, st37⟩ := Jvm.LawKit.callS X5 hx (y := (⟨"java/lang/StringUTF16", "coderFromArrayLen", "([BI)B"⟩ : MethodName)) hown (mvT hZ (hw _ (List.mem_of_getElem? (i := 59) rfl))) (mvT hZ (hw _ (List.mem_of_getElem? (i := 60) rfl))) (mvT hZ (hw _ (List.mem_of_getElem? (i := 54) rfl))) (mvT hZ (hw _ (List.mem_of_getElem? (i := 61) rfl))) (by decide) (backOf (W := 1) (rm13 l Z a0 hw [] r5 (2 : Int32) (4 : Int32) gg_5 h5 n0 (Nat.le_trans Z0 K5.1) o5_0 ) hZ (hw _ (List.mem_of_getElem? (i := 61) rfl)) (hw _ (List.mem_of_getElem? (i := 54) rfl)) (by decide) (by decide)) (g := (mkF m 45 #[.val (.ref d0), .val (.ref d1), .val (.int (0 : Int32)), .val (.int (2 : Int32)), .val .null, .val (.ref r5)] [(.int (2 : Int32)), (.ref r5), (.ref d0)])) rfl (by rw [hml]; rfl) (argsL := [(.ref r5), (.int (2 : Int32))]) (rest := [(.ref d0)]) (lenOf pd_285bBI29B rfl) rfl (by show 2 * 0 + _ ≤ _; exact Nat.le_of_eq rfl) (hb hby d3_45) (fun _ _ => ⟨rfl, e5, (by decide : 2 + 0 ≤ _), (by decide : 6 + 0 ≤ _)⟩)
    dsimp only [Pt.U, Pt.locs, Pt.cells, Pt.slots] at X37 l37 y37 z37 st37 hQ37
    subst l37 y37 z37
    obtain ⟨rfl, N37q, e37⟩ := hQ37
    have N37 := Fr.app N5 N37q
    refine Wp.step st37 ?_
    show Wp p e below _ (T37.setTop (mkF m 48 #[.val (.ref d0), .val (.ref d1), .val (.int (0 : Int32)), .val (.int (2 : Int32)), .val .null, .val (.ref r5)] [(.int (own_cal (2 : Int32) (4 : Int32))), (.ref d0)]))
    rw [show (own_cal (2 : Int32) (4 : Int32)) = (1 : Int32) from (by decide)]
    obtain ⟨T38, h38, X38, e38, W38, st38⟩ := putFN X37 hx hZ hown (hw _ (List.mem_of_getElem? (i := 25) rfl)) Via.refl e37 c8 c6 (Or.inr ⟨(hw _ (List.mem_of_getElem? (i := 21) rfl)), rfl, hnm⟩) (hw _ (List.mem_of_getElem? (i := 5) rfl)) (ty := .byte) (v' := (.int (1 : Int32))) (by decide) rfl ((by decide)) (g := (mkF m 48 #[.val (.ref d0), .val (.ref d1), .val (.int (0 : Int32)), .val (.int (2 : Int32)), .val .null, .val (.ref r5)] [(.int (1 : Int32)), (.ref d0)])) rfl rfl (hb hby d3_48)
    have c39 := c6.wr W38
    have c40 := c7.other W38 (Or.inr (slot_ne (Or.inr (hw _ (List.mem_of_getElem? (i := 20) rfl))) (Or.inr (hw _ (List.mem_of_getElem? (i := 21) rfl))) (by decide) (t := (.array .byte)) (t' := .byte) (by decide) (by decide)))
    have B41 := B9.other W38 hda
    have c42 := c10.wr W38
    have c43 := c11.wr W38
    have c44 := c12.wr W38
    have c45 := c13.wr W38
    have B46 := o5_0.other W38 (Ne.symm ne_d0_r5)
    have c47 := c8.same W38
    have K48 := K5.wr W38 (Or.inl (List.mem_of_getElem? (i := 0) rfl))
    have N38 := Fr.snoc X38 N37 g_d0
    refine Wp.step st38 ?_
    show Wp p e below _ (T38.setTop (mkF m 51 #[.val (.ref d0), .val (.ref d1), .val (.int (0 : Int32)), .val (.int (2 : Int32)), .val .null, .val (.ref r5)] []))
    refine Wp.step (fun t k => XS.aloadN X38.here hx rfl (hb hby d3_51) rfl rfl k) ?_
    show Wp p e below _ (T38.setTop (mkF m 52 #[.val (.ref d0), .val (.ref d1), .val (.int (0 : Int32)), .val (.int (2 : Int32)), .val .null, .val (.ref r5)] [(.ref d0)]))
    refine Wp.step (fun t k => XS.aload X38.here hx rfl (hb hby d3_52) rfl rfl k) ?_
    show Wp p e below _ (T38.setTop (mkF m 54 #[.val (.ref d0), .val (.ref d1), .val (.int (0 : Int32)), .val (.int (2 : Int32)), .val .null, .val (.ref r5)] [(.ref r5), (.ref d0)]))
    obtain ⟨T49, h49, X49, e49, W49, st49⟩ := putF X38 hx hZ hown (host := "") (Or.inl (hw _ (List.mem_of_getElem? (i := 24) rfl))) Via.refl e38 c40 c39 (Or.inr ⟨(hw _ (List.mem_of_getElem? (i := 20) rfl)), rfl, hnm⟩) (hw _ (List.mem_of_getElem? (i := 5) rfl)) (ty := (.array .byte)) (by decide) rfl rfl (g := (mkF m 54 #[.val (.ref d0), .val (.ref d1), .val (.int (0 : Int32)), .val (.int (2 : Int32)), .val .null, .val (.ref r5)] [(.ref r5), (.ref d0)])) rfl rfl (hb hby d3_54)
    have c50 := c39.wr W49
    have c51 := c47.other W49 (Or.inr (slot_ne (Or.inr (hw _ (List.mem_of_getElem? (i := 21) rfl))) (Or.inr (hw _ (List.mem_of_getElem? (i := 20) rfl))) (by decide) (t := .byte) (t' := (.array .byte)) (by decide) (by decide)))
    have B52 := B41.other W49 hda
    have c53 := c42.wr W49
    have c54 := c43.wr W49
    have c55 := c44.wr W49
    have c56 := c45.wr W49
    have B57 := B46.other W49 (Ne.symm ne_d0_r5)
    have c58 := c40.same W49
    have K59 := K48.wr W49 (Or.inl (List.mem_of_getElem? (i := 0) rfl))
    have N49 := Fr.snoc X49 N38 g_d0
    refine Wp.step st49 ?_
    show Wp p e below _ (T49.setTop (mkF m 57 #[.val (.ref d0), .val (.ref d1), .val (.int (0 : Int32)), .val (.int (2 : Int32)), .val .null, .val (.ref r5)] []))
    refine Wp.retV X49 hx Bd.returns (hb hby d3_57) hlk ?_ (by decide) (by decide)
    show Q3_2 Z d0 d1 (0 : Int32) (2 : Int32) c0 c1 cs h0 n0 none T49.heap _
    rw [e49]
    exact ⟨rfl, N49, K59, ⟨r5, (1 : Int32), (4 : Int32), gg_5, c50, c58, c51, B57, own_n3_2, hE_5⟩⟩
def Q2_2 (Z : State) (d0 : Addr) (d1 : Addr) (c0 : Int32) (c1 : Int32) (cs : Int32) (h0 : Heap) (n0 : Nat) (v : Option Value) (h : Heap) (L : List Loc) : Prop := v = none ∧ Fr n0 L ∧ Keep h0 h [d0] ∧ own_S Z h d0 (2 : Int32) (own_ch c0 c1)
set_option maxRecDepth 65536 in
set_option maxHeartbeats 40000000 in
theorem rm2_2 (l : Launch) (Z : State) (a0 : Array Value) (hw : ∀ d ∈ tables_1, d.before a0 Z = true) (ws : List Jvm.Cond) (d0 : Addr) (d1 : Addr) (c0 : Int32) (c1 : Int32) (cs : Int32) (h0 : Heap) (n0 : Nat) (Z0 : n0 ≤ h0.size) (g_d0 : n0 ≤ d0) (E_d0 : Exa Z h0 d0 "java/lang/String") (F_value_d0 : Fld Z h0 d0 "java/lang/String" "value" "[B" .null) (F_coder_d0 : Fld Z h0 d0 "java/lang/String" "coder" "B" (.int (0 : Int32))) (B_d1 : own_IA .char Z h0 d1 (2 : Int32) (own_ch c0 c1)) (S_COMPACT_STRINGS_cs : Sta Z h0 "java/lang/String" "COMPACT_STRINGS" "Z" (.int cs)) (S_assertionsDisabled_1Int32 : Sta Z h0 "java/lang/StringUTF16" "$assertionsDisabled" "Z" (.int (1 : Int32))) (S_HI_BYTE_SHIFT_0Int32 : Sta Z h0 "java/lang/StringUTF16" "HI_BYTE_SHIFT" "I" (.int (0 : Int32))) (S_LO_BYTE_SHIFT_8Int32 : Sta Z h0 "java/lang/StringUTF16" "LO_BYTE_SHIFT" "I" (.int (8 : Int32))) (hda : d1 ≠ d0) (hq0 : own_isC c0) (hq1 : own_isC c1) (hcs : ¬ cs = 0) :
    MetFree l (⟨"java/lang/String", "<init>", "([C)V"⟩ : MethodName) (head1 (Jvm.Cond.code (⟨"java/lang/String", "<init>", "([C)V"⟩ : MethodName) jdk_42_method_3_code 2 none :: ws) ({ frames := 5, cells := 2, slots := 6, locals := 74 } : Room)) (fun a U => a = #[(.ref d0), (.ref d1)] ∧ Z.Warmed39 U.vm ∧ U.heap = h0) (fun _ _ _ _ _ => True) (fun _ U o U' => ∃ v L, o = .returned v ∧ Q2_2 Z d0 d1 c0 c1 cs h0 n0 v U'.heap L ∧ FrameEnd U o U' L ({ frames := 5, cells := 2, slots := 6, locals := 74 } : Room).cells ({ frames := 5, cells := 2, slots := 6, locals := 74 } : Room).slots) := by
  refine MetFree.of_bodySF (plainFor_of_name pn_java_lang_String) hisR ?_
  intro p e s m args below meth c s₁ Bd hml0 hP hK
  obtain ⟨rfl, hZ, hh⟩ := hP
  have hx := Bd.exec
  have hby := Bd.bytes
  have hlk : meth.locks = false := Bd.notSynchronized
  have hml : c.maxLocals = 2 := hml0
  have hown : s.vm.findClass "java/lang/String" = some m.cls := findClass_of_methodNamed Bd.named
  have hnm := (name_of_methodNamed Bd.named Bd.method).1
  have X0 : Stand p l e ({ frames := 5, cells := 2, slots := 6, locals := 74 } : Room) s m #[(.ref d0), (.ref d1)] below meth c s₁ [] 0 0 := Stand.of_body Bd
  have e0 : s₁.heap = h0 := by rw [← hh, Bd.state]; rfl
  have N0 := Fr.nil n0
  have K0 : Keep h0 h0 [d0] := Keep.refl h0 _
  show Wp p e below (Out s (Q2_2 Z d0 d1 c0 c1 cs h0 n0) ({ frames := 5, cells := 2, slots := 6, locals := 74 } : Room).cells ({ frames := 5, cells := 2, slots := 6, locals := 74 } : Room).slots) (s₁.setTop (entryFrame m #[(.ref d0), (.ref d1)] 2))
  rw [ef_2_00]
  show Wp p e below _ (s₁.setTop (mkF m 0 #[.val (.ref d0), .val (.ref d1)] []))
  refine Wp.step (fun t k => XS.aloadN X0.here hx rfl (hb hby d2_0) rfl rfl k) ?_
  show Wp p e below _ (s₁.setTop (mkF m 1 #[.val (.ref d0), .val (.ref d1)] [(.ref d0)]))
  refine Wp.step (fun t k => XS.aloadN X0.here hx rfl (hb hby d2_1) rfl rfl k) ?_
  show Wp p e below _ (s₁.setTop (mkF m 2 #[.val (.ref d0), .val (.ref d1)] [(.ref d1), (.ref d0)]))
  refine Wp.step (fun t k => XS.iconst X0.here hx rfl (hb hby d2_2) k) ?_
  show Wp p e below _ (s₁.setTop (mkF m 3 #[.val (.ref d0), .val (.ref d1)] [(.int (0 : Int32)), (.ref d1), (.ref d0)]))
  refine Wp.step (fun t k => XS.aloadN X0.here hx rfl (hb hby d2_3) rfl rfl k) ?_
  show Wp p e below _ (s₁.setTop (mkF m 4 #[.val (.ref d0), .val (.ref d1)] [(.ref d1), (.int (0 : Int32)), (.ref d1), (.ref d0)]))
  obtain ⟨cl1, Ar1, Sz1, Nn1, -⟩ := id B_d1
  refine Wp.step (X0.arraylength hx (by rw [e0]; exact Ar1.1) (State.isArrayOf_alike hZ.alike Ar1.2.1) (g := (mkF m 4 #[.val (.ref d0), .val (.ref d1)] [(.ref d1), (.int (0 : Int32)), (.ref d1), (.ref d0)])) rfl rfl (hb hby d2_4)) ?_
  rw [len_of Sz1 Nn1]
  show Wp p e below _ (s₁.setTop (mkF m 5 #[.val (.ref d0), .val (.ref d1)] [(.int (2 : Int32)), (.int (0 : Int32)), (.ref d1), (.ref d0)]))
  refine Wp.step (fun t k => XS.aconstNull X0.here hx rfl (hb hby d2_5) k) ?_
  show Wp p e below _ (s₁.setTop (mkF m 6 #[.val (.ref d0), .val (.ref d1)] [.null, (.int (2 : Int32)), (.int (0 : Int32)), (.ref d1), (.ref d0)]))
  obtain ⟨_, _, ⟨T2, L2, k2, n2⟩, -, X2, ⟨Lc2, hQ2, l2, y2, z2⟩, st2⟩ := X0.specialBack hx (y := (⟨"java/lang/String", "<init>", "([CIILjava/lang/Void;)V"⟩ : MethodName)) rfl hown (mvT hZ (hw _ (List.mem_of_getElem? (i := 11) rfl))) (mvT hZ (hw _ (List.mem_of_getElem? (i := 12) rfl))) (mvT hZ (hw _ (List.mem_of_getElem? (i := 14) rfl))) (by decide) (backOf (W := 0) (rm3_2 l Z a0 hw [] d0 d1 (0 : Int32) (2 : Int32) c0 c1 cs h0 n0 (Nat.le_trans Z0 K0.1) g_d0 E_d0 F_value_d0 F_coder_d0 B_d1 S_COMPACT_STRINGS_cs S_assertionsDisabled_1Int32 S_HI_BYTE_SHIFT_0Int32 S_LO_BYTE_SHIFT_8Int32 rfl rfl hda hq0 hq1 hcs) hZ (hw _ (List.mem_of_getElem? (i := 14) rfl)) (hw _ (List.mem_of_getElem? (i := 6) rfl)) (by decide) (by decide)) (g := (mkF m 6 #[.val (.ref d0), .val (.ref d1)] [.null, (.int (2 : Int32)), (.int (0 : Int32)), (.ref d1), (.ref d0)])) rfl (by rw [hml]; rfl) (Steps.refl _) (a := d0) (argsL := [(.ref d1), (.int (0 : Int32)), (.int (2 : Int32)), .null]) (rest := []) (lenOf pd_285bCIILjava2flang2fVoid3b29V rfl) rfl (by show 2 * 0 + _ ≤ _; exact Nat.le_of_eq rfl) (hb hby d2_6) (fun _ _ => ⟨rfl, e0, (by decide : 0 + 2 ≤ _), (by decide : 0 + 6 ≤ _)⟩)
  dsimp only [Pt.U, Pt.locs, Pt.cells, Pt.slots] at X2 l2 y2 z2 st2 hQ2
  subst l2 y2 z2
  obtain ⟨h2, e2⟩ : ∃ z, T2.heap = z := ⟨_, rfl⟩
  rw [e2] at hQ2
  obtain ⟨rfl, N2q, Kc2, hS_2⟩ := hQ2
  have N2 := Fr.app N0 N2q
  have c3 := E_d0.keep Kc2
  have B4 := B_d1.keep Kc2 (ninS hda nin0)
  have c5 := own_sta_keep S_COMPACT_STRINGS_cs Kc2 (allS (own_ns E_d0) all0)
  have c6 := own_sta_keep S_assertionsDisabled_1Int32 Kc2 (allS (own_ns E_d0) all0)
  have c7 := own_sta_keep S_HI_BYTE_SHIFT_0Int32 Kc2 (allS (own_ns E_d0) all0)
  have c8 := own_sta_keep S_LO_BYTE_SHIFT_8Int32 Kc2 (allS (own_ns E_d0) all0)
  have K2 := K0.trans Kc2 (allS (Or.inl (List.mem_of_getElem? (i := 0) rfl)) all0)
  refine Wp.go st2 ?_
  show Wp p e below _ (T2.setTop (mkF m 9 #[.val (.ref d0), .val (.ref d1)] []))
  refine Wp.retV X2 hx Bd.returns (hb hby d2_9) hlk ?_ (by decide) (by decide)
  show Q2_2 Z d0 d1 c0 c1 cs h0 n0 none T2.heap _
  rw [e2]
  exact ⟨rfl, N2, K2, hS_2⟩
theorem own_S.n3 {Z : State} {h : Heap} {o : Addr} {n : Int32} {f : Nat → Int32} (F : own_S Z h o n f) : own_n3 n := by obtain ⟨va, cc, len, g, -, -, -, -, h5, -⟩ := F; exact h5
theorem own_min_no2 {n k : Int32} (h : own_n3 n) : ¬ (2 : Int32) < own_min n k := fun q => by
  have := (own_min_lt.mp q).1
  rcases h with rfl | rfl | rfl <;> revert this <;> decide
theorem own_ch1 {c0 c1 : Int32} (h : own_isC c0) : ∀ i, i < (1 : Int32).toNatClampNeg → own_ch c0 c1 i = own_upd (fun _ => (0 : Int32)) (0 : Int32).toNatClampNeg (nar .char c0) i := fun i hi => by
  have : i = 0 := Nat.lt_one_iff.mp hi
  subst this; rw [own_nar_isC h]; rfl
theorem own_ch2 {c0 c1 : Int32} (h : own_isC c0) (h' : own_isC c1) : ∀ i, i < (2 : Int32).toNatClampNeg → own_ch c0 c1 i = own_upd (own_upd (fun _ => (0 : Int32)) (0 : Int32).toNatClampNeg (nar .char c0)) (1 : Int32).toNatClampNeg (nar .char c1) i := fun i hi => by
  have hi : i < 2 := hi
  rw [own_nar_isC h, own_nar_isC h']
  rcases (show i = 0 ∨ i = 1 by omega) with rfl | rfl <;> rfl
theorem d3_8 : decode jdk_42_method_149_code 8 = .ok (.aload_n 0, 1) := by decide +kernel
theorem d3_9 : decode jdk_42_method_149_code 9 = .ok (.ldc 7, 2) := by decide +kernel
theorem d3_11 : decode jdk_42_method_149_code 11 = .ok (.getfield 9, 3) := by decide +kernel
theorem d3_14 : decode jdk_42_method_149_code 14 = .ok (.putfield 9, 3) := by decide +kernel
theorem d3_17 : decode jdk_42_method_149_code 17 = .ok (.aload_n 0, 1) := by decide +kernel
theorem d3_18 : decode jdk_42_method_149_code 18 = .ok (.ldc 7, 2) := by decide +kernel
theorem d3_20 : decode jdk_42_method_149_code 20 = .ok (.getfield 15, 3) := by decide +kernel
theorem d3_23 : decode jdk_42_method_149_code 23 = .ok (.putfield 15, 3) := by decide +kernel
theorem d3_26 : decode jdk_42_method_149_code 26 = .ok (.return_, 1) := by decide +kernel
def Q3_0 (Z : State) (d0 : Addr) (d1 : Addr) (u0 : Int32) (u1 : Int32) (c0 : Int32) (c1 : Int32) (h0 : Heap) (n0 : Nat) (v : Option Value) (h : Heap) (L : List Loc) : Prop := v = none ∧ Fr n0 L ∧ Keep h0 h [d0] ∧ own_S Z h d0 (0 : Int32) (own_ch c0 c1)
set_option maxRecDepth 65536 in
set_option maxHeartbeats 40000000 in
theorem rm3_0 (l : Launch) (Z : State) (a0 : Array Value) (hw : ∀ d ∈ tables_1, d.before a0 Z = true) (ws : List Jvm.Cond) (d0 : Addr) (d1 : Addr) (u0 : Int32) (u1 : Int32) (c0 : Int32) (c1 : Int32) (h0 : Heap) (n0 : Nat) (Z0 : n0 ≤ h0.size) (g_d0 : n0 ≤ d0) (E_d0 : Exa Z h0 d0 "java/lang/String") (F_value_d0 : Fld Z h0 d0 "java/lang/String" "value" "[B" .null) (F_coder_d0 : Fld Z h0 d0 "java/lang/String" "coder" "B" (.int (0 : Int32))) (hu0 : u0 = 0) (hu1 : u1 = 0) (hCH : Jvm.Lit.constHeld Z "java/lang/String" 7) (hcw : Jvm.Lit.compactW.before a0 Z = true) :
    MetFree l (⟨"java/lang/String", "<init>", "([CIILjava/lang/Void;)V"⟩ : MethodName) (head1 (Jvm.Cond.code (⟨"java/lang/String", "<init>", "([CIILjava/lang/Void;)V"⟩ : MethodName) jdk_42_method_149_code 6 none :: ws) ({ frames := 1, cells := 2, slots := 4, locals := 12 } : Room)) (fun a U => a = #[(.ref d0), (.ref d1), (.int u0), (.int u1), .null] ∧ (Z.Warmed39 U.vm ∧ own_T Z U.vm h0) ∧ U.heap = h0) (fun _ _ _ _ _ => True) (fun _ U o U' => ∃ v L, o = .returned v ∧ (Q3_0 Z d0 d1 u0 u1 c0 c1 h0 n0 v U'.heap L ∧ own_T Z U'.vm U'.heap) ∧ ReturnedEndW U o U' L ({ frames := 1, cells := 2, slots := 4, locals := 12 } : Room).cells ({ frames := 1, cells := 2, slots := 4, locals := 12 } : Room).slots) := by
  refine MetFree.of_bodySF (plainFor_of_name pn_java_lang_String) hisR ?_
  intro p e s m args below meth c s₁ Bd hml0 hP hK
  obtain ⟨rfl, ⟨hZ, hT⟩, hh⟩ := hP
  have hx := Bd.exec
  have hby := Bd.bytes
  have hlk : meth.locks = false := Bd.notSynchronized
  have hml : c.maxLocals = 6 := hml0
  have hown : s.vm.findClass "java/lang/String" = some m.cls := findClass_of_methodNamed Bd.named
  have hnm := (name_of_methodNamed Bd.named Bd.method).1
  have X0 : Stand p l e ({ frames := 1, cells := 2, slots := 4, locals := 12 } : Room) s m #[(.ref d0), (.ref d1), (.int u0), (.int u1), .null] below meth c s₁ [] 0 0 := Stand.of_body Bd
  have e0 : s₁.heap = h0 := by rw [← hh, Bd.state]; rfl
  have N0 := Fr.nil n0
  have K0 : Keep h0 h0 [d0] := Keep.refl h0 _
  show Wp p e below (OutX Z s (Q3_0 Z d0 d1 u0 u1 c0 c1 h0 n0) ({ frames := 1, cells := 2, slots := 4, locals := 12 } : Room).cells ({ frames := 1, cells := 2, slots := 4, locals := 12 } : Room).slots) (s₁.setTop (entryFrame m #[(.ref d0), (.ref d1), (.int u0), (.int u1), .null] 6))
  rw [ef_3_00001]
  have X0 : Stand p l e ({ frames := 1, cells := 2, slots := 4, locals := 12 } : Room) (s.setVm s.vm) m #[(.ref d0), (.ref d1), (.int u0), (.int u1), .null] below meth c s₁ [] 0 0 := X0
  have hS : s.Since s.vm 0 := (State.WarmedH.refl s).since 0
  have hk : 0 ≤ h0.size := Nat.zero_le _
  have hZ : Z.Warmed39 (s.setVm s.vm).vm := hZ
  have hown : (s.setVm s.vm).vm.findClass "java/lang/String" = some m.cls := hown
  have hT : own_T Z (s.setVm s.vm).vm h0 := hT
  subst hu0 hu1
  show Wp p e below _ (s₁.setTop (mkF m 0 #[.val (.ref d0), .val (.ref d1), .val (.int (0 : Int32)), .val (.int (0 : Int32)), .val .null, .unset] []))
  refine Wp.step (fun t k => XS.aloadN X0.here hx rfl (hb hby d3_0) rfl rfl k) ?_
  show Wp p e below _ (s₁.setTop (mkF m 1 #[.val (.ref d0), .val (.ref d1), .val (.int (0 : Int32)), .val (.int (0 : Int32)), .val .null, .unset] [(.ref d0)]))
  obtain ⟨T1, X1, e1, st1⟩ := initO X0 hx hZ hown (hw _ (List.mem_of_getElem? (i := 15) rfl)) (hw _ (List.mem_of_getElem? (i := 16) rfl)) (hw _ (List.mem_of_getElem? (i := 17) rfl)) e0 (g := (mkF m 1 #[.val (.ref d0), .val (.ref d1), .val (.int (0 : Int32)), .val (.int (0 : Int32)), .val .null, .unset] [(.ref d0)])) rfl (by rw [hml]; rfl) rfl (hb hby d3_1) (by decide) (W := 0) (by show 2 * 0 + _ ≤ _; exact Nat.le_of_eq rfl) (by decide)
  refine Wp.step st1 ?_
  show Wp p e below _ (T1.setTop (mkF m 4 #[.val (.ref d0), .val (.ref d1), .val (.int (0 : Int32)), .val (.int (0 : Int32)), .val .null, .unset] []))
  refine Wp.step (fun t k => XS.iloadN X1.here hx rfl (hb hby d3_4) rfl k) ?_
  show Wp p e below _ (T1.setTop (mkF m 5 #[.val (.ref d0), .val (.ref d1), .val (.int (0 : Int32)), .val (.int (0 : Int32)), .val .null, .unset] [(.int (0 : Int32))]))
  refine Wp.step (fun t k => XS.ifNo X1.here hx rfl (hb hby d3_5) rfl ((if0 _ _).trans (teq (show (0 : Int32) = (0 : Int32) by decide)).2) k) ?_
  show Wp p e below _ (T1.setTop (mkF m 8 #[.val (.ref d0), .val (.ref d1), .val (.int (0 : Int32)), .val (.int (0 : Int32)), .val .null, .unset] []))
  refine Wp.step (fun t k => XS.aloadN X1.here hx rfl (hb hby d3_8) rfl rfl k) ?_
  show Wp p e below _ (T1.setTop (mkF m 9 #[.val (.ref d0), .val (.ref d1), .val (.int (0 : Int32)), .val (.int (0 : Int32)), .val .null, .unset] [(.ref d0)]))
  obtain ⟨b3, T3, h3, k3, v3, c3, X3, e3, E3, hS, hk3, hZ, hown, A3, Fc3, Fv3, Av3, hL, st3⟩ := own_ldcE (s := s) X1 hx hZ hown (hw _ (List.mem_of_getElem? (i := 18) rfl)) (own_wS hw) e1 hS hk (Fr.nil _) (by rw [hh]; exact hT) hCH hcw (g := (mkF m 9 #[.val (.ref d0), .val (.ref d1), .val (.int (0 : Int32)), .val (.int (0 : Int32)), .val .null, .unset] [(.ref d0)])) rfl (hb hby d3_9) (by decide) (by decide)
  have hk := Nat.le_trans hk E3.1
  have c4 := E_d0.ext E3
  have c5 := F_value_d0.ext E3
  have c6 := F_coder_d0.ext E3
  have hk := hk3
  have K7 := K0.ext E3
  have B3 : own_IA .byte Z h3 v3 (0 : Int32) (fun _ => (0 : Int32)) := own_IA.ofArv Av3 (fun i hi => absurd (show i < 0 from hi) (Nat.not_lt_zero _))
  have ne_b3 : b3 ≠ d0 := own_ne_fld Fv3 c5 nofun
  have ne_v3 : v3 ≠ d0 := own_ne_arr c4 (hw _ (List.mem_of_getElem? (i := 5) rfl)) B3
  refine Wp.step st3 ?_
  show Wp p e below _ (T3.setTop (mkF m 11 #[.val (.ref d0), .val (.ref d1), .val (.int (0 : Int32)), .val (.int (0 : Int32)), .val .null, .unset] [(.ref b3), (.ref d0)]))
  obtain ⟨T8, X8, e8, st8⟩ := getF X3 hx hZ hown (host := "") (Or.inl (hw _ (List.mem_of_getElem? (i := 24) rfl))) Via.refl e3 Fv3 (g := (mkF m 11 #[.val (.ref d0), .val (.ref d1), .val (.int (0 : Int32)), .val (.int (0 : Int32)), .val .null, .unset] [(.ref b3), (.ref d0)])) rfl rfl (hb hby d3_11)
  refine Wp.step st8 ?_
  show Wp p e below _ (T8.setTop (mkF m 14 #[.val (.ref d0), .val (.ref d1), .val (.int (0 : Int32)), .val (.int (0 : Int32)), .val .null, .unset] [(.ref v3), (.ref d0)]))
  obtain ⟨T9, h9, X9, e9, W9, st9⟩ := putF X8 hx hZ hown (host := "") (Or.inl (hw _ (List.mem_of_getElem? (i := 24) rfl))) Via.refl e8 c5 c4 (Or.inr ⟨(hw _ (List.mem_of_getElem? (i := 20) rfl)), rfl, hnm⟩) (hw _ (List.mem_of_getElem? (i := 5) rfl)) (ty := (.array .byte)) (by decide) rfl rfl (g := (mkF m 14 #[.val (.ref d0), .val (.ref d1), .val (.int (0 : Int32)), .val (.int (0 : Int32)), .val .null, .unset] [(.ref v3), (.ref d0)])) rfl rfl (hb hby d3_14)
  have hk := Nat.le_trans hk (Nat.le_of_eq (Wr.size W9).symm)
  have c10 := c4.wr W9
  have c11 := c6.other W9 (Or.inr (slot_ne (Or.inr (hw _ (List.mem_of_getElem? (i := 21) rfl))) (Or.inr (hw _ (List.mem_of_getElem? (i := 20) rfl))) (by decide) (t := .byte) (t' := (.array .byte)) (by decide) (by decide)))
  have c12 := A3.wr W9
  have c13 := Fv3.other W9 (Or.inl ne_b3)
  have c14 := Fc3.other W9 (Or.inl ne_b3)
  have B15 := B3.other W9 ne_v3
  have c16 := c5.same W9
  have K17 := K7.wr W9 (Or.inl (List.mem_of_getElem? (i := 0) rfl))
  have N9 := Fr.snoc X9 N0 g_d0
  refine Wp.step st9 ?_
  show Wp p e below _ (T9.setTop (mkF m 17 #[.val (.ref d0), .val (.ref d1), .val (.int (0 : Int32)), .val (.int (0 : Int32)), .val .null, .unset] []))
  refine Wp.step (fun t k => XS.aloadN X9.here hx rfl (hb hby d3_17) rfl rfl k) ?_
  show Wp p e below _ (T9.setTop (mkF m 18 #[.val (.ref d0), .val (.ref d1), .val (.int (0 : Int32)), .val (.int (0 : Int32)), .val .null, .unset] [(.ref d0)]))
  refine Wp.step (ldcAgain X9 hx hZ hown (hw _ (List.mem_of_getElem? (i := 18) rfl)) hL (g := (mkF m 18 #[.val (.ref d0), .val (.ref d1), .val (.int (0 : Int32)), .val (.int (0 : Int32)), .val .null, .unset] [(.ref d0)])) rfl (hb hby d3_18)) ?_
  show Wp p e below _ (T9.setTop (mkF m 20 #[.val (.ref d0), .val (.ref d1), .val (.int (0 : Int32)), .val (.int (0 : Int32)), .val .null, .unset] [(.ref b3), (.ref d0)]))
  obtain ⟨T18, X18, e18, st18⟩ := getF X9 hx hZ hown (host := "") (Or.inl (hw _ (List.mem_of_getElem? (i := 25) rfl))) Via.refl e9 c14 (g := (mkF m 20 #[.val (.ref d0), .val (.ref d1), .val (.int (0 : Int32)), .val (.int (0 : Int32)), .val .null, .unset] [(.ref b3), (.ref d0)])) rfl rfl (hb hby d3_20)
  refine Wp.step st18 ?_
  show Wp p e below _ (T18.setTop (mkF m 23 #[.val (.ref d0), .val (.ref d1), .val (.int (0 : Int32)), .val (.int (0 : Int32)), .val .null, .unset] [(.int (0 : Int32)), (.ref d0)]))
  obtain ⟨T19, h19, X19, e19, W19, st19⟩ := putFN X18 hx hZ hown (hw _ (List.mem_of_getElem? (i := 25) rfl)) Via.refl e18 c11 c10 (Or.inr ⟨(hw _ (List.mem_of_getElem? (i := 21) rfl)), rfl, hnm⟩) (hw _ (List.mem_of_getElem? (i := 5) rfl)) (ty := .byte) (v' := (.int (0 : Int32))) (by decide) rfl ((by decide)) (g := (mkF m 23 #[.val (.ref d0), .val (.ref d1), .val (.int (0 : Int32)), .val (.int (0 : Int32)), .val .null, .unset] [(.int (0 : Int32)), (.ref d0)])) rfl rfl (hb hby d3_23)
  have hk := Nat.le_trans hk (Nat.le_of_eq (Wr.size W19).symm)
  have c20 := c10.wr W19
  have c21 := c16.other W19 (Or.inr (slot_ne (Or.inr (hw _ (List.mem_of_getElem? (i := 20) rfl))) (Or.inr (hw _ (List.mem_of_getElem? (i := 21) rfl))) (by decide) (t := (.array .byte)) (t' := .byte) (by decide) (by decide)))
  have c22 := c12.wr W19
  have c23 := c13.other W19 (Or.inl ne_b3)
  have c24 := c14.other W19 (Or.inl ne_b3)
  have B25 := B15.other W19 ne_v3
  have c26 := c11.same W19
  have K27 := K17.wr W19 (Or.inl (List.mem_of_getElem? (i := 0) rfl))
  have N19 := Fr.snoc X19 N9 g_d0
  refine Wp.step st19 ?_
  show Wp p e below _ (T19.setTop (mkF m 26 #[.val (.ref d0), .val (.ref d1), .val (.int (0 : Int32)), .val (.int (0 : Int32)), .val .null, .unset] []))
  refine Wp.retVX X19 hS (own_hk e19 hk) (by rw [e19]; exact (by obtain ⟨kk, AA⟩ := own_IA.arv B25; exact Or.inr ⟨b3, v3, kk, hL, c22, c24, c23, AA⟩)) hx Bd.returns (hb hby d3_26) hlk ?_ (by decide) (by decide)
  show Q3_0 Z d0 d1 (0 : Int32) (0 : Int32) c0 c1 h0 n0 none T19.heap _
  rw [e19]
  exact ⟨rfl, N19, K27, ⟨v3, 0, 0, _, c20, c21, c26, B25, own_n3_0, own_enc0 _ _⟩⟩
def Q2_0 (Z : State) (d0 : Addr) (d1 : Addr) (c0 : Int32) (c1 : Int32) (gg : Nat → Int32) (h0 : Heap) (n0 : Nat) (v : Option Value) (h : Heap) (L : List Loc) : Prop := v = none ∧ Fr n0 L ∧ Keep h0 h [d0] ∧ own_S Z h d0 (0 : Int32) (own_ch c0 c1)
set_option maxRecDepth 65536 in
set_option maxHeartbeats 40000000 in
theorem rm2_0 (l : Launch) (Z : State) (a0 : Array Value) (hw : ∀ d ∈ tables_1, d.before a0 Z = true) (ws : List Jvm.Cond) (d0 : Addr) (d1 : Addr) (c0 : Int32) (c1 : Int32) (gg : Nat → Int32) (h0 : Heap) (n0 : Nat) (Z0 : n0 ≤ h0.size) (g_d0 : n0 ≤ d0) (E_d0 : Exa Z h0 d0 "java/lang/String") (F_value_d0 : Fld Z h0 d0 "java/lang/String" "value" "[B" .null) (F_coder_d0 : Fld Z h0 d0 "java/lang/String" "coder" "B" (.int (0 : Int32))) (B_d1 : own_IA .char Z h0 d1 (0 : Int32) gg) (hda : d1 ≠ d0) (hCH : Jvm.Lit.constHeld Z "java/lang/String" 7) (hcw : Jvm.Lit.compactW.before a0 Z = true) :
    MetFree l (⟨"java/lang/String", "<init>", "([C)V"⟩ : MethodName) (head1 (Jvm.Cond.code (⟨"java/lang/String", "<init>", "([C)V"⟩ : MethodName) jdk_42_method_3_code 2 none :: ws) ({ frames := 2, cells := 2, slots := 4, locals := 29 } : Room)) (fun a U => a = #[(.ref d0), (.ref d1)] ∧ (Z.Warmed39 U.vm ∧ own_T Z U.vm h0) ∧ U.heap = h0) (fun _ _ _ _ _ => True) (fun _ U o U' => ∃ v L, o = .returned v ∧ (Q2_0 Z d0 d1 c0 c1 gg h0 n0 v U'.heap L ∧ own_T Z U'.vm U'.heap) ∧ ReturnedEndW U o U' L ({ frames := 2, cells := 2, slots := 4, locals := 29 } : Room).cells ({ frames := 2, cells := 2, slots := 4, locals := 29 } : Room).slots) := by
  refine MetFree.of_bodySF (plainFor_of_name pn_java_lang_String) hisR ?_
  intro p e s m args below meth c s₁ Bd hml0 hP hK
  obtain ⟨rfl, ⟨hZ, hT⟩, hh⟩ := hP
  have hx := Bd.exec
  have hby := Bd.bytes
  have hlk : meth.locks = false := Bd.notSynchronized
  have hml : c.maxLocals = 2 := hml0
  have hown : s.vm.findClass "java/lang/String" = some m.cls := findClass_of_methodNamed Bd.named
  have hnm := (name_of_methodNamed Bd.named Bd.method).1
  have X0 : Stand p l e ({ frames := 2, cells := 2, slots := 4, locals := 29 } : Room) s m #[(.ref d0), (.ref d1)] below meth c s₁ [] 0 0 := Stand.of_body Bd
  have e0 : s₁.heap = h0 := by rw [← hh, Bd.state]; rfl
  have N0 := Fr.nil n0
  have K0 : Keep h0 h0 [d0] := Keep.refl h0 _
  show Wp p e below (OutX Z s (Q2_0 Z d0 d1 c0 c1 gg h0 n0) ({ frames := 2, cells := 2, slots := 4, locals := 29 } : Room).cells ({ frames := 2, cells := 2, slots := 4, locals := 29 } : Room).slots) (s₁.setTop (entryFrame m #[(.ref d0), (.ref d1)] 2))
  rw [ef_2_00]
  have X0 : Stand p l e ({ frames := 2, cells := 2, slots := 4, locals := 29 } : Room) (s.setVm s.vm) m #[(.ref d0), (.ref d1)] below meth c s₁ [] 0 0 := X0
  have hS : s.Since s.vm 0 := (State.WarmedH.refl s).since 0
  have hk : 0 ≤ h0.size := Nat.zero_le _
  have hZ : Z.Warmed39 (s.setVm s.vm).vm := hZ
  have hown : (s.setVm s.vm).vm.findClass "java/lang/String" = some m.cls := hown
  have hT : own_T Z (s.setVm s.vm).vm h0 := hT
  show Wp p e below _ (s₁.setTop (mkF m 0 #[.val (.ref d0), .val (.ref d1)] []))
  refine Wp.step (fun t k => XS.aloadN X0.here hx rfl (hb hby d2_0) rfl rfl k) ?_
  show Wp p e below _ (s₁.setTop (mkF m 1 #[.val (.ref d0), .val (.ref d1)] [(.ref d0)]))
  refine Wp.step (fun t k => XS.aloadN X0.here hx rfl (hb hby d2_1) rfl rfl k) ?_
  show Wp p e below _ (s₁.setTop (mkF m 2 #[.val (.ref d0), .val (.ref d1)] [(.ref d1), (.ref d0)]))
  refine Wp.step (fun t k => XS.iconst X0.here hx rfl (hb hby d2_2) k) ?_
  show Wp p e below _ (s₁.setTop (mkF m 3 #[.val (.ref d0), .val (.ref d1)] [(.int (0 : Int32)), (.ref d1), (.ref d0)]))
  refine Wp.step (fun t k => XS.aloadN X0.here hx rfl (hb hby d2_3) rfl rfl k) ?_
  show Wp p e below _ (s₁.setTop (mkF m 4 #[.val (.ref d0), .val (.ref d1)] [(.ref d1), (.int (0 : Int32)), (.ref d1), (.ref d0)]))
  obtain ⟨cl1, Ar1, Sz1, Nn1, -⟩ := id B_d1
  refine Wp.step (X0.arraylength hx (by rw [e0]; exact Ar1.1) (State.isArrayOf_alike hZ.alike Ar1.2.1) (g := (mkF m 4 #[.val (.ref d0), .val (.ref d1)] [(.ref d1), (.int (0 : Int32)), (.ref d1), (.ref d0)])) rfl rfl (hb hby d2_4)) ?_
  rw [len_of Sz1 Nn1]
  show Wp p e below _ (s₁.setTop (mkF m 5 #[.val (.ref d0), .val (.ref d1)] [(.int (0 : Int32)), (.int (0 : Int32)), (.ref d1), (.ref d0)]))
  refine Wp.step (fun t k => XS.aconstNull X0.here hx rfl (hb hby d2_5) k) ?_
  show Wp p e below _ (s₁.setTop (mkF m 6 #[.val (.ref d0), .val (.ref d1)] [.null, (.int (0 : Int32)), (.int (0 : Int32)), (.ref d1), (.ref d0)]))
  obtain ⟨_, _, ⟨T2, L2, k2, n2⟩, -, X2, hS2, hg2, ⟨Lc2, hQ2, l2, y2, z2⟩, st2⟩ := X0.specialBackS hx (y := (⟨"java/lang/String", "<init>", "([CIILjava/lang/Void;)V"⟩ : MethodName)) rfl hown (mvT hZ (hw _ (List.mem_of_getElem? (i := 11) rfl))) (mvT hZ (hw _ (List.mem_of_getElem? (i := 12) rfl))) (mvT hZ (hw _ (List.mem_of_getElem? (i := 14) rfl))) (by decide) (own_backOfX (W := 0) (rm3_0 l Z a0 hw [] d0 d1 (0 : Int32) (0 : Int32) c0 c1 h0 n0 (Nat.le_trans Z0 K0.1) g_d0 E_d0 F_value_d0 F_coder_d0 rfl rfl hCH hcw) hZ hT (hw _ (List.mem_of_getElem? (i := 14) rfl)) (hw _ (List.mem_of_getElem? (i := 6) rfl)) (by decide) (by decide)) (g := (mkF m 6 #[.val (.ref d0), .val (.ref d1)] [.null, (.int (0 : Int32)), (.int (0 : Int32)), (.ref d1), (.ref d0)])) rfl (by rw [hml]; rfl) (Steps.refl _) (a := d0) (argsL := [(.ref d1), (.int (0 : Int32)), (.int (0 : Int32)), .null]) (rest := []) (lenOf pd_285bCIILjava2flang2fVoid3b29V rfl) rfl (by show 2 * 0 + _ ≤ _; exact Nat.le_of_eq rfl) (hb hby d2_6) (fun _ _ => ⟨rfl, e0, (by decide : 0 + 2 ≤ _), (by decide : 0 + 4 ≤ _)⟩)
  dsimp only [Pt.U, Pt.locs, Pt.cells, Pt.slots] at X2 l2 y2 z2 st2 hQ2 hS2 hg2
  subst l2 y2 z2
  obtain ⟨hQ2, hT⟩ := hQ2
  obtain ⟨X2, hS, hZ, hown⟩ := rebS hS (n1 := s₁.heap.size) (own_hk e0 hk) X2 hS2 hg2 hZ hown
  obtain ⟨h2, e2⟩ : ∃ z, T2.heap = z := ⟨_, rfl⟩
  rw [e2] at hQ2
  obtain ⟨rfl, N2q, Kc2, hS_2⟩ := hQ2
  have N2 := Fr.app N0 N2q
  have hk := Nat.le_trans hk Kc2.1
  have c3 := E_d0.keep Kc2
  have B4 := B_d1.keep Kc2 (ninS hda nin0)
  have K2 := K0.trans Kc2 (allS (Or.inl (List.mem_of_getElem? (i := 0) rfl)) all0)
  rw [e2] at hT
  have hT : own_T Z (s.setVm T2.vm).vm h2 := hT
  have hk : T2.heap.size ≤ h2.size := by rw [e2]; exact Nat.le_refl _
  refine Wp.go st2 ?_
  show Wp p e below _ (T2.setTop (mkF m 9 #[.val (.ref d0), .val (.ref d1)] []))
  refine Wp.retVX X2 hS (own_hk e2 hk) (by rw [e2]; exact hT) hx Bd.returns (hb hby d2_9) hlk ?_ (by decide) (by decide)
  show Q2_0 Z d0 d1 c0 c1 gg h0 n0 none T2.heap _
  rw [e2]
  exact ⟨rfl, N2, K2, hS_2⟩
theorem pd_285bC29V : parseMethodDescriptor "([C)V" = some ⟨[(.array .char)], none⟩ := by decide +kernel
theorem d1_0 : decode method_3_code 0 = .ok (.iload_n 0, 1) := by decide +kernel
theorem d1_1 : decode method_3_code 1 = .ok (.ifCond .ne 14, 3) := by decide +kernel
theorem d1_4 : decode method_3_code 4 = .ok (.new 27, 3) := by decide +kernel
theorem d1_7 : decode method_3_code 7 = .ok (.dup, 1) := by decide +kernel
theorem d1_8 : decode method_3_code 8 = .ok (.iconst 0, 1) := by decide +kernel
theorem d1_9 : decode method_3_code 9 = .ok (.newarray .char, 2) := by decide +kernel
theorem d1_11 : decode method_3_code 11 = .ok (.invokespecial 29, 3) := by decide +kernel
theorem d1_14 : decode method_3_code 14 = .ok (.areturn, 1) := by decide +kernel
theorem d1_15 : decode method_3_code 15 = .ok (.iload_n 0, 1) := by decide +kernel
theorem d1_16 : decode method_3_code 16 = .ok (.iconst 1, 1) := by decide +kernel
theorem d1_17 : decode method_3_code 17 = .ok (.if_icmp .ne 18, 3) := by decide +kernel
theorem d1_20 : decode method_3_code 20 = .ok (.new 27, 3) := by decide +kernel
theorem d1_23 : decode method_3_code 23 = .ok (.dup, 1) := by decide +kernel
theorem d1_24 : decode method_3_code 24 = .ok (.iconst 1, 1) := by decide +kernel
theorem d1_25 : decode method_3_code 25 = .ok (.newarray .char, 2) := by decide +kernel
theorem d1_27 : decode method_3_code 27 = .ok (.dup, 1) := by decide +kernel
theorem d1_28 : decode method_3_code 28 = .ok (.iconst 0, 1) := by decide +kernel
theorem d1_29 : decode method_3_code 29 = .ok (.iload_n 1, 1) := by decide +kernel
theorem d1_30 : decode method_3_code 30 = .ok (.castore, 1) := by decide +kernel
theorem d1_31 : decode method_3_code 31 = .ok (.invokespecial 29, 3) := by decide +kernel
theorem d1_34 : decode method_3_code 34 = .ok (.areturn, 1) := by decide +kernel
theorem d1_35 : decode method_3_code 35 = .ok (.new 27, 3) := by decide +kernel
theorem d1_38 : decode method_3_code 38 = .ok (.dup, 1) := by decide +kernel
theorem d1_39 : decode method_3_code 39 = .ok (.iconst 2, 1) := by decide +kernel
theorem d1_40 : decode method_3_code 40 = .ok (.newarray .char, 2) := by decide +kernel
theorem d1_42 : decode method_3_code 42 = .ok (.dup, 1) := by decide +kernel
theorem d1_43 : decode method_3_code 43 = .ok (.iconst 0, 1) := by decide +kernel
theorem d1_44 : decode method_3_code 44 = .ok (.iload_n 1, 1) := by decide +kernel
theorem d1_45 : decode method_3_code 45 = .ok (.castore, 1) := by decide +kernel
theorem d1_46 : decode method_3_code 46 = .ok (.dup, 1) := by decide +kernel
theorem d1_47 : decode method_3_code 47 = .ok (.iconst 1, 1) := by decide +kernel
theorem d1_48 : decode method_3_code 48 = .ok (.iload_n 2, 1) := by decide +kernel
theorem d1_49 : decode method_3_code 49 = .ok (.castore, 1) := by decide +kernel
theorem d1_50 : decode method_3_code 50 = .ok (.invokespecial 29, 3) := by decide +kernel
theorem d1_53 : decode method_3_code 53 = .ok (.areturn, 1) := by decide +kernel
theorem ef_1_000 (m : MethodId) (x0 : Int32) (x1 : Int32) (x2 : Int32) : entryFrame m #[(.int x0), (.int x1), (.int x2)] 3 = mkF m 0 #[.val (.int x0), .val (.int x1), .val (.int x2)] [] := by first | (simp [entryFrame, mkF, argsToLocals, Value.category]; done) | rfl
def Q1 (Z : State) (u0 : Int32) (u1 : Int32) (u2 : Int32) (cs : Int32) (h0 : Heap) (n0 : Nat) (v : Option Value) (h : Heap) (L : List Loc) : Prop := ∃ (r0 : Addr), v = some (.ref r0) ∧ Fr n0 L ∧ Keep h0 h [] ∧ h0.size ≤ r0 ∧ own_S Z h r0 u0 (own_ch u1 u2)
set_option maxRecDepth 65536 in
set_option maxHeartbeats 40000000 in
theorem rm1 (l : Launch) (Z : State) (a0 : Array Value) (hw : ∀ d ∈ tables_1, d.before a0 Z = true) (ws : List Jvm.Cond) (u0 : Int32) (u1 : Int32) (u2 : Int32) (cs : Int32) (h0 : Heap) (n0 : Nat) (Z0 : n0 ≤ h0.size) (S_COMPACT_STRINGS_cs : Sta Z h0 "java/lang/String" "COMPACT_STRINGS" "Z" (.int cs)) (S_assertionsDisabled_1Int32 : Sta Z h0 "java/lang/StringUTF16" "$assertionsDisabled" "Z" (.int (1 : Int32))) (S_HI_BYTE_SHIFT_0Int32 : Sta Z h0 "java/lang/StringUTF16" "HI_BYTE_SHIFT" "I" (.int (0 : Int32))) (S_LO_BYTE_SHIFT_8Int32 : Sta Z h0 "java/lang/StringUTF16" "LO_BYTE_SHIFT" "I" (.int (8 : Int32))) (hn : own_n3 u0) (hq0 : own_isC u1) (hq1 : own_isC u2) (hcs : ¬ cs = 0) (hCH : Jvm.Lit.constHeld Z "java/lang/String" 7) (hcw : Jvm.Lit.compactW.before a0 Z = true) :
    MetFree l (⟨"com/example/rank_merge/rankmerge/model/IdOrderComparePinLaw", "make", "(ICC)Ljava/lang/String;"⟩ : MethodName) (head1 (Jvm.Cond.code (⟨"com/example/rank_merge/rankmerge/model/IdOrderComparePinLaw", "make", "(ICC)Ljava/lang/String;"⟩ : MethodName) method_3_code 3 (some (.object "java/lang/String")) :: ws) ({ frames := 6, cells := 4, slots := 12, locals := 88 } : Room)) (fun a U => a = #[(.int u0), (.int u1), (.int u2)] ∧ (Z.Warmed39 U.vm ∧ own_T Z U.vm h0) ∧ U.heap = h0) (fun _ _ _ _ _ => True) (fun _ U o U' => ∃ v L, o = .returned v ∧ (Q1 Z u0 u1 u2 cs h0 n0 v U'.heap L ∧ own_T Z U'.vm U'.heap) ∧ ReturnedEndW U o U' L ({ frames := 6, cells := 4, slots := 12, locals := 88 } : Room).cells ({ frames := 6, cells := 4, slots := 12, locals := 88 } : Room).slots) := by
  refine MetFree.of_bodySF (plainFor_of_name pn_com_example_rank_merge_rankmerge_model_IdOrderComparePinLaw) hisR ?_
  intro p e s m args below meth c s₁ Bd hml0 hP hK
  obtain ⟨rfl, ⟨hZ, hT⟩, hh⟩ := hP
  have hx := Bd.exec
  have hby := Bd.bytes
  have hlk : meth.locks = false := Bd.notSynchronized
  have hml : c.maxLocals = 3 := hml0
  have hown : s.vm.findClass "com/example/rank_merge/rankmerge/model/IdOrderComparePinLaw" = some m.cls := findClass_of_methodNamed Bd.named
  have hnm := (name_of_methodNamed Bd.named Bd.method).1
  have X0 : Stand p l e ({ frames := 6, cells := 4, slots := 12, locals := 88 } : Room) s m #[(.int u0), (.int u1), (.int u2)] below meth c s₁ [] 0 0 := Stand.of_body Bd
  have e0 : s₁.heap = h0 := by rw [← hh, Bd.state]; rfl
  have N0 := Fr.nil n0
  have K0 : Keep h0 h0 [] := Keep.refl h0 _
  show Wp p e below (OutX Z s (Q1 Z u0 u1 u2 cs h0 n0) ({ frames := 6, cells := 4, slots := 12, locals := 88 } : Room).cells ({ frames := 6, cells := 4, slots := 12, locals := 88 } : Room).slots) (s₁.setTop (entryFrame m #[(.int u0), (.int u1), (.int u2)] 3))
  rw [ef_1_000]
  have X0 : Stand p l e ({ frames := 6, cells := 4, slots := 12, locals := 88 } : Room) (s.setVm s.vm) m #[(.int u0), (.int u1), (.int u2)] below meth c s₁ [] 0 0 := X0
  have hS : s.Since s.vm 0 := (State.WarmedH.refl s).since 0
  have hk : 0 ≤ h0.size := Nat.zero_le _
  have hZ : Z.Warmed39 (s.setVm s.vm).vm := hZ
  have hown : (s.setVm s.vm).vm.findClass "com/example/rank_merge/rankmerge/model/IdOrderComparePinLaw" = some m.cls := hown
  have hT : own_T Z (s.setVm s.vm).vm h0 := hT
  show Wp p e below _ (s₁.setTop (mkF m 0 #[.val (.int u0), .val (.int u1), .val (.int u2)] []))
  refine Wp.step (fun t k => XS.iloadN X0.here hx rfl (hb hby d1_0) rfl k) ?_
  show Wp p e below _ (s₁.setTop (mkF m 1 #[.val (.int u0), .val (.int u1), .val (.int u2)] [(.int u0)]))
  by_cases hc1 : u0 = (0 : Int32)
  · refine Wp.step (fun t k => XS.ifNo X0.here hx rfl (hb hby d1_1) rfl ((if0 _ _).trans (teq hc1).2) k) ?_
    show Wp p e below _ (s₁.setTop (mkF m 4 #[.val (.int u0), .val (.int u1), .val (.int u2)] []))
    obtain ⟨T2, h2, X2, e2, E2, A2, D2, -, st2⟩ := newO X0 hx hZ hown (hw _ (List.mem_of_getElem? (i := 4) rfl)) (hw _ (List.mem_of_getElem? (i := 5) rfl)) (hw _ (List.mem_of_getElem? (i := 6) rfl)) e0 (g := (mkF m 4 #[.val (.int u0), .val (.int u1), .val (.int u2)] [])) rfl (hb hby d1_4) (by decide) (by decide)
    obtain ⟨b2, g2⟩ : ∃ z, z = h0.size := ⟨_, rfl⟩
    rw [← g2] at A2 D2 st2
    have g_b2 : n0 ≤ b2 := Nat.le_trans (Nat.le_trans Z0 K0.1) (Nat.le_of_eq g2.symm)
    have sz_b2 : h0.size ≤ b2 := Nat.le_trans K0.1 (Nat.le_of_eq g2.symm)
    have hk := Nat.le_trans hk E2.1
    have c3 := S_COMPACT_STRINGS_cs.ext E2
    have c4 := S_assertionsDisabled_1Int32.ext E2
    have c5 := S_HI_BYTE_SHIFT_0Int32.ext E2
    have c6 := S_LO_BYTE_SHIFT_8Int32.ext E2
    have K7 := K0.ext E2
    have c8 : Fld Z h2 b2 "java/lang/String" "value" "[B" .null := D2 (Or.inr (hw _ (List.mem_of_getElem? (i := 20) rfl))) (ty := (.array .byte)) (by decide)
    have c9 : Fld Z h2 b2 "java/lang/String" "coder" "B" (.int (0 : Int32)) := D2 (Or.inr (hw _ (List.mem_of_getElem? (i := 21) rfl))) (ty := .byte) (by decide)
    refine Wp.step st2 ?_
    show Wp p e below _ (T2.setTop (mkF m 7 #[.val (.int u0), .val (.int u1), .val (.int u2)] [(.ref b2)]))
    refine Wp.step (fun t k => XS.dup X2.here hx rfl (hb hby d1_7) rfl rfl k) ?_
    show Wp p e below _ (T2.setTop (mkF m 8 #[.val (.int u0), .val (.int u1), .val (.int u2)] [(.ref b2), (.ref b2)]))
    refine Wp.step (fun t k => XS.iconst X2.here hx rfl (hb hby d1_8) k) ?_
    show Wp p e below _ (T2.setTop (mkF m 9 #[.val (.int u0), .val (.int u1), .val (.int u2)] [(.int (0 : Int32)), (.ref b2), (.ref b2)]))
    obtain ⟨T10, h10, k10, X10, e10, E10, A10, st10⟩ := newP X2 hx hZ (hw _ (List.mem_of_getElem? (i := 7) rfl)) e2 (g := (mkF m 9 #[.val (.int u0), .val (.int u1), .val (.int u2)] [(.int (0 : Int32)), (.ref b2), (.ref b2)])) rfl (hb hby d1_9) rfl (by decide) (cap := 0) (by decide) (by decide) (by decide) (by decide)
    obtain ⟨b10, g10⟩ : ∃ z, z = h2.size := ⟨_, rfl⟩
    rw [← g10] at A10 st10
    have g_b10 : n0 ≤ b10 := Nat.le_trans (Nat.le_trans Z0 K7.1) (Nat.le_of_eq g10.symm)
    have sz_b10 : h0.size ≤ b10 := Nat.le_trans K7.1 (Nat.le_of_eq g10.symm)
    have ne_b2_b10 : b2 ≠ b10 := Nat.ne_of_lt (Nat.lt_of_lt_of_le A2.lt (Nat.le_of_eq g10.symm))
    have hk := Nat.le_trans hk E10.1
    have c11 := c3.ext E10
    have c12 := c4.ext E10
    have c13 := c5.ext E10
    have c14 := c6.ext E10
    have c15 := A2.ext E10
    have c16 := c8.ext E10
    have c17 := c9.ext E10
    have K18 := K7.ext E10
    have Z10 : (newA k10 .char (0 : Int32)).slots.size = ((0 : Int32)).toNatClampNeg := sz_new _ _ _
    have nn10 : ¬ (0 : Int32) < 0 := (by decide)
    refine Wp.step st10 ?_
    have B10 := own_IA.new A10 nn10 rfl
    show Wp p e below _ (T10.setTop (mkF m 11 #[.val (.int u0), .val (.int u1), .val (.int u2)] [(.ref b10), (.ref b2), (.ref b2)]))
    obtain ⟨_, _, ⟨T19, L19, k19, n19⟩, -, X19, hS19, hg19, ⟨Lc19, hQ19, l19, y19, z19⟩, st19⟩ := X10.specialBackS hx (y := (⟨"java/lang/String", "<init>", "([C)V"⟩ : MethodName)) rfl hown (mvT hZ (hw _ (List.mem_of_getElem? (i := 8) rfl))) (mvT hZ (hw _ (List.mem_of_getElem? (i := 9) rfl))) (mvT hZ (hw _ (List.mem_of_getElem? (i := 10) rfl))) (by decide) (own_backOfX (W := 1) (rm2_0 l Z a0 hw [] b2 b10 u1 u2 (fun _ => (0 : Int32)) h10 n0 (Nat.le_trans Z0 K18.1) g_b2 c15 c16 c17 B10 (Ne.symm ne_b2_b10) hCH hcw) hZ (own_T.keep hT K18) (hw _ (List.mem_of_getElem? (i := 10) rfl)) (hw _ (List.mem_of_getElem? (i := 6) rfl)) (by decide) (by decide)) (g := (mkF m 11 #[.val (.int u0), .val (.int u1), .val (.int u2)] [(.ref b10), (.ref b2), (.ref b2)])) rfl (by rw [hml]; rfl) (Steps.refl _) (a := b2) (argsL := [(.ref b10)]) (rest := [(.ref b2)]) (lenOf pd_285bC29V rfl) rfl (by show 2 * 0 + _ ≤ _; exact Nat.le_of_eq rfl) (hb hby d1_11) (fun _ _ => ⟨rfl, e10, (by decide : 2 + 2 ≤ _), (by decide : 4 + 4 ≤ _)⟩)
    dsimp only [Pt.U, Pt.locs, Pt.cells, Pt.slots] at X19 l19 y19 z19 st19 hQ19 hS19 hg19
    subst l19 y19 z19
    obtain ⟨hQ19, hT⟩ := hQ19
    obtain ⟨X19, hS, hZ, hown⟩ := rebS hS (n1 := T10.heap.size) (own_hk e10 hk) X19 hS19 hg19 hZ hown
    obtain ⟨h19, e19⟩ : ∃ z, T19.heap = z := ⟨_, rfl⟩
    rw [e19] at hQ19
    obtain ⟨rfl, N19q, Kc19, hS_19⟩ := hQ19
    have N19 := Fr.app N0 N19q
    have hk := Nat.le_trans hk Kc19.1
    have c20 := own_sta_keep c11 Kc19 (allS (own_ns c15) all0)
    have c21 := own_sta_keep c12 Kc19 (allS (own_ns c15) all0)
    have c22 := own_sta_keep c13 Kc19 (allS (own_ns c15) all0)
    have c23 := own_sta_keep c14 Kc19 (allS (own_ns c15) all0)
    have c24 := c15.keep Kc19
    have B25 := B10.keep Kc19 (ninS (Ne.symm ne_b2_b10) nin0)
    have K19 := K18.trans Kc19 (allS (Or.inr sz_b2) all0)
    rw [e19] at hT
    have hT : own_T Z (s.setVm T19.vm).vm h19 := hT
    have hk : T19.heap.size ≤ h19.size := by rw [e19]; exact Nat.le_refl _
    refine Wp.go st19 ?_
    show Wp p e below _ (T19.setTop (mkF m 14 #[.val (.int u0), .val (.int u1), .val (.int u2)] [(.ref b2)]))
    refine Wp.retAX X19 hS (own_hk e19 hk) (by rw [e19]; exact hT) hx Bd.returns rfl (hb hby d1_14) hlk ?_ (by decide) (by decide)
    show Q1 Z u0 u1 u2 cs h0 n0 (some (.ref b2)) T19.heap _
    rw [e19]
    exact ⟨b2, rfl, N19, K19, sz_b2, (by rw [hc1]; exact hS_19)⟩
  · refine Wp.step (fun t k => XS.ifYes X0.here hx rfl (pc0 := 1) (pc' := 15) rfl (hb hby d1_1) rfl ((if0 _ _).trans (feq hc1).2) (by decide) (by decide) k) ?_
    show Wp p e below _ (s₁.setTop (mkF m 15 #[.val (.int u0), .val (.int u1), .val (.int u2)] []))
    refine Wp.step (fun t k => XS.iloadN X0.here hx rfl (hb hby d1_15) rfl k) ?_
    show Wp p e below _ (s₁.setTop (mkF m 16 #[.val (.int u0), .val (.int u1), .val (.int u2)] [(.int u0)]))
    refine Wp.step (fun t k => XS.iconst X0.here hx rfl (hb hby d1_16) k) ?_
    show Wp p e below _ (s₁.setTop (mkF m 17 #[.val (.int u0), .val (.int u1), .val (.int u2)] [(.int (1 : Int32)), (.int u0)]))
    by_cases hc26 : u0 = (1 : Int32)
    · refine Wp.step (fun t k => XS.icmpNo X0.here hx rfl (hb hby d1_17) rfl (teq hc26).2 k) ?_
      show Wp p e below _ (s₁.setTop (mkF m 20 #[.val (.int u0), .val (.int u1), .val (.int u2)] []))
      obtain ⟨T27, h27, X27, e27, E27, A27, D27, -, st27⟩ := newO X0 hx hZ hown (hw _ (List.mem_of_getElem? (i := 4) rfl)) (hw _ (List.mem_of_getElem? (i := 5) rfl)) (hw _ (List.mem_of_getElem? (i := 6) rfl)) e0 (g := (mkF m 20 #[.val (.int u0), .val (.int u1), .val (.int u2)] [])) rfl (hb hby d1_20) (by decide) (by decide)
      obtain ⟨b27, g27⟩ : ∃ z, z = h0.size := ⟨_, rfl⟩
      rw [← g27] at A27 D27 st27
      have g_b27 : n0 ≤ b27 := Nat.le_trans (Nat.le_trans Z0 K0.1) (Nat.le_of_eq g27.symm)
      have sz_b27 : h0.size ≤ b27 := Nat.le_trans K0.1 (Nat.le_of_eq g27.symm)
      have hk := Nat.le_trans hk E27.1
      have c28 := S_COMPACT_STRINGS_cs.ext E27
      have c29 := S_assertionsDisabled_1Int32.ext E27
      have c30 := S_HI_BYTE_SHIFT_0Int32.ext E27
      have c31 := S_LO_BYTE_SHIFT_8Int32.ext E27
      have K32 := K0.ext E27
      have c33 : Fld Z h27 b27 "java/lang/String" "value" "[B" .null := D27 (Or.inr (hw _ (List.mem_of_getElem? (i := 20) rfl))) (ty := (.array .byte)) (by decide)
      have c34 : Fld Z h27 b27 "java/lang/String" "coder" "B" (.int (0 : Int32)) := D27 (Or.inr (hw _ (List.mem_of_getElem? (i := 21) rfl))) (ty := .byte) (by decide)
      refine Wp.step st27 ?_
      show Wp p e below _ (T27.setTop (mkF m 23 #[.val (.int u0), .val (.int u1), .val (.int u2)] [(.ref b27)]))
      refine Wp.step (fun t k => XS.dup X27.here hx rfl (hb hby d1_23) rfl rfl k) ?_
      show Wp p e below _ (T27.setTop (mkF m 24 #[.val (.int u0), .val (.int u1), .val (.int u2)] [(.ref b27), (.ref b27)]))
      refine Wp.step (fun t k => XS.iconst X27.here hx rfl (hb hby d1_24) k) ?_
      show Wp p e below _ (T27.setTop (mkF m 25 #[.val (.int u0), .val (.int u1), .val (.int u2)] [(.int (1 : Int32)), (.ref b27), (.ref b27)]))
      obtain ⟨T35, h35, k35, X35, e35, E35, A35, st35⟩ := newP X27 hx hZ (hw _ (List.mem_of_getElem? (i := 7) rfl)) e27 (g := (mkF m 25 #[.val (.int u0), .val (.int u1), .val (.int u2)] [(.int (1 : Int32)), (.ref b27), (.ref b27)])) rfl (hb hby d1_25) rfl (by decide) (cap := 1) (by decide) (by decide) (by decide) (by decide)
      obtain ⟨b35, g35⟩ : ∃ z, z = h27.size := ⟨_, rfl⟩
      rw [← g35] at A35 st35
      have g_b35 : n0 ≤ b35 := Nat.le_trans (Nat.le_trans Z0 K32.1) (Nat.le_of_eq g35.symm)
      have sz_b35 : h0.size ≤ b35 := Nat.le_trans K32.1 (Nat.le_of_eq g35.symm)
      have ne_b27_b35 : b27 ≠ b35 := Nat.ne_of_lt (Nat.lt_of_lt_of_le A27.lt (Nat.le_of_eq g35.symm))
      have hk := Nat.le_trans hk E35.1
      have c36 := c28.ext E35
      have c37 := c29.ext E35
      have c38 := c30.ext E35
      have c39 := c31.ext E35
      have c40 := A27.ext E35
      have c41 := c33.ext E35
      have c42 := c34.ext E35
      have K43 := K32.ext E35
      have Z35 : (newA k35 .char (1 : Int32)).slots.size = ((1 : Int32)).toNatClampNeg := sz_new _ _ _
      have nn35 : ¬ (1 : Int32) < 0 := (by decide)
      refine Wp.step st35 ?_
      have B35 := own_IA.new A35 nn35 rfl
      show Wp p e below _ (T35.setTop (mkF m 27 #[.val (.int u0), .val (.int u1), .val (.int u2)] [(.ref b35), (.ref b27), (.ref b27)]))
      refine Wp.step (fun t k => XS.dup X35.here hx rfl (hb hby d1_27) rfl rfl k) ?_
      show Wp p e below _ (T35.setTop (mkF m 28 #[.val (.int u0), .val (.int u1), .val (.int u2)] [(.ref b35), (.ref b35), (.ref b27), (.ref b27)]))
      refine Wp.step (fun t k => XS.iconst X35.here hx rfl (hb hby d1_28) k) ?_
      show Wp p e below _ (T35.setTop (mkF m 29 #[.val (.int u0), .val (.int u1), .val (.int u2)] [(.int (0 : Int32)), (.ref b35), (.ref b35), (.ref b27), (.ref b27)]))
      refine Wp.step (fun t k => XS.iloadN X35.here hx rfl (hb hby d1_29) rfl k) ?_
      show Wp p e below _ (T35.setTop (mkF m 30 #[.val (.int u0), .val (.int u1), .val (.int u2)] [(.int u1), (.int (0 : Int32)), (.ref b35), (.ref b35), (.ref b27), (.ref b27)]))
      obtain ⟨cl44, Ar44, Sz44, Nn44, El44⟩ := id B35
      have hin44 : ¬ ((0 : Int32) < 0 ∨ cl44.slots.size ≤ ((0 : Int32)).toNatClampNeg) := inb_of Sz44 ⟨by decide, by decide⟩
      obtain ⟨T44, h44, X44, e44, W44, st44⟩ := stC X35 hx hZ e35 Ar44 (j := (0 : Int32)) hin44 (g := (mkF m 30 #[.val (.int u0), .val (.int u1), .val (.int u2)] [(.int u1), (.int (0 : Int32)), (.ref b35), (.ref b35), (.ref b27), (.ref b27)])) rfl rfl (hb hby d1_30)
      have hk := Nat.le_trans hk (Nat.le_of_eq (Wr.size W44).symm)
      have c45 := c36.wr W44
      have c46 := c37.wr W44
      have c47 := c38.wr W44
      have c48 := c39.wr W44
      have c49 := c40.wr W44
      have c50 := c41.other W44 (Or.inl ne_b27_b35)
      have c51 := c42.other W44 (Or.inl ne_b27_b35)
      have K52 := K43.wr W44 (Or.inr sz_b35)
      have N44 := Fr.snoc X44 N0 g_b35
      have B44 := own_IA.set Ar44 Sz44 Nn44 El44 W44 (fits_nar_char _)
      have B44c := own_IA.cong (g' := (own_ch u1 u2)) B44 (own_ch1 hq0)
      refine Wp.step st44 ?_
      show Wp p e below _ (T44.setTop (mkF m 31 #[.val (.int u0), .val (.int u1), .val (.int u2)] [(.ref b35), (.ref b27), (.ref b27)]))
      obtain ⟨_, _, ⟨T53, L53, k53, n53⟩, -, X53, ⟨Lc53, hQ53, l53, y53, z53⟩, st53⟩ := X44.specialBack hx (y := (⟨"java/lang/String", "<init>", "([C)V"⟩ : MethodName)) rfl hown (mvT hZ (hw _ (List.mem_of_getElem? (i := 8) rfl))) (mvT hZ (hw _ (List.mem_of_getElem? (i := 9) rfl))) (mvT hZ (hw _ (List.mem_of_getElem? (i := 10) rfl))) (by decide) (backOf (W := 1) (rm2_1 l Z a0 hw [] b27 b35 u1 u2 cs h44 n0 (Nat.le_trans Z0 K52.1) g_b27 c49 c50 c51 B44c c45 c46 c47 c48 (Ne.symm ne_b27_b35) hq0 hq1 hcs) hZ (hw _ (List.mem_of_getElem? (i := 10) rfl)) (hw _ (List.mem_of_getElem? (i := 6) rfl)) (by decide) (by decide)) (g := (mkF m 31 #[.val (.int u0), .val (.int u1), .val (.int u2)] [(.ref b35), (.ref b27), (.ref b27)])) rfl (by rw [hml]; rfl) (Steps.refl _) (a := b27) (argsL := [(.ref b35)]) (rest := [(.ref b27)]) (lenOf pd_285bC29V rfl) rfl (by show 2 * 0 + _ ≤ _; exact Nat.le_of_eq rfl) (hb hby d1_31) (fun _ _ => ⟨rfl, e44, (by decide : 2 + 2 ≤ _), (by decide : 5 + 5 ≤ _)⟩)
      dsimp only [Pt.U, Pt.locs, Pt.cells, Pt.slots] at X53 l53 y53 z53 st53 hQ53
      subst l53 y53 z53
      obtain ⟨h53, e53⟩ : ∃ z, T53.heap = z := ⟨_, rfl⟩
      rw [e53] at hQ53
      obtain ⟨rfl, N53q, Kc53, hS_53⟩ := hQ53
      have N53 := Fr.app N44 N53q
      have hk := Nat.le_trans hk Kc53.1
      have c54 := own_sta_keep c45 Kc53 (allS (own_ns c49) all0)
      have c55 := own_sta_keep c46 Kc53 (allS (own_ns c49) all0)
      have c56 := own_sta_keep c47 Kc53 (allS (own_ns c49) all0)
      have c57 := own_sta_keep c48 Kc53 (allS (own_ns c49) all0)
      have c58 := c49.keep Kc53
      have B59 := B44c.keep Kc53 (ninS (Ne.symm ne_b27_b35) nin0)
      have K53 := K52.trans Kc53 (allS (Or.inr sz_b27) all0)
      refine Wp.go st53 ?_
      show Wp p e below _ (T53.setTop (mkF m 34 #[.val (.int u0), .val (.int u1), .val (.int u2)] [(.ref b27)]))
      refine Wp.retAX X53 hS (own_hk e53 hk) (by rw [e53]; exact (own_T.keep hT K53)) hx Bd.returns rfl (hb hby d1_34) hlk ?_ (by decide) (by decide)
      show Q1 Z u0 u1 u2 cs h0 n0 (some (.ref b27)) T53.heap _
      rw [e53]
      exact ⟨b27, rfl, N53, K53, sz_b27, (by rw [hc26]; exact hS_53)⟩
    · refine Wp.step (fun t k => XS.icmpYes X0.here hx rfl (pc0 := 17) (pc' := 35) rfl (hb hby d1_17) rfl (feq hc26).2 (by decide) (by decide) k) ?_
      show Wp p e below _ (s₁.setTop (mkF m 35 #[.val (.int u0), .val (.int u1), .val (.int u2)] []))
      obtain ⟨T60, h60, X60, e60, E60, A60, D60, -, st60⟩ := newO X0 hx hZ hown (hw _ (List.mem_of_getElem? (i := 4) rfl)) (hw _ (List.mem_of_getElem? (i := 5) rfl)) (hw _ (List.mem_of_getElem? (i := 6) rfl)) e0 (g := (mkF m 35 #[.val (.int u0), .val (.int u1), .val (.int u2)] [])) rfl (hb hby d1_35) (by decide) (by decide)
      obtain ⟨b60, g60⟩ : ∃ z, z = h0.size := ⟨_, rfl⟩
      rw [← g60] at A60 D60 st60
      have g_b60 : n0 ≤ b60 := Nat.le_trans (Nat.le_trans Z0 K0.1) (Nat.le_of_eq g60.symm)
      have sz_b60 : h0.size ≤ b60 := Nat.le_trans K0.1 (Nat.le_of_eq g60.symm)
      have hk := Nat.le_trans hk E60.1
      have c61 := S_COMPACT_STRINGS_cs.ext E60
      have c62 := S_assertionsDisabled_1Int32.ext E60
      have c63 := S_HI_BYTE_SHIFT_0Int32.ext E60
      have c64 := S_LO_BYTE_SHIFT_8Int32.ext E60
      have K65 := K0.ext E60
      have c66 : Fld Z h60 b60 "java/lang/String" "value" "[B" .null := D60 (Or.inr (hw _ (List.mem_of_getElem? (i := 20) rfl))) (ty := (.array .byte)) (by decide)
      have c67 : Fld Z h60 b60 "java/lang/String" "coder" "B" (.int (0 : Int32)) := D60 (Or.inr (hw _ (List.mem_of_getElem? (i := 21) rfl))) (ty := .byte) (by decide)
      refine Wp.step st60 ?_
      show Wp p e below _ (T60.setTop (mkF m 38 #[.val (.int u0), .val (.int u1), .val (.int u2)] [(.ref b60)]))
      refine Wp.step (fun t k => XS.dup X60.here hx rfl (hb hby d1_38) rfl rfl k) ?_
      show Wp p e below _ (T60.setTop (mkF m 39 #[.val (.int u0), .val (.int u1), .val (.int u2)] [(.ref b60), (.ref b60)]))
      refine Wp.step (fun t k => XS.iconst X60.here hx rfl (hb hby d1_39) k) ?_
      show Wp p e below _ (T60.setTop (mkF m 40 #[.val (.int u0), .val (.int u1), .val (.int u2)] [(.int (2 : Int32)), (.ref b60), (.ref b60)]))
      obtain ⟨T68, h68, k68, X68, e68, E68, A68, st68⟩ := newP X60 hx hZ (hw _ (List.mem_of_getElem? (i := 7) rfl)) e60 (g := (mkF m 40 #[.val (.int u0), .val (.int u1), .val (.int u2)] [(.int (2 : Int32)), (.ref b60), (.ref b60)])) rfl (hb hby d1_40) rfl (by decide) (cap := 2) (by decide) (by decide) (by decide) (by decide)
      obtain ⟨b68, g68⟩ : ∃ z, z = h60.size := ⟨_, rfl⟩
      rw [← g68] at A68 st68
      have g_b68 : n0 ≤ b68 := Nat.le_trans (Nat.le_trans Z0 K65.1) (Nat.le_of_eq g68.symm)
      have sz_b68 : h0.size ≤ b68 := Nat.le_trans K65.1 (Nat.le_of_eq g68.symm)
      have ne_b60_b68 : b60 ≠ b68 := Nat.ne_of_lt (Nat.lt_of_lt_of_le A60.lt (Nat.le_of_eq g68.symm))
      have hk := Nat.le_trans hk E68.1
      have c69 := c61.ext E68
      have c70 := c62.ext E68
      have c71 := c63.ext E68
      have c72 := c64.ext E68
      have c73 := A60.ext E68
      have c74 := c66.ext E68
      have c75 := c67.ext E68
      have K76 := K65.ext E68
      have Z68 : (newA k68 .char (2 : Int32)).slots.size = ((2 : Int32)).toNatClampNeg := sz_new _ _ _
      have nn68 : ¬ (2 : Int32) < 0 := (by decide)
      refine Wp.step st68 ?_
      have B68 := own_IA.new A68 nn68 rfl
      show Wp p e below _ (T68.setTop (mkF m 42 #[.val (.int u0), .val (.int u1), .val (.int u2)] [(.ref b68), (.ref b60), (.ref b60)]))
      refine Wp.step (fun t k => XS.dup X68.here hx rfl (hb hby d1_42) rfl rfl k) ?_
      show Wp p e below _ (T68.setTop (mkF m 43 #[.val (.int u0), .val (.int u1), .val (.int u2)] [(.ref b68), (.ref b68), (.ref b60), (.ref b60)]))
      refine Wp.step (fun t k => XS.iconst X68.here hx rfl (hb hby d1_43) k) ?_
      show Wp p e below _ (T68.setTop (mkF m 44 #[.val (.int u0), .val (.int u1), .val (.int u2)] [(.int (0 : Int32)), (.ref b68), (.ref b68), (.ref b60), (.ref b60)]))
      refine Wp.step (fun t k => XS.iloadN X68.here hx rfl (hb hby d1_44) rfl k) ?_
      show Wp p e below _ (T68.setTop (mkF m 45 #[.val (.int u0), .val (.int u1), .val (.int u2)] [(.int u1), (.int (0 : Int32)), (.ref b68), (.ref b68), (.ref b60), (.ref b60)]))
      obtain ⟨cl77, Ar77, Sz77, Nn77, El77⟩ := id B68
      have hin77 : ¬ ((0 : Int32) < 0 ∨ cl77.slots.size ≤ ((0 : Int32)).toNatClampNeg) := inb_of Sz77 ⟨by decide, by decide⟩
      obtain ⟨T77, h77, X77, e77, W77, st77⟩ := stC X68 hx hZ e68 Ar77 (j := (0 : Int32)) hin77 (g := (mkF m 45 #[.val (.int u0), .val (.int u1), .val (.int u2)] [(.int u1), (.int (0 : Int32)), (.ref b68), (.ref b68), (.ref b60), (.ref b60)])) rfl rfl (hb hby d1_45)
      have hk := Nat.le_trans hk (Nat.le_of_eq (Wr.size W77).symm)
      have c78 := c69.wr W77
      have c79 := c70.wr W77
      have c80 := c71.wr W77
      have c81 := c72.wr W77
      have c82 := c73.wr W77
      have c83 := c74.other W77 (Or.inl ne_b60_b68)
      have c84 := c75.other W77 (Or.inl ne_b60_b68)
      have K85 := K76.wr W77 (Or.inr sz_b68)
      have N77 := Fr.snoc X77 N0 g_b68
      have B77 := own_IA.set Ar77 Sz77 Nn77 El77 W77 (fits_nar_char _)
      refine Wp.step st77 ?_
      show Wp p e below _ (T77.setTop (mkF m 46 #[.val (.int u0), .val (.int u1), .val (.int u2)] [(.ref b68), (.ref b60), (.ref b60)]))
      refine Wp.step (fun t k => XS.dup X77.here hx rfl (hb hby d1_46) rfl rfl k) ?_
      show Wp p e below _ (T77.setTop (mkF m 47 #[.val (.int u0), .val (.int u1), .val (.int u2)] [(.ref b68), (.ref b68), (.ref b60), (.ref b60)]))
      refine Wp.step (fun t k => XS.iconst X77.here hx rfl (hb hby d1_47) k) ?_
      show Wp p e below _ (T77.setTop (mkF m 48 #[.val (.int u0), .val (.int u1), .val (.int u2)] [(.int (1 : Int32)), (.ref b68), (.ref b68), (.ref b60), (.ref b60)]))
      refine Wp.step (fun t k => XS.iloadN X77.here hx rfl (hb hby d1_48) rfl k) ?_
      show Wp p e below _ (T77.setTop (mkF m 49 #[.val (.int u0), .val (.int u1), .val (.int u2)] [(.int u2), (.int (1 : Int32)), (.ref b68), (.ref b68), (.ref b60), (.ref b60)]))
      obtain ⟨cl86, Ar86, Sz86, Nn86, El86⟩ := id B77
      have hin86 : ¬ ((1 : Int32) < 0 ∨ cl86.slots.size ≤ ((1 : Int32)).toNatClampNeg) := inb_of Sz86 ⟨by decide, by decide⟩
      obtain ⟨T86, h86, X86, e86, W86, st86⟩ := stC X77 hx hZ e77 Ar86 (j := (1 : Int32)) hin86 (g := (mkF m 49 #[.val (.int u0), .val (.int u1), .val (.int u2)] [(.int u2), (.int (1 : Int32)), (.ref b68), (.ref b68), (.ref b60), (.ref b60)])) rfl rfl (hb hby d1_49)
      have hk := Nat.le_trans hk (Nat.le_of_eq (Wr.size W86).symm)
      have c87 := c78.wr W86
      have c88 := c79.wr W86
      have c89 := c80.wr W86
      have c90 := c81.wr W86
      have c91 := c82.wr W86
      have c92 := c83.other W86 (Or.inl ne_b60_b68)
      have c93 := c84.other W86 (Or.inl ne_b60_b68)
      have K94 := K85.wr W86 (Or.inr sz_b68)
      have N86 := Fr.snoc X86 N77 g_b68
      have B86 := own_IA.set Ar86 Sz86 Nn86 El86 W86 (fits_nar_char _)
      have B86c := own_IA.cong (g' := (own_ch u1 u2)) B86 (own_ch2 hq0 hq1)
      refine Wp.step st86 ?_
      show Wp p e below _ (T86.setTop (mkF m 50 #[.val (.int u0), .val (.int u1), .val (.int u2)] [(.ref b68), (.ref b60), (.ref b60)]))
      obtain ⟨_, _, ⟨T95, L95, k95, n95⟩, -, X95, ⟨Lc95, hQ95, l95, y95, z95⟩, st95⟩ := X86.specialBack hx (y := (⟨"java/lang/String", "<init>", "([C)V"⟩ : MethodName)) rfl hown (mvT hZ (hw _ (List.mem_of_getElem? (i := 8) rfl))) (mvT hZ (hw _ (List.mem_of_getElem? (i := 9) rfl))) (mvT hZ (hw _ (List.mem_of_getElem? (i := 10) rfl))) (by decide) (backOf (W := 1) (rm2_2 l Z a0 hw [] b60 b68 u1 u2 cs h86 n0 (Nat.le_trans Z0 K94.1) g_b60 c91 c92 c93 B86c c87 c88 c89 c90 (Ne.symm ne_b60_b68) hq0 hq1 hcs) hZ (hw _ (List.mem_of_getElem? (i := 10) rfl)) (hw _ (List.mem_of_getElem? (i := 6) rfl)) (by decide) (by decide)) (g := (mkF m 50 #[.val (.int u0), .val (.int u1), .val (.int u2)] [(.ref b68), (.ref b60), (.ref b60)])) rfl (by rw [hml]; rfl) (Steps.refl _) (a := b60) (argsL := [(.ref b68)]) (rest := [(.ref b60)]) (lenOf pd_285bC29V rfl) rfl (by show 2 * 0 + _ ≤ _; exact Nat.le_of_eq rfl) (hb hby d1_50) (fun _ _ => ⟨rfl, e86, (by decide : 2 + 2 ≤ _), (by decide : 6 + 6 ≤ _)⟩)
      dsimp only [Pt.U, Pt.locs, Pt.cells, Pt.slots] at X95 l95 y95 z95 st95 hQ95
      subst l95 y95 z95
      obtain ⟨h95, e95⟩ : ∃ z, T95.heap = z := ⟨_, rfl⟩
      rw [e95] at hQ95
      obtain ⟨rfl, N95q, Kc95, hS_95⟩ := hQ95
      have N95 := Fr.app N86 N95q
      have hk := Nat.le_trans hk Kc95.1
      have c96 := own_sta_keep c87 Kc95 (allS (own_ns c91) all0)
      have c97 := own_sta_keep c88 Kc95 (allS (own_ns c91) all0)
      have c98 := own_sta_keep c89 Kc95 (allS (own_ns c91) all0)
      have c99 := own_sta_keep c90 Kc95 (allS (own_ns c91) all0)
      have c100 := c91.keep Kc95
      have B101 := B86c.keep Kc95 (ninS (Ne.symm ne_b60_b68) nin0)
      have K95 := K94.trans Kc95 (allS (Or.inr sz_b60) all0)
      refine Wp.go st95 ?_
      show Wp p e below _ (T95.setTop (mkF m 53 #[.val (.int u0), .val (.int u1), .val (.int u2)] [(.ref b60)]))
      refine Wp.retAX X95 hS (own_hk e95 hk) (by rw [e95]; exact (own_T.keep hT K95)) hx Bd.returns rfl (hb hby d1_53) hlk ?_ (by decide) (by decide)
      show Q1 Z u0 u1 u2 cs h0 n0 (some (.ref b60)) T95.heap _
      rw [e95]
      exact ⟨b60, rfl, N95, K95, sz_b60, (by rw [(hn.resolve_left hc1).resolve_left hc26]; exact hS_95)⟩
theorem pd_2829I : parseMethodDescriptor "()I" = some ⟨[], some .int⟩ := by decide +kernel
theorem pd_28II29I : parseMethodDescriptor "(II)I" = some ⟨[.int, .int], some .int⟩ := by decide +kernel
theorem pd_28I29C : parseMethodDescriptor "(I)C" = some ⟨[.int], some .char⟩ := by decide +kernel
theorem pd_28C29I : parseMethodDescriptor "(C)I" = some ⟨[.char], some .int⟩ := by decide +kernel
theorem d6_0 : decode prog_65_method_2_code 0 = .ok (.aload_n 0, 1) := by decide +kernel
theorem d6_1 : decode prog_65_method_2_code 1 = .ok (.invokevirtual 7, 3) := by decide +kernel
theorem d6_4 : decode prog_65_method_2_code 4 = .ok (.aload_n 1, 1) := by decide +kernel
theorem d6_5 : decode prog_65_method_2_code 5 = .ok (.invokevirtual 7, 3) := by decide +kernel
theorem d6_8 : decode prog_65_method_2_code 8 = .ok (.invokestatic 13, 3) := by decide +kernel
theorem d6_11 : decode prog_65_method_2_code 11 = .ok (.istore_n 2, 1) := by decide +kernel
theorem d6_12 : decode prog_65_method_2_code 12 = .ok (.iconst 0, 1) := by decide +kernel
theorem d6_13 : decode prog_65_method_2_code 13 = .ok (.istore_n 3, 1) := by decide +kernel
theorem d6_14 : decode prog_65_method_2_code 14 = .ok (.iload_n 3, 1) := by decide +kernel
theorem d6_15 : decode prog_65_method_2_code 15 = .ok (.iload_n 2, 1) := by decide +kernel
theorem d6_16 : decode prog_65_method_2_code 16 = .ok (.if_icmp .ge 44, 3) := by decide +kernel
theorem d6_19 : decode prog_65_method_2_code 19 = .ok (.aload_n 0, 1) := by decide +kernel
theorem d6_20 : decode prog_65_method_2_code 20 = .ok (.iload_n 3, 1) := by decide +kernel
theorem d6_21 : decode prog_65_method_2_code 21 = .ok (.invokevirtual 19, 3) := by decide +kernel
theorem d6_24 : decode prog_65_method_2_code 24 = .ok (.istore 4, 2) := by decide +kernel
theorem d6_26 : decode prog_65_method_2_code 26 = .ok (.aload_n 1, 1) := by decide +kernel
theorem d6_27 : decode prog_65_method_2_code 27 = .ok (.iload_n 3, 1) := by decide +kernel
theorem d6_28 : decode prog_65_method_2_code 28 = .ok (.invokevirtual 19, 3) := by decide +kernel
theorem d6_31 : decode prog_65_method_2_code 31 = .ok (.istore 5, 2) := by decide +kernel
theorem d6_33 : decode prog_65_method_2_code 33 = .ok (.iload 4, 2) := by decide +kernel
theorem d6_35 : decode prog_65_method_2_code 35 = .ok (.iload 5, 2) := by decide +kernel
theorem d6_37 : decode prog_65_method_2_code 37 = .ok (.if_icmp .eq 17, 3) := by decide +kernel
theorem d6_40 : decode prog_65_method_2_code 40 = .ok (.iload 4, 2) := by decide +kernel
theorem d6_42 : decode prog_65_method_2_code 42 = .ok (.invokestatic 23, 3) := by decide +kernel
theorem d6_45 : decode prog_65_method_2_code 45 = .ok (.iload 5, 2) := by decide +kernel
theorem d6_47 : decode prog_65_method_2_code 47 = .ok (.invokestatic 23, 3) := by decide +kernel
theorem d6_50 : decode prog_65_method_2_code 50 = .ok (.invokestatic 29, 3) := by decide +kernel
theorem d6_53 : decode prog_65_method_2_code 53 = .ok (.ireturn, 1) := by decide +kernel
theorem d6_54 : decode prog_65_method_2_code 54 = .ok (.iinc 3 1, 3) := by decide +kernel
theorem d6_57 : decode prog_65_method_2_code 57 = .ok (.goto (-43), 3) := by decide +kernel
theorem d6_60 : decode prog_65_method_2_code 60 = .ok (.aload_n 0, 1) := by decide +kernel
theorem d6_61 : decode prog_65_method_2_code 61 = .ok (.invokevirtual 7, 3) := by decide +kernel
theorem d6_64 : decode prog_65_method_2_code 64 = .ok (.aload_n 1, 1) := by decide +kernel
theorem d6_65 : decode prog_65_method_2_code 65 = .ok (.invokevirtual 7, 3) := by decide +kernel
theorem d6_68 : decode prog_65_method_2_code 68 = .ok (.invokestatic 29, 3) := by decide +kernel
theorem d6_71 : decode prog_65_method_2_code 71 = .ok (.ireturn, 1) := by decide +kernel
theorem ef_6_00 (m : MethodId) (x0 : Addr) (x1 : Addr) : entryFrame m #[(.ref x0), (.ref x1)] 6 = mkF m 0 #[.val (.ref x0), .val (.ref x1), .unset, .unset, .unset, .unset] [] := by first | (simp [entryFrame, mkF, argsToLocals, Value.category]; done) | rfl
def Q6 (Z : State) (d0 : Addr) (d1 : Addr) (n : Int32) (f : Nat → Int32) (k2 : Int32) (f2 : Nat → Int32) (cs : Int32) (fm : Value) (h0 : Heap) (n0 : Nat) (v : Option Value) (h : Heap) (L : List Loc) : Prop := v = some (.int (own_cs n k2 f f2)) ∧ Fr n0 L ∧ h = h0
set_option maxRecDepth 65536 in
set_option maxHeartbeats 40000000 in
theorem rm6 (l : Launch) (Z : State) (a0 : Array Value) (hw : ∀ d ∈ tables_1, d.before a0 Z = true) (ws : List Jvm.Cond) (d0 : Addr) (d1 : Addr) (n : Int32) (f : Nat → Int32) (k2 : Int32) (f2 : Nat → Int32) (cs : Int32) (fm : Value) (h0 : Heap) (n0 : Nat) (Z0 : n0 ≤ h0.size) (S_COMPACT_STRINGS_cs : Sta Z h0 "java/lang/String" "COMPACT_STRINGS" "Z" (.int cs)) (S_SIOOBE_FORMATTER_fm : Sta Z h0 "jdk/internal/util/Preconditions" "SIOOBE_FORMATTER" "Ljava/util/function/BiFunction;" fm) (S_assertionsDisabled_1Int32 : Sta Z h0 "java/lang/StringUTF16" "$assertionsDisabled" "Z" (.int (1 : Int32))) (S_HI_BYTE_SHIFT_0Int32 : Sta Z h0 "java/lang/StringUTF16" "HI_BYTE_SHIFT" "I" (.int (0 : Int32))) (S_LO_BYTE_SHIFT_8Int32 : Sta Z h0 "java/lang/StringUTF16" "LO_BYTE_SHIFT" "I" (.int (8 : Int32))) (hcs : ¬ cs = 0) (hfm : fm = .null ∨ ∃ z, fm = .ref z) (hA : own_S Z h0 d0 n f) (hB : own_S Z h0 d1 k2 f2) (hF0 : own_isC (f 0)) (hF1 : own_isC (f 1)) (hG0 : own_isC (f2 0)) (hG1 : own_isC (f2 1)) :
    MetFree l (⟨"com/example/rank_merge/rankmerge/model/IdOrder", "compare", "(Ljava/lang/String;Ljava/lang/String;)I"⟩ : MethodName) (head1 (Jvm.Cond.code (⟨"com/example/rank_merge/rankmerge/model/IdOrder", "compare", "(Ljava/lang/String;Ljava/lang/String;)I"⟩ : MethodName) prog_65_method_2_code 6 (some .int) :: ws) ({ frames := 5, cells := 0, slots := 0, locals := 66 } : Room)) (fun a U => a = #[(.ref d0), (.ref d1)] ∧ Z.Warmed39 U.vm ∧ U.heap = h0) (fun _ _ _ _ _ => True) (fun _ U o U' => ∃ v L, o = .returned v ∧ Q6 Z d0 d1 n f k2 f2 cs fm h0 n0 v U'.heap L ∧ FrameEnd U o U' L ({ frames := 5, cells := 0, slots := 0, locals := 66 } : Room).cells ({ frames := 5, cells := 0, slots := 0, locals := 66 } : Room).slots) := by
  refine MetFree.of_bodySF (plainFor_of_name pn_com_example_rank_merge_rankmerge_model_IdOrder) hisR ?_
  intro p e s m args below meth c s₁ Bd hml0 hP hK
  obtain ⟨rfl, hZ, hh⟩ := hP
  have hx := Bd.exec
  have hby := Bd.bytes
  have hlk : meth.locks = false := Bd.notSynchronized
  have hml : c.maxLocals = 6 := hml0
  have hown : s.vm.findClass "com/example/rank_merge/rankmerge/model/IdOrder" = some m.cls := findClass_of_methodNamed Bd.named
  have hnm := (name_of_methodNamed Bd.named Bd.method).1
  have X0 : Stand p l e ({ frames := 5, cells := 0, slots := 0, locals := 66 } : Room) s m #[(.ref d0), (.ref d1)] below meth c s₁ [] 0 0 := Stand.of_body Bd
  have e0 : s₁.heap = h0 := by rw [← hh, Bd.state]; rfl
  have N0 := Fr.nil n0
  have K0 : Keep h0 h0 [] := Keep.refl h0 _
  show Wp p e below (Out s (Q6 Z d0 d1 n f k2 f2 cs fm h0 n0) ({ frames := 5, cells := 0, slots := 0, locals := 66 } : Room).cells ({ frames := 5, cells := 0, slots := 0, locals := 66 } : Room).slots) (s₁.setTop (entryFrame m #[(.ref d0), (.ref d1)] 6))
  rw [ef_6_00]
  show Wp p e below _ (s₁.setTop (mkF m 0 #[.val (.ref d0), .val (.ref d1), .unset, .unset, .unset, .unset] []))
  refine Wp.step (fun t k => XS.aloadN X0.here hx rfl (hb hby d6_0) rfl rfl k) ?_
  show Wp p e below _ (s₁.setTop (mkF m 1 #[.val (.ref d0), .val (.ref d1), .unset, .unset, .unset, .unset] [(.ref d0)]))
  obtain ⟨cq1, kq1, q1a, q1b, q1c⟩ := isOf hZ e0 hA.exa
  obtain ⟨_, _, ⟨T1, L1, k1, n1⟩, -, X1, ⟨Lc1, hQ1, l1, y1, z1⟩, st1⟩ := X0.virtualBack hx (y := (⟨"java/lang/String", "length", "()I"⟩ : MethodName)) (z := (⟨"java/lang/String", "length", "()I"⟩ : MethodName)) hown (mvT hZ (hw _ (List.mem_of_getElem? (i := 33) rfl))) (mvT hZ (hw _ (List.mem_of_getElem? (i := 34) rfl))) (notFace_of_selects (args := #[]) (mvT hZ (hw _ (List.mem_of_getElem? (i := 36) rfl)))) (mvT hZ (hw _ (List.mem_of_getElem? (i := 36) rfl))) (mvT hZ (hw _ (List.mem_of_getElem? (i := 35) rfl))) (by decide) (backOf (W := 0) (rm7 l Z a0 hw [] d0 n f cs h0 n0 (Nat.le_trans Z0 K0.1) S_COMPACT_STRINGS_cs hcs hA) hZ (hw _ (List.mem_of_getElem? (i := 37) rfl)) (hw _ (List.mem_of_getElem? (i := 6) rfl)) (by decide) (by decide)) q1a q1c (g := (mkF m 1 #[.val (.ref d0), .val (.ref d1), .unset, .unset, .unset, .unset] [(.ref d0)])) rfl (by rw [hml]; rfl) (Steps.refl _) (argsL := []) (rest := []) (lenOf pd_2829I rfl) rfl (by show 2 * 0 + _ ≤ _; exact Nat.le_of_eq rfl) (hb hby d6_1) (fun _ _ => ⟨rfl, e0, (by decide : 0 + 0 ≤ _), (by decide : 0 + 0 ≤ _)⟩)
  dsimp only [Pt.U, Pt.locs, Pt.cells, Pt.slots] at X1 l1 y1 z1 st1 hQ1
  subst l1 y1 z1
  obtain ⟨rfl, N1q, e1⟩ := hQ1
  have N1 := Fr.app N0 N1q
  refine Wp.go st1 ?_
  show Wp p e below _ (T1.setTop (mkF m 4 #[.val (.ref d0), .val (.ref d1), .unset, .unset, .unset, .unset] [(.int n)]))
  refine Wp.step (fun t k => XS.aloadN X1.here hx rfl (hb hby d6_4) rfl rfl k) ?_
  show Wp p e below _ (T1.setTop (mkF m 5 #[.val (.ref d0), .val (.ref d1), .unset, .unset, .unset, .unset] [(.ref d1), (.int n)]))
  obtain ⟨cq2, kq2, q2a, q2b, q2c⟩ := isOf hZ e1 hB.exa
  obtain ⟨_, _, ⟨T2, L2, k2, n2⟩, -, X2, ⟨Lc2, hQ2, l2, y2, z2⟩, st2⟩ := X1.virtualBack hx (y := (⟨"java/lang/String", "length", "()I"⟩ : MethodName)) (z := (⟨"java/lang/String", "length", "()I"⟩ : MethodName)) hown (mvT hZ (hw _ (List.mem_of_getElem? (i := 33) rfl))) (mvT hZ (hw _ (List.mem_of_getElem? (i := 34) rfl))) (notFace_of_selects (args := #[]) (mvT hZ (hw _ (List.mem_of_getElem? (i := 36) rfl)))) (mvT hZ (hw _ (List.mem_of_getElem? (i := 36) rfl))) (mvT hZ (hw _ (List.mem_of_getElem? (i := 35) rfl))) (by decide) (backOf (W := 1) (rm7 l Z a0 hw [] d1 k2 f2 cs h0 n0 (Nat.le_trans Z0 K0.1) S_COMPACT_STRINGS_cs hcs hB) hZ (hw _ (List.mem_of_getElem? (i := 37) rfl)) (hw _ (List.mem_of_getElem? (i := 6) rfl)) (by decide) (by decide)) q2a q2c (g := (mkF m 5 #[.val (.ref d0), .val (.ref d1), .unset, .unset, .unset, .unset] [(.ref d1), (.int n)])) rfl (by rw [hml]; rfl) (Steps.refl _) (argsL := []) (rest := [(.int n)]) (lenOf pd_2829I rfl) rfl (by show 2 * 0 + _ ≤ _; exact Nat.le_of_eq rfl) (hb hby d6_5) (fun _ _ => ⟨rfl, e1, (by decide : 0 + 0 ≤ _), (by decide : 0 + 0 ≤ _)⟩)
  dsimp only [Pt.U, Pt.locs, Pt.cells, Pt.slots] at X2 l2 y2 z2 st2 hQ2
  subst l2 y2 z2
  obtain ⟨rfl, N2q, e2⟩ := hQ2
  have N2 := Fr.app N1 N2q
  refine Wp.go st2 ?_
  show Wp p e below _ (T2.setTop (mkF m 8 #[.val (.ref d0), .val (.ref d1), .unset, .unset, .unset, .unset] [(.int k2), (.int n)]))
  obtain ⟨_, _, ⟨T3, L3, k3, n3⟩, -, X3, ⟨Lc3, hQ3, l3, y3, z3⟩, st3⟩ := Jvm.LawKit.callS X2 hx (y := (⟨"java/lang/Math", "min", "(II)I"⟩ : MethodName)) hown (mvT hZ (hw _ (List.mem_of_getElem? (i := 44) rfl))) (mvT hZ (hw _ (List.mem_of_getElem? (i := 45) rfl))) (mvT hZ (hw _ (List.mem_of_getElem? (i := 46) rfl))) (mvT hZ (hw _ (List.mem_of_getElem? (i := 47) rfl))) (by decide) (backOf (W := 0) (rm9 l Z a0 hw [] n k2  h0 n0 (Nat.le_trans Z0 K0.1)  ) hZ (hw _ (List.mem_of_getElem? (i := 47) rfl)) (hw _ (List.mem_of_getElem? (i := 46) rfl)) (by decide) (by decide)) (g := (mkF m 8 #[.val (.ref d0), .val (.ref d1), .unset, .unset, .unset, .unset] [(.int k2), (.int n)])) rfl (by rw [hml]; rfl) (argsL := [(.int n), (.int k2)]) (rest := []) (lenOf pd_28II29I rfl) rfl (by show 2 * 0 + _ ≤ _; exact Nat.le_of_eq rfl) (hb hby d6_8) (fun _ _ => ⟨rfl, e2, (by decide : 0 + 0 ≤ _), (by decide : 0 + 0 ≤ _)⟩)
  dsimp only [Pt.U, Pt.locs, Pt.cells, Pt.slots] at X3 l3 y3 z3 st3 hQ3
  subst l3 y3 z3
  obtain ⟨rfl, N3q, e3⟩ := hQ3
  have N3 := Fr.app N2 N3q
  refine Wp.step st3 ?_
  show Wp p e below _ (T3.setTop (mkF m 11 #[.val (.ref d0), .val (.ref d1), .unset, .unset, .unset, .unset] [(.int (own_min n k2))]))
  refine Wp.step (fun t k => XS.istoreN X3.here hx rfl (hb hby d6_11) rfl (l' := #[.val (.ref d0), .val (.ref d1), .val (.int (own_min n k2)), .unset, .unset, .unset]) rfl k) ?_
  show Wp p e below _ (T3.setTop (mkF m 12 #[.val (.ref d0), .val (.ref d1), .val (.int (own_min n k2)), .unset, .unset, .unset] []))
  refine Wp.step (fun t k => XS.iconst X3.here hx rfl (hb hby d6_12) k) ?_
  show Wp p e below _ (T3.setTop (mkF m 13 #[.val (.ref d0), .val (.ref d1), .val (.int (own_min n k2)), .unset, .unset, .unset] [(.int (0 : Int32))]))
  refine Wp.step (fun t k => XS.istoreN X3.here hx rfl (hb hby d6_13) rfl (l' := #[.val (.ref d0), .val (.ref d1), .val (.int (own_min n k2)), .val (.int (0 : Int32)), .unset, .unset]) rfl k) ?_
  show Wp p e below _ (T3.setTop (mkF m 14 #[.val (.ref d0), .val (.ref d1), .val (.int (own_min n k2)), .val (.int (0 : Int32)), .unset, .unset] []))
  refine Wp.step (fun t k => XS.iloadN X3.here hx rfl (hb hby d6_14) rfl k) ?_
  show Wp p e below _ (T3.setTop (mkF m 15 #[.val (.ref d0), .val (.ref d1), .val (.int (own_min n k2)), .val (.int (0 : Int32)), .unset, .unset] [(.int (0 : Int32))]))
  refine Wp.step (fun t k => XS.iloadN X3.here hx rfl (hb hby d6_15) rfl k) ?_
  show Wp p e below _ (T3.setTop (mkF m 16 #[.val (.ref d0), .val (.ref d1), .val (.int (own_min n k2)), .val (.int (0 : Int32)), .unset, .unset] [(.int (own_min n k2)), (.int (0 : Int32))]))
  by_cases hc4 : (0 : Int32) < (own_min n k2)
  · refine Wp.step (fun t k => XS.icmpNo X3.here hx rfl (hb hby d6_16) rfl (tlt hc4).2.1 k) ?_
    show Wp p e below _ (T3.setTop (mkF m 19 #[.val (.ref d0), .val (.ref d1), .val (.int (own_min n k2)), .val (.int (0 : Int32)), .unset, .unset] []))
    refine Wp.step (fun t k => XS.aloadN X3.here hx rfl (hb hby d6_19) rfl rfl k) ?_
    show Wp p e below _ (T3.setTop (mkF m 20 #[.val (.ref d0), .val (.ref d1), .val (.int (own_min n k2)), .val (.int (0 : Int32)), .unset, .unset] [(.ref d0)]))
    refine Wp.step (fun t k => XS.iloadN X3.here hx rfl (hb hby d6_20) rfl k) ?_
    show Wp p e below _ (T3.setTop (mkF m 21 #[.val (.ref d0), .val (.ref d1), .val (.int (own_min n k2)), .val (.int (0 : Int32)), .unset, .unset] [(.int (0 : Int32)), (.ref d0)]))
    obtain ⟨cq5, kq5, q5a, q5b, q5c⟩ := isOf hZ e3 hA.exa
    obtain ⟨_, _, ⟨T5, L5, k5, n5⟩, -, X5, ⟨Lc5, hQ5, l5, y5, z5⟩, st5⟩ := X3.virtualBack hx (y := (⟨"java/lang/String", "charAt", "(I)C"⟩ : MethodName)) (z := (⟨"java/lang/String", "charAt", "(I)C"⟩ : MethodName)) hown (mvT hZ (hw _ (List.mem_of_getElem? (i := 66) rfl))) (mvT hZ (hw _ (List.mem_of_getElem? (i := 67) rfl))) (notFace_of_selects (args := #[]) (mvT hZ (hw _ (List.mem_of_getElem? (i := 69) rfl)))) (mvT hZ (hw _ (List.mem_of_getElem? (i := 69) rfl))) (mvT hZ (hw _ (List.mem_of_getElem? (i := 68) rfl))) (by decide) (backOf (W := 0) (rm15 l Z a0 hw [] d0 (0 : Int32) n f cs fm h0 n0 (Nat.le_trans Z0 K0.1) S_COMPACT_STRINGS_cs S_SIOOBE_FORMATTER_fm S_assertionsDisabled_1Int32 S_HI_BYTE_SHIFT_0Int32 S_LO_BYTE_SHIFT_8Int32 hcs hfm hA (by decide) (own_min_lt.mp hc4).1 hF0) hZ (hw _ (List.mem_of_getElem? (i := 70) rfl)) (hw _ (List.mem_of_getElem? (i := 6) rfl)) (by decide) (by decide)) q5a q5c (g := (mkF m 21 #[.val (.ref d0), .val (.ref d1), .val (.int (own_min n k2)), .val (.int (0 : Int32)), .unset, .unset] [(.int (0 : Int32)), (.ref d0)])) rfl (by rw [hml]; rfl) (Steps.refl _) (argsL := [(.int (0 : Int32))]) (rest := []) (lenOf pd_28I29C rfl) rfl (by show 2 * 0 + _ ≤ _; exact Nat.le_of_eq rfl) (hb hby d6_21) (fun _ _ => ⟨rfl, e3, (by decide : 0 + 0 ≤ _), (by decide : 0 + 0 ≤ _)⟩)
    dsimp only [Pt.U, Pt.locs, Pt.cells, Pt.slots] at X5 l5 y5 z5 st5 hQ5
    subst l5 y5 z5
    obtain ⟨rfl, N5q, e5⟩ := hQ5
    have N5 := Fr.app N3 N5q
    refine Wp.go st5 ?_
    show Wp p e below _ (T5.setTop (mkF m 24 #[.val (.ref d0), .val (.ref d1), .val (.int (own_min n k2)), .val (.int (0 : Int32)), .unset, .unset] [(.int (f (0 : Int32).toNatClampNeg))]))
    rw [show (f (0 : Int32).toNatClampNeg) = (f 0) from rfl]
    refine Wp.step (fun t k => XS.istore X5.here hx rfl (hb hby d6_24) rfl (l' := #[.val (.ref d0), .val (.ref d1), .val (.int (own_min n k2)), .val (.int (0 : Int32)), .val (.int (f 0)), .unset]) rfl k) ?_
    show Wp p e below _ (T5.setTop (mkF m 26 #[.val (.ref d0), .val (.ref d1), .val (.int (own_min n k2)), .val (.int (0 : Int32)), .val (.int (f 0)), .unset] []))
    refine Wp.step (fun t k => XS.aloadN X5.here hx rfl (hb hby d6_26) rfl rfl k) ?_
    show Wp p e below _ (T5.setTop (mkF m 27 #[.val (.ref d0), .val (.ref d1), .val (.int (own_min n k2)), .val (.int (0 : Int32)), .val (.int (f 0)), .unset] [(.ref d1)]))
    refine Wp.step (fun t k => XS.iloadN X5.here hx rfl (hb hby d6_27) rfl k) ?_
    show Wp p e below _ (T5.setTop (mkF m 28 #[.val (.ref d0), .val (.ref d1), .val (.int (own_min n k2)), .val (.int (0 : Int32)), .val (.int (f 0)), .unset] [(.int (0 : Int32)), (.ref d1)]))
    obtain ⟨cq6, kq6, q6a, q6b, q6c⟩ := isOf hZ e5 hB.exa
    obtain ⟨_, _, ⟨T6, L6, k6, n6⟩, -, X6, ⟨Lc6, hQ6, l6, y6, z6⟩, st6⟩ := X5.virtualBack hx (y := (⟨"java/lang/String", "charAt", "(I)C"⟩ : MethodName)) (z := (⟨"java/lang/String", "charAt", "(I)C"⟩ : MethodName)) hown (mvT hZ (hw _ (List.mem_of_getElem? (i := 66) rfl))) (mvT hZ (hw _ (List.mem_of_getElem? (i := 67) rfl))) (notFace_of_selects (args := #[]) (mvT hZ (hw _ (List.mem_of_getElem? (i := 69) rfl)))) (mvT hZ (hw _ (List.mem_of_getElem? (i := 69) rfl))) (mvT hZ (hw _ (List.mem_of_getElem? (i := 68) rfl))) (by decide) (backOf (W := 0) (rm15 l Z a0 hw [] d1 (0 : Int32) k2 f2 cs fm h0 n0 (Nat.le_trans Z0 K0.1) S_COMPACT_STRINGS_cs S_SIOOBE_FORMATTER_fm S_assertionsDisabled_1Int32 S_HI_BYTE_SHIFT_0Int32 S_LO_BYTE_SHIFT_8Int32 hcs hfm hB (by decide) (own_min_lt.mp hc4).2 hG0) hZ (hw _ (List.mem_of_getElem? (i := 70) rfl)) (hw _ (List.mem_of_getElem? (i := 6) rfl)) (by decide) (by decide)) q6a q6c (g := (mkF m 28 #[.val (.ref d0), .val (.ref d1), .val (.int (own_min n k2)), .val (.int (0 : Int32)), .val (.int (f 0)), .unset] [(.int (0 : Int32)), (.ref d1)])) rfl (by rw [hml]; rfl) (Steps.refl _) (argsL := [(.int (0 : Int32))]) (rest := []) (lenOf pd_28I29C rfl) rfl (by show 2 * 0 + _ ≤ _; exact Nat.le_of_eq rfl) (hb hby d6_28) (fun _ _ => ⟨rfl, e5, (by decide : 0 + 0 ≤ _), (by decide : 0 + 0 ≤ _)⟩)
    dsimp only [Pt.U, Pt.locs, Pt.cells, Pt.slots] at X6 l6 y6 z6 st6 hQ6
    subst l6 y6 z6
    obtain ⟨rfl, N6q, e6⟩ := hQ6
    have N6 := Fr.app N5 N6q
    refine Wp.go st6 ?_
    show Wp p e below _ (T6.setTop (mkF m 31 #[.val (.ref d0), .val (.ref d1), .val (.int (own_min n k2)), .val (.int (0 : Int32)), .val (.int (f 0)), .unset] [(.int (f2 (0 : Int32).toNatClampNeg))]))
    rw [show (f2 (0 : Int32).toNatClampNeg) = (f2 0) from rfl]
    refine Wp.step (fun t k => XS.istore X6.here hx rfl (hb hby d6_31) rfl (l' := #[.val (.ref d0), .val (.ref d1), .val (.int (own_min n k2)), .val (.int (0 : Int32)), .val (.int (f 0)), .val (.int (f2 0))]) rfl k) ?_
    show Wp p e below _ (T6.setTop (mkF m 33 #[.val (.ref d0), .val (.ref d1), .val (.int (own_min n k2)), .val (.int (0 : Int32)), .val (.int (f 0)), .val (.int (f2 0))] []))
    refine Wp.step (fun t k => XS.iload X6.here hx rfl (hb hby d6_33) rfl k) ?_
    show Wp p e below _ (T6.setTop (mkF m 35 #[.val (.ref d0), .val (.ref d1), .val (.int (own_min n k2)), .val (.int (0 : Int32)), .val (.int (f 0)), .val (.int (f2 0))] [(.int (f 0))]))
    refine Wp.step (fun t k => XS.iload X6.here hx rfl (hb hby d6_35) rfl k) ?_
    show Wp p e below _ (T6.setTop (mkF m 37 #[.val (.ref d0), .val (.ref d1), .val (.int (own_min n k2)), .val (.int (0 : Int32)), .val (.int (f 0)), .val (.int (f2 0))] [(.int (f2 0)), (.int (f 0))]))
    by_cases hc7 : (f 0) = (f2 0)
    · refine Wp.step (fun t k => XS.icmpYes X6.here hx rfl (pc0 := 37) (pc' := 54) rfl (hb hby d6_37) rfl (teq hc7).1 (by decide) (by decide) k) ?_
      show Wp p e below _ (T6.setTop (mkF m 54 #[.val (.ref d0), .val (.ref d1), .val (.int (own_min n k2)), .val (.int (0 : Int32)), .val (.int (f 0)), .val (.int (f2 0))] []))
      refine Wp.step (fun t k => XS.iinc X6.here hx rfl (hb hby d6_54) rfl (l' := #[.val (.ref d0), .val (.ref d1), .val (.int (own_min n k2)), .val (.int ((0 : Int32) + (1 : Int32))), .val (.int (f 0)), .val (.int (f2 0))]) rfl k) ?_
      show Wp p e below _ (T6.setTop (mkF m 57 #[.val (.ref d0), .val (.ref d1), .val (.int (own_min n k2)), .val (.int ((0 : Int32) + (1 : Int32))), .val (.int (f 0)), .val (.int (f2 0))] []))
      rw [show ((0 : Int32) + (1 : Int32)) = (1 : Int32) from (by decide)]
      refine Wp.step (fun t k => XS.goto X6.here hx rfl (pc0 := 57) (pc' := 14) rfl (hb hby d6_57) (by decide) (by decide) k) ?_
      show Wp p e below _ (T6.setTop (mkF m 14 #[.val (.ref d0), .val (.ref d1), .val (.int (own_min n k2)), .val (.int (1 : Int32)), .val (.int (f 0)), .val (.int (f2 0))] []))
      refine Wp.step (fun t k => XS.iloadN X6.here hx rfl (hb hby d6_14) rfl k) ?_
      show Wp p e below _ (T6.setTop (mkF m 15 #[.val (.ref d0), .val (.ref d1), .val (.int (own_min n k2)), .val (.int (1 : Int32)), .val (.int (f 0)), .val (.int (f2 0))] [(.int (1 : Int32))]))
      refine Wp.step (fun t k => XS.iloadN X6.here hx rfl (hb hby d6_15) rfl k) ?_
      show Wp p e below _ (T6.setTop (mkF m 16 #[.val (.ref d0), .val (.ref d1), .val (.int (own_min n k2)), .val (.int (1 : Int32)), .val (.int (f 0)), .val (.int (f2 0))] [(.int (own_min n k2)), (.int (1 : Int32))]))
      by_cases hc8 : (1 : Int32) < (own_min n k2)
      · refine Wp.step (fun t k => XS.icmpNo X6.here hx rfl (hb hby d6_16) rfl (tlt hc8).2.1 k) ?_
        show Wp p e below _ (T6.setTop (mkF m 19 #[.val (.ref d0), .val (.ref d1), .val (.int (own_min n k2)), .val (.int (1 : Int32)), .val (.int (f 0)), .val (.int (f2 0))] []))
        refine Wp.step (fun t k => XS.aloadN X6.here hx rfl (hb hby d6_19) rfl rfl k) ?_
        show Wp p e below _ (T6.setTop (mkF m 20 #[.val (.ref d0), .val (.ref d1), .val (.int (own_min n k2)), .val (.int (1 : Int32)), .val (.int (f 0)), .val (.int (f2 0))] [(.ref d0)]))
        refine Wp.step (fun t k => XS.iloadN X6.here hx rfl (hb hby d6_20) rfl k) ?_
        show Wp p e below _ (T6.setTop (mkF m 21 #[.val (.ref d0), .val (.ref d1), .val (.int (own_min n k2)), .val (.int (1 : Int32)), .val (.int (f 0)), .val (.int (f2 0))] [(.int (1 : Int32)), (.ref d0)]))
        obtain ⟨cq9, kq9, q9a, q9b, q9c⟩ := isOf hZ e6 hA.exa
        obtain ⟨_, _, ⟨T9, L9, k9, n9⟩, -, X9, ⟨Lc9, hQ9, l9, y9, z9⟩, st9⟩ := X6.virtualBack hx (y := (⟨"java/lang/String", "charAt", "(I)C"⟩ : MethodName)) (z := (⟨"java/lang/String", "charAt", "(I)C"⟩ : MethodName)) hown (mvT hZ (hw _ (List.mem_of_getElem? (i := 66) rfl))) (mvT hZ (hw _ (List.mem_of_getElem? (i := 67) rfl))) (notFace_of_selects (args := #[]) (mvT hZ (hw _ (List.mem_of_getElem? (i := 69) rfl)))) (mvT hZ (hw _ (List.mem_of_getElem? (i := 69) rfl))) (mvT hZ (hw _ (List.mem_of_getElem? (i := 68) rfl))) (by decide) (backOf (W := 0) (rm15 l Z a0 hw [] d0 (1 : Int32) n f cs fm h0 n0 (Nat.le_trans Z0 K0.1) S_COMPACT_STRINGS_cs S_SIOOBE_FORMATTER_fm S_assertionsDisabled_1Int32 S_HI_BYTE_SHIFT_0Int32 S_LO_BYTE_SHIFT_8Int32 hcs hfm hA (by decide) (own_min_lt.mp hc8).1 hF1) hZ (hw _ (List.mem_of_getElem? (i := 70) rfl)) (hw _ (List.mem_of_getElem? (i := 6) rfl)) (by decide) (by decide)) q9a q9c (g := (mkF m 21 #[.val (.ref d0), .val (.ref d1), .val (.int (own_min n k2)), .val (.int (1 : Int32)), .val (.int (f 0)), .val (.int (f2 0))] [(.int (1 : Int32)), (.ref d0)])) rfl (by rw [hml]; rfl) (Steps.refl _) (argsL := [(.int (1 : Int32))]) (rest := []) (lenOf pd_28I29C rfl) rfl (by show 2 * 0 + _ ≤ _; exact Nat.le_of_eq rfl) (hb hby d6_21) (fun _ _ => ⟨rfl, e6, (by decide : 0 + 0 ≤ _), (by decide : 0 + 0 ≤ _)⟩)
        dsimp only [Pt.U, Pt.locs, Pt.cells, Pt.slots] at X9 l9 y9 z9 st9 hQ9
        subst l9 y9 z9
        obtain ⟨rfl, N9q, e9⟩ := hQ9
        have N9 := Fr.app N6 N9q
        refine Wp.go st9 ?_
        show Wp p e below _ (T9.setTop (mkF m 24 #[.val (.ref d0), .val (.ref d1), .val (.int (own_min n k2)), .val (.int (1 : Int32)), .val (.int (f 0)), .val (.int (f2 0))] [(.int (f (1 : Int32).toNatClampNeg))]))
        rw [show (f (1 : Int32).toNatClampNeg) = (f 1) from rfl]
        refine Wp.step (fun t k => XS.istore X9.here hx rfl (hb hby d6_24) rfl (l' := #[.val (.ref d0), .val (.ref d1), .val (.int (own_min n k2)), .val (.int (1 : Int32)), .val (.int (f 1)), .val (.int (f2 0))]) rfl k) ?_
        show Wp p e below _ (T9.setTop (mkF m 26 #[.val (.ref d0), .val (.ref d1), .val (.int (own_min n k2)), .val (.int (1 : Int32)), .val (.int (f 1)), .val (.int (f2 0))] []))
        refine Wp.step (fun t k => XS.aloadN X9.here hx rfl (hb hby d6_26) rfl rfl k) ?_
        show Wp p e below _ (T9.setTop (mkF m 27 #[.val (.ref d0), .val (.ref d1), .val (.int (own_min n k2)), .val (.int (1 : Int32)), .val (.int (f 1)), .val (.int (f2 0))] [(.ref d1)]))
        refine Wp.step (fun t k => XS.iloadN X9.here hx rfl (hb hby d6_27) rfl k) ?_
        show Wp p e below _ (T9.setTop (mkF m 28 #[.val (.ref d0), .val (.ref d1), .val (.int (own_min n k2)), .val (.int (1 : Int32)), .val (.int (f 1)), .val (.int (f2 0))] [(.int (1 : Int32)), (.ref d1)]))
        obtain ⟨cq10, kq10, q10a, q10b, q10c⟩ := isOf hZ e9 hB.exa
        obtain ⟨_, _, ⟨T10, L10, k10, n10⟩, -, X10, ⟨Lc10, hQ10, l10, y10, z10⟩, st10⟩ := X9.virtualBack hx (y := (⟨"java/lang/String", "charAt", "(I)C"⟩ : MethodName)) (z := (⟨"java/lang/String", "charAt", "(I)C"⟩ : MethodName)) hown (mvT hZ (hw _ (List.mem_of_getElem? (i := 66) rfl))) (mvT hZ (hw _ (List.mem_of_getElem? (i := 67) rfl))) (notFace_of_selects (args := #[]) (mvT hZ (hw _ (List.mem_of_getElem? (i := 69) rfl)))) (mvT hZ (hw _ (List.mem_of_getElem? (i := 69) rfl))) (mvT hZ (hw _ (List.mem_of_getElem? (i := 68) rfl))) (by decide) (backOf (W := 0) (rm15 l Z a0 hw [] d1 (1 : Int32) k2 f2 cs fm h0 n0 (Nat.le_trans Z0 K0.1) S_COMPACT_STRINGS_cs S_SIOOBE_FORMATTER_fm S_assertionsDisabled_1Int32 S_HI_BYTE_SHIFT_0Int32 S_LO_BYTE_SHIFT_8Int32 hcs hfm hB (by decide) (own_min_lt.mp hc8).2 hG1) hZ (hw _ (List.mem_of_getElem? (i := 70) rfl)) (hw _ (List.mem_of_getElem? (i := 6) rfl)) (by decide) (by decide)) q10a q10c (g := (mkF m 28 #[.val (.ref d0), .val (.ref d1), .val (.int (own_min n k2)), .val (.int (1 : Int32)), .val (.int (f 1)), .val (.int (f2 0))] [(.int (1 : Int32)), (.ref d1)])) rfl (by rw [hml]; rfl) (Steps.refl _) (argsL := [(.int (1 : Int32))]) (rest := []) (lenOf pd_28I29C rfl) rfl (by show 2 * 0 + _ ≤ _; exact Nat.le_of_eq rfl) (hb hby d6_28) (fun _ _ => ⟨rfl, e9, (by decide : 0 + 0 ≤ _), (by decide : 0 + 0 ≤ _)⟩)
        dsimp only [Pt.U, Pt.locs, Pt.cells, Pt.slots] at X10 l10 y10 z10 st10 hQ10
        subst l10 y10 z10
        obtain ⟨rfl, N10q, e10⟩ := hQ10
        have N10 := Fr.app N9 N10q
        refine Wp.go st10 ?_
        show Wp p e below _ (T10.setTop (mkF m 31 #[.val (.ref d0), .val (.ref d1), .val (.int (own_min n k2)), .val (.int (1 : Int32)), .val (.int (f 1)), .val (.int (f2 0))] [(.int (f2 (1 : Int32).toNatClampNeg))]))
        rw [show (f2 (1 : Int32).toNatClampNeg) = (f2 1) from rfl]
        refine Wp.step (fun t k => XS.istore X10.here hx rfl (hb hby d6_31) rfl (l' := #[.val (.ref d0), .val (.ref d1), .val (.int (own_min n k2)), .val (.int (1 : Int32)), .val (.int (f 1)), .val (.int (f2 1))]) rfl k) ?_
        show Wp p e below _ (T10.setTop (mkF m 33 #[.val (.ref d0), .val (.ref d1), .val (.int (own_min n k2)), .val (.int (1 : Int32)), .val (.int (f 1)), .val (.int (f2 1))] []))
        refine Wp.step (fun t k => XS.iload X10.here hx rfl (hb hby d6_33) rfl k) ?_
        show Wp p e below _ (T10.setTop (mkF m 35 #[.val (.ref d0), .val (.ref d1), .val (.int (own_min n k2)), .val (.int (1 : Int32)), .val (.int (f 1)), .val (.int (f2 1))] [(.int (f 1))]))
        refine Wp.step (fun t k => XS.iload X10.here hx rfl (hb hby d6_35) rfl k) ?_
        show Wp p e below _ (T10.setTop (mkF m 37 #[.val (.ref d0), .val (.ref d1), .val (.int (own_min n k2)), .val (.int (1 : Int32)), .val (.int (f 1)), .val (.int (f2 1))] [(.int (f2 1)), (.int (f 1))]))
        by_cases hc11 : (f 1) = (f2 1)
        · refine Wp.step (fun t k => XS.icmpYes X10.here hx rfl (pc0 := 37) (pc' := 54) rfl (hb hby d6_37) rfl (teq hc11).1 (by decide) (by decide) k) ?_
          show Wp p e below _ (T10.setTop (mkF m 54 #[.val (.ref d0), .val (.ref d1), .val (.int (own_min n k2)), .val (.int (1 : Int32)), .val (.int (f 1)), .val (.int (f2 1))] []))
          refine Wp.step (fun t k => XS.iinc X10.here hx rfl (hb hby d6_54) rfl (l' := #[.val (.ref d0), .val (.ref d1), .val (.int (own_min n k2)), .val (.int ((1 : Int32) + (1 : Int32))), .val (.int (f 1)), .val (.int (f2 1))]) rfl k) ?_
          show Wp p e below _ (T10.setTop (mkF m 57 #[.val (.ref d0), .val (.ref d1), .val (.int (own_min n k2)), .val (.int ((1 : Int32) + (1 : Int32))), .val (.int (f 1)), .val (.int (f2 1))] []))
          rw [show ((1 : Int32) + (1 : Int32)) = (2 : Int32) from (by decide)]
          refine Wp.step (fun t k => XS.goto X10.here hx rfl (pc0 := 57) (pc' := 14) rfl (hb hby d6_57) (by decide) (by decide) k) ?_
          show Wp p e below _ (T10.setTop (mkF m 14 #[.val (.ref d0), .val (.ref d1), .val (.int (own_min n k2)), .val (.int (2 : Int32)), .val (.int (f 1)), .val (.int (f2 1))] []))
          refine Wp.step (fun t k => XS.iloadN X10.here hx rfl (hb hby d6_14) rfl k) ?_
          show Wp p e below _ (T10.setTop (mkF m 15 #[.val (.ref d0), .val (.ref d1), .val (.int (own_min n k2)), .val (.int (2 : Int32)), .val (.int (f 1)), .val (.int (f2 1))] [(.int (2 : Int32))]))
          refine Wp.step (fun t k => XS.iloadN X10.here hx rfl (hb hby d6_15) rfl k) ?_
          show Wp p e below _ (T10.setTop (mkF m 16 #[.val (.ref d0), .val (.ref d1), .val (.int (own_min n k2)), .val (.int (2 : Int32)), .val (.int (f 1)), .val (.int (f2 1))] [(.int (own_min n k2)), (.int (2 : Int32))]))
          refine Wp.step (fun t k => XS.icmpYes X10.here hx rfl (pc0 := 16) (pc' := 60) rfl (hb hby d6_16) rfl (flt (show ¬ ((2 : Int32) < (own_min n k2)) from own_min_no2 hA.n3)).2.1 (by decide) (by decide) k) ?_
          show Wp p e below _ (T10.setTop (mkF m 60 #[.val (.ref d0), .val (.ref d1), .val (.int (own_min n k2)), .val (.int (2 : Int32)), .val (.int (f 1)), .val (.int (f2 1))] []))
          refine Wp.step (fun t k => XS.aloadN X10.here hx rfl (hb hby d6_60) rfl rfl k) ?_
          show Wp p e below _ (T10.setTop (mkF m 61 #[.val (.ref d0), .val (.ref d1), .val (.int (own_min n k2)), .val (.int (2 : Int32)), .val (.int (f 1)), .val (.int (f2 1))] [(.ref d0)]))
          obtain ⟨cq13, kq13, q13a, q13b, q13c⟩ := isOf hZ e10 hA.exa
          obtain ⟨_, _, ⟨T13, L13, k13, n13⟩, -, X13, ⟨Lc13, hQ13, l13, y13, z13⟩, st13⟩ := X10.virtualBack hx (y := (⟨"java/lang/String", "length", "()I"⟩ : MethodName)) (z := (⟨"java/lang/String", "length", "()I"⟩ : MethodName)) hown (mvT hZ (hw _ (List.mem_of_getElem? (i := 33) rfl))) (mvT hZ (hw _ (List.mem_of_getElem? (i := 34) rfl))) (notFace_of_selects (args := #[]) (mvT hZ (hw _ (List.mem_of_getElem? (i := 36) rfl)))) (mvT hZ (hw _ (List.mem_of_getElem? (i := 36) rfl))) (mvT hZ (hw _ (List.mem_of_getElem? (i := 35) rfl))) (by decide) (backOf (W := 0) (rm7 l Z a0 hw [] d0 n f cs h0 n0 (Nat.le_trans Z0 K0.1) S_COMPACT_STRINGS_cs hcs hA) hZ (hw _ (List.mem_of_getElem? (i := 37) rfl)) (hw _ (List.mem_of_getElem? (i := 6) rfl)) (by decide) (by decide)) q13a q13c (g := (mkF m 61 #[.val (.ref d0), .val (.ref d1), .val (.int (own_min n k2)), .val (.int (2 : Int32)), .val (.int (f 1)), .val (.int (f2 1))] [(.ref d0)])) rfl (by rw [hml]; rfl) (Steps.refl _) (argsL := []) (rest := []) (lenOf pd_2829I rfl) rfl (by show 2 * 0 + _ ≤ _; exact Nat.le_of_eq rfl) (hb hby d6_61) (fun _ _ => ⟨rfl, e10, (by decide : 0 + 0 ≤ _), (by decide : 0 + 0 ≤ _)⟩)
          dsimp only [Pt.U, Pt.locs, Pt.cells, Pt.slots] at X13 l13 y13 z13 st13 hQ13
          subst l13 y13 z13
          obtain ⟨rfl, N13q, e13⟩ := hQ13
          have N13 := Fr.app N10 N13q
          refine Wp.go st13 ?_
          show Wp p e below _ (T13.setTop (mkF m 64 #[.val (.ref d0), .val (.ref d1), .val (.int (own_min n k2)), .val (.int (2 : Int32)), .val (.int (f 1)), .val (.int (f2 1))] [(.int n)]))
          refine Wp.step (fun t k => XS.aloadN X13.here hx rfl (hb hby d6_64) rfl rfl k) ?_
          show Wp p e below _ (T13.setTop (mkF m 65 #[.val (.ref d0), .val (.ref d1), .val (.int (own_min n k2)), .val (.int (2 : Int32)), .val (.int (f 1)), .val (.int (f2 1))] [(.ref d1), (.int n)]))
          obtain ⟨cq14, kq14, q14a, q14b, q14c⟩ := isOf hZ e13 hB.exa
          obtain ⟨_, _, ⟨T14, L14, k14, n14⟩, -, X14, ⟨Lc14, hQ14, l14, y14, z14⟩, st14⟩ := X13.virtualBack hx (y := (⟨"java/lang/String", "length", "()I"⟩ : MethodName)) (z := (⟨"java/lang/String", "length", "()I"⟩ : MethodName)) hown (mvT hZ (hw _ (List.mem_of_getElem? (i := 33) rfl))) (mvT hZ (hw _ (List.mem_of_getElem? (i := 34) rfl))) (notFace_of_selects (args := #[]) (mvT hZ (hw _ (List.mem_of_getElem? (i := 36) rfl)))) (mvT hZ (hw _ (List.mem_of_getElem? (i := 36) rfl))) (mvT hZ (hw _ (List.mem_of_getElem? (i := 35) rfl))) (by decide) (backOf (W := 1) (rm7 l Z a0 hw [] d1 k2 f2 cs h0 n0 (Nat.le_trans Z0 K0.1) S_COMPACT_STRINGS_cs hcs hB) hZ (hw _ (List.mem_of_getElem? (i := 37) rfl)) (hw _ (List.mem_of_getElem? (i := 6) rfl)) (by decide) (by decide)) q14a q14c (g := (mkF m 65 #[.val (.ref d0), .val (.ref d1), .val (.int (own_min n k2)), .val (.int (2 : Int32)), .val (.int (f 1)), .val (.int (f2 1))] [(.ref d1), (.int n)])) rfl (by rw [hml]; rfl) (Steps.refl _) (argsL := []) (rest := [(.int n)]) (lenOf pd_2829I rfl) rfl (by show 2 * 0 + _ ≤ _; exact Nat.le_of_eq rfl) (hb hby d6_65) (fun _ _ => ⟨rfl, e13, (by decide : 0 + 0 ≤ _), (by decide : 0 + 0 ≤ _)⟩)
          dsimp only [Pt.U, Pt.locs, Pt.cells, Pt.slots] at X14 l14 y14 z14 st14 hQ14
          subst l14 y14 z14
          obtain ⟨rfl, N14q, e14⟩ := hQ14
          have N14 := Fr.app N13 N14q
          refine Wp.go st14 ?_
          show Wp p e below _ (T14.setTop (mkF m 68 #[.val (.ref d0), .val (.ref d1), .val (.int (own_min n k2)), .val (.int (2 : Int32)), .val (.int (f 1)), .val (.int (f2 1))] [(.int k2), (.int n)]))
          obtain ⟨_, _, ⟨T15, L15, k15, n15⟩, -, X15, ⟨Lc15, hQ15, l15, y15, z15⟩, st15⟩ := Jvm.LawKit.callS X14 hx (y := (⟨"java/lang/Integer", "compare", "(II)I"⟩ : MethodName)) hown (mvT hZ (hw _ (List.mem_of_getElem? (i := 48) rfl))) (mvT hZ (hw _ (List.mem_of_getElem? (i := 49) rfl))) (mvT hZ (hw _ (List.mem_of_getElem? (i := 50) rfl))) (mvT hZ (hw _ (List.mem_of_getElem? (i := 51) rfl))) (by decide) (backOf (W := 0) (rm10 l Z a0 hw [] n k2  h0 n0 (Nat.le_trans Z0 K0.1)  ) hZ (hw _ (List.mem_of_getElem? (i := 51) rfl)) (hw _ (List.mem_of_getElem? (i := 50) rfl)) (by decide) (by decide)) (g := (mkF m 68 #[.val (.ref d0), .val (.ref d1), .val (.int (own_min n k2)), .val (.int (2 : Int32)), .val (.int (f 1)), .val (.int (f2 1))] [(.int k2), (.int n)])) rfl (by rw [hml]; rfl) (argsL := [(.int n), (.int k2)]) (rest := []) (lenOf pd_28II29I rfl) rfl (by show 2 * 0 + _ ≤ _; exact Nat.le_of_eq rfl) (hb hby d6_68) (fun _ _ => ⟨rfl, e14, (by decide : 0 + 0 ≤ _), (by decide : 0 + 0 ≤ _)⟩)
          dsimp only [Pt.U, Pt.locs, Pt.cells, Pt.slots] at X15 l15 y15 z15 st15 hQ15
          subst l15 y15 z15
          obtain ⟨rfl, N15q, e15⟩ := hQ15
          have N15 := Fr.app N14 N15q
          refine Wp.step st15 ?_
          show Wp p e below _ (T15.setTop (mkF m 71 #[.val (.ref d0), .val (.ref d1), .val (.int (own_min n k2)), .val (.int (2 : Int32)), .val (.int (f 1)), .val (.int (f2 1))] [(.int (own_icmp n k2))]))
          refine Wp.retI X15 hx Bd.returns (hb hby d6_71) hlk ?_ (by decide) (by decide)
          show Q6 Z d0 d1 n f k2 f2 cs fm h0 n0 (some (.int (own_icmp n k2))) T15.heap _
          rw [e15]
          exact ⟨(by rw [own_cs, if_pos hc4, if_pos hc7, if_pos hc8, if_pos hc11]), N15, rfl⟩
        · refine Wp.step (fun t k => XS.icmpNo X10.here hx rfl (hb hby d6_37) rfl (feq hc11).1 k) ?_
          show Wp p e below _ (T10.setTop (mkF m 40 #[.val (.ref d0), .val (.ref d1), .val (.int (own_min n k2)), .val (.int (1 : Int32)), .val (.int (f 1)), .val (.int (f2 1))] []))
          refine Wp.step (fun t k => XS.iload X10.here hx rfl (hb hby d6_40) rfl k) ?_
          show Wp p e below _ (T10.setTop (mkF m 42 #[.val (.ref d0), .val (.ref d1), .val (.int (own_min n k2)), .val (.int (1 : Int32)), .val (.int (f 1)), .val (.int (f2 1))] [(.int (f 1))]))
          obtain ⟨_, _, ⟨T16, L16, k16, n16⟩, -, X16, ⟨Lc16, hQ16, l16, y16, z16⟩, st16⟩ := Jvm.LawKit.callS X10 hx (y := (⟨"com/example/rank_merge/rankmerge/model/IdOrder", "codePointRank", "(C)I"⟩ : MethodName)) hown (mvT hZ (hw _ (List.mem_of_getElem? (i := 88) rfl))) (mvT hZ (hw _ (List.mem_of_getElem? (i := 89) rfl))) (mvT hZ (hw _ (List.mem_of_getElem? (i := 31) rfl))) (mvT hZ (hw _ (List.mem_of_getElem? (i := 90) rfl))) (by decide) (backOf (W := 0) (rm20 l Z a0 hw [] (f 1)  h0 n0 (Nat.le_trans Z0 K0.1)  ) hZ (hw _ (List.mem_of_getElem? (i := 90) rfl)) (hw _ (List.mem_of_getElem? (i := 31) rfl)) (by decide) (by decide)) (g := (mkF m 42 #[.val (.ref d0), .val (.ref d1), .val (.int (own_min n k2)), .val (.int (1 : Int32)), .val (.int (f 1)), .val (.int (f2 1))] [(.int (f 1))])) rfl (by rw [hml]; rfl) (argsL := [(.int (f 1))]) (rest := []) (lenOf pd_28C29I rfl) rfl (by show 2 * 0 + _ ≤ _; exact Nat.le_of_eq rfl) (hb hby d6_42) (fun _ _ => ⟨rfl, e10, (by decide : 0 + 0 ≤ _), (by decide : 0 + 0 ≤ _)⟩)
          dsimp only [Pt.U, Pt.locs, Pt.cells, Pt.slots] at X16 l16 y16 z16 st16 hQ16
          subst l16 y16 z16
          obtain ⟨rfl, N16q, e16⟩ := hQ16
          have N16 := Fr.app N10 N16q
          refine Wp.step st16 ?_
          show Wp p e below _ (T16.setTop (mkF m 45 #[.val (.ref d0), .val (.ref d1), .val (.int (own_min n k2)), .val (.int (1 : Int32)), .val (.int (f 1)), .val (.int (f2 1))] [(.int (own_rank (f 1)))]))
          refine Wp.step (fun t k => XS.iload X16.here hx rfl (hb hby d6_45) rfl k) ?_
          show Wp p e below _ (T16.setTop (mkF m 47 #[.val (.ref d0), .val (.ref d1), .val (.int (own_min n k2)), .val (.int (1 : Int32)), .val (.int (f 1)), .val (.int (f2 1))] [(.int (f2 1)), (.int (own_rank (f 1)))]))
          obtain ⟨_, _, ⟨T17, L17, k17, n17⟩, -, X17, ⟨Lc17, hQ17, l17, y17, z17⟩, st17⟩ := Jvm.LawKit.callS X16 hx (y := (⟨"com/example/rank_merge/rankmerge/model/IdOrder", "codePointRank", "(C)I"⟩ : MethodName)) hown (mvT hZ (hw _ (List.mem_of_getElem? (i := 88) rfl))) (mvT hZ (hw _ (List.mem_of_getElem? (i := 89) rfl))) (mvT hZ (hw _ (List.mem_of_getElem? (i := 31) rfl))) (mvT hZ (hw _ (List.mem_of_getElem? (i := 90) rfl))) (by decide) (backOf (W := 1) (rm20 l Z a0 hw [] (f2 1)  h0 n0 (Nat.le_trans Z0 K0.1)  ) hZ (hw _ (List.mem_of_getElem? (i := 90) rfl)) (hw _ (List.mem_of_getElem? (i := 31) rfl)) (by decide) (by decide)) (g := (mkF m 47 #[.val (.ref d0), .val (.ref d1), .val (.int (own_min n k2)), .val (.int (1 : Int32)), .val (.int (f 1)), .val (.int (f2 1))] [(.int (f2 1)), (.int (own_rank (f 1)))])) rfl (by rw [hml]; rfl) (argsL := [(.int (f2 1))]) (rest := [(.int (own_rank (f 1)))]) (lenOf pd_28C29I rfl) rfl (by show 2 * 0 + _ ≤ _; exact Nat.le_of_eq rfl) (hb hby d6_47) (fun _ _ => ⟨rfl, e16, (by decide : 0 + 0 ≤ _), (by decide : 0 + 0 ≤ _)⟩)
          dsimp only [Pt.U, Pt.locs, Pt.cells, Pt.slots] at X17 l17 y17 z17 st17 hQ17
          subst l17 y17 z17
          obtain ⟨rfl, N17q, e17⟩ := hQ17
          have N17 := Fr.app N16 N17q
          refine Wp.step st17 ?_
          show Wp p e below _ (T17.setTop (mkF m 50 #[.val (.ref d0), .val (.ref d1), .val (.int (own_min n k2)), .val (.int (1 : Int32)), .val (.int (f 1)), .val (.int (f2 1))] [(.int (own_rank (f2 1))), (.int (own_rank (f 1)))]))
          obtain ⟨_, _, ⟨T18, L18, k18, n18⟩, -, X18, ⟨Lc18, hQ18, l18, y18, z18⟩, st18⟩ := Jvm.LawKit.callS X17 hx (y := (⟨"java/lang/Integer", "compare", "(II)I"⟩ : MethodName)) hown (mvT hZ (hw _ (List.mem_of_getElem? (i := 48) rfl))) (mvT hZ (hw _ (List.mem_of_getElem? (i := 49) rfl))) (mvT hZ (hw _ (List.mem_of_getElem? (i := 50) rfl))) (mvT hZ (hw _ (List.mem_of_getElem? (i := 51) rfl))) (by decide) (backOf (W := 0) (rm10 l Z a0 hw [] (own_rank (f 1)) (own_rank (f2 1))  h0 n0 (Nat.le_trans Z0 K0.1)  ) hZ (hw _ (List.mem_of_getElem? (i := 51) rfl)) (hw _ (List.mem_of_getElem? (i := 50) rfl)) (by decide) (by decide)) (g := (mkF m 50 #[.val (.ref d0), .val (.ref d1), .val (.int (own_min n k2)), .val (.int (1 : Int32)), .val (.int (f 1)), .val (.int (f2 1))] [(.int (own_rank (f2 1))), (.int (own_rank (f 1)))])) rfl (by rw [hml]; rfl) (argsL := [(.int (own_rank (f 1))), (.int (own_rank (f2 1)))]) (rest := []) (lenOf pd_28II29I rfl) rfl (by show 2 * 0 + _ ≤ _; exact Nat.le_of_eq rfl) (hb hby d6_50) (fun _ _ => ⟨rfl, e17, (by decide : 0 + 0 ≤ _), (by decide : 0 + 0 ≤ _)⟩)
          dsimp only [Pt.U, Pt.locs, Pt.cells, Pt.slots] at X18 l18 y18 z18 st18 hQ18
          subst l18 y18 z18
          obtain ⟨rfl, N18q, e18⟩ := hQ18
          have N18 := Fr.app N17 N18q
          refine Wp.step st18 ?_
          show Wp p e below _ (T18.setTop (mkF m 53 #[.val (.ref d0), .val (.ref d1), .val (.int (own_min n k2)), .val (.int (1 : Int32)), .val (.int (f 1)), .val (.int (f2 1))] [(.int (own_icmp (own_rank (f 1)) (own_rank (f2 1))))]))
          refine Wp.retI X18 hx Bd.returns (hb hby d6_53) hlk ?_ (by decide) (by decide)
          show Q6 Z d0 d1 n f k2 f2 cs fm h0 n0 (some (.int (own_icmp (own_rank (f 1)) (own_rank (f2 1))))) T18.heap _
          rw [e18]
          exact ⟨(by rw [own_cs, if_pos hc4, if_pos hc7, if_pos hc8, if_neg hc11]), N18, rfl⟩
      · refine Wp.step (fun t k => XS.icmpYes X6.here hx rfl (pc0 := 16) (pc' := 60) rfl (hb hby d6_16) rfl (flt hc8).2.1 (by decide) (by decide) k) ?_
        show Wp p e below _ (T6.setTop (mkF m 60 #[.val (.ref d0), .val (.ref d1), .val (.int (own_min n k2)), .val (.int (1 : Int32)), .val (.int (f 0)), .val (.int (f2 0))] []))
        refine Wp.step (fun t k => XS.aloadN X6.here hx rfl (hb hby d6_60) rfl rfl k) ?_
        show Wp p e below _ (T6.setTop (mkF m 61 #[.val (.ref d0), .val (.ref d1), .val (.int (own_min n k2)), .val (.int (1 : Int32)), .val (.int (f 0)), .val (.int (f2 0))] [(.ref d0)]))
        obtain ⟨cq19, kq19, q19a, q19b, q19c⟩ := isOf hZ e6 hA.exa
        obtain ⟨_, _, ⟨T19, L19, k19, n19⟩, -, X19, ⟨Lc19, hQ19, l19, y19, z19⟩, st19⟩ := X6.virtualBack hx (y := (⟨"java/lang/String", "length", "()I"⟩ : MethodName)) (z := (⟨"java/lang/String", "length", "()I"⟩ : MethodName)) hown (mvT hZ (hw _ (List.mem_of_getElem? (i := 33) rfl))) (mvT hZ (hw _ (List.mem_of_getElem? (i := 34) rfl))) (notFace_of_selects (args := #[]) (mvT hZ (hw _ (List.mem_of_getElem? (i := 36) rfl)))) (mvT hZ (hw _ (List.mem_of_getElem? (i := 36) rfl))) (mvT hZ (hw _ (List.mem_of_getElem? (i := 35) rfl))) (by decide) (backOf (W := 0) (rm7 l Z a0 hw [] d0 n f cs h0 n0 (Nat.le_trans Z0 K0.1) S_COMPACT_STRINGS_cs hcs hA) hZ (hw _ (List.mem_of_getElem? (i := 37) rfl)) (hw _ (List.mem_of_getElem? (i := 6) rfl)) (by decide) (by decide)) q19a q19c (g := (mkF m 61 #[.val (.ref d0), .val (.ref d1), .val (.int (own_min n k2)), .val (.int (1 : Int32)), .val (.int (f 0)), .val (.int (f2 0))] [(.ref d0)])) rfl (by rw [hml]; rfl) (Steps.refl _) (argsL := []) (rest := []) (lenOf pd_2829I rfl) rfl (by show 2 * 0 + _ ≤ _; exact Nat.le_of_eq rfl) (hb hby d6_61) (fun _ _ => ⟨rfl, e6, (by decide : 0 + 0 ≤ _), (by decide : 0 + 0 ≤ _)⟩)
        dsimp only [Pt.U, Pt.locs, Pt.cells, Pt.slots] at X19 l19 y19 z19 st19 hQ19
        subst l19 y19 z19
        obtain ⟨rfl, N19q, e19⟩ := hQ19
        have N19 := Fr.app N6 N19q
        refine Wp.go st19 ?_
        show Wp p e below _ (T19.setTop (mkF m 64 #[.val (.ref d0), .val (.ref d1), .val (.int (own_min n k2)), .val (.int (1 : Int32)), .val (.int (f 0)), .val (.int (f2 0))] [(.int n)]))
        refine Wp.step (fun t k => XS.aloadN X19.here hx rfl (hb hby d6_64) rfl rfl k) ?_
        show Wp p e below _ (T19.setTop (mkF m 65 #[.val (.ref d0), .val (.ref d1), .val (.int (own_min n k2)), .val (.int (1 : Int32)), .val (.int (f 0)), .val (.int (f2 0))] [(.ref d1), (.int n)]))
        obtain ⟨cq20, kq20, q20a, q20b, q20c⟩ := isOf hZ e19 hB.exa
        obtain ⟨_, _, ⟨T20, L20, k20, n20⟩, -, X20, ⟨Lc20, hQ20, l20, y20, z20⟩, st20⟩ := X19.virtualBack hx (y := (⟨"java/lang/String", "length", "()I"⟩ : MethodName)) (z := (⟨"java/lang/String", "length", "()I"⟩ : MethodName)) hown (mvT hZ (hw _ (List.mem_of_getElem? (i := 33) rfl))) (mvT hZ (hw _ (List.mem_of_getElem? (i := 34) rfl))) (notFace_of_selects (args := #[]) (mvT hZ (hw _ (List.mem_of_getElem? (i := 36) rfl)))) (mvT hZ (hw _ (List.mem_of_getElem? (i := 36) rfl))) (mvT hZ (hw _ (List.mem_of_getElem? (i := 35) rfl))) (by decide) (backOf (W := 1) (rm7 l Z a0 hw [] d1 k2 f2 cs h0 n0 (Nat.le_trans Z0 K0.1) S_COMPACT_STRINGS_cs hcs hB) hZ (hw _ (List.mem_of_getElem? (i := 37) rfl)) (hw _ (List.mem_of_getElem? (i := 6) rfl)) (by decide) (by decide)) q20a q20c (g := (mkF m 65 #[.val (.ref d0), .val (.ref d1), .val (.int (own_min n k2)), .val (.int (1 : Int32)), .val (.int (f 0)), .val (.int (f2 0))] [(.ref d1), (.int n)])) rfl (by rw [hml]; rfl) (Steps.refl _) (argsL := []) (rest := [(.int n)]) (lenOf pd_2829I rfl) rfl (by show 2 * 0 + _ ≤ _; exact Nat.le_of_eq rfl) (hb hby d6_65) (fun _ _ => ⟨rfl, e19, (by decide : 0 + 0 ≤ _), (by decide : 0 + 0 ≤ _)⟩)
        dsimp only [Pt.U, Pt.locs, Pt.cells, Pt.slots] at X20 l20 y20 z20 st20 hQ20
        subst l20 y20 z20
        obtain ⟨rfl, N20q, e20⟩ := hQ20
        have N20 := Fr.app N19 N20q
        refine Wp.go st20 ?_
        show Wp p e below _ (T20.setTop (mkF m 68 #[.val (.ref d0), .val (.ref d1), .val (.int (own_min n k2)), .val (.int (1 : Int32)), .val (.int (f 0)), .val (.int (f2 0))] [(.int k2), (.int n)]))
        obtain ⟨_, _, ⟨T21, L21, k21, n21⟩, -, X21, ⟨Lc21, hQ21, l21, y21, z21⟩, st21⟩ := Jvm.LawKit.callS X20 hx (y := (⟨"java/lang/Integer", "compare", "(II)I"⟩ : MethodName)) hown (mvT hZ (hw _ (List.mem_of_getElem? (i := 48) rfl))) (mvT hZ (hw _ (List.mem_of_getElem? (i := 49) rfl))) (mvT hZ (hw _ (List.mem_of_getElem? (i := 50) rfl))) (mvT hZ (hw _ (List.mem_of_getElem? (i := 51) rfl))) (by decide) (backOf (W := 0) (rm10 l Z a0 hw [] n k2  h0 n0 (Nat.le_trans Z0 K0.1)  ) hZ (hw _ (List.mem_of_getElem? (i := 51) rfl)) (hw _ (List.mem_of_getElem? (i := 50) rfl)) (by decide) (by decide)) (g := (mkF m 68 #[.val (.ref d0), .val (.ref d1), .val (.int (own_min n k2)), .val (.int (1 : Int32)), .val (.int (f 0)), .val (.int (f2 0))] [(.int k2), (.int n)])) rfl (by rw [hml]; rfl) (argsL := [(.int n), (.int k2)]) (rest := []) (lenOf pd_28II29I rfl) rfl (by show 2 * 0 + _ ≤ _; exact Nat.le_of_eq rfl) (hb hby d6_68) (fun _ _ => ⟨rfl, e20, (by decide : 0 + 0 ≤ _), (by decide : 0 + 0 ≤ _)⟩)
        dsimp only [Pt.U, Pt.locs, Pt.cells, Pt.slots] at X21 l21 y21 z21 st21 hQ21
        subst l21 y21 z21
        obtain ⟨rfl, N21q, e21⟩ := hQ21
        have N21 := Fr.app N20 N21q
        refine Wp.step st21 ?_
        show Wp p e below _ (T21.setTop (mkF m 71 #[.val (.ref d0), .val (.ref d1), .val (.int (own_min n k2)), .val (.int (1 : Int32)), .val (.int (f 0)), .val (.int (f2 0))] [(.int (own_icmp n k2))]))
        refine Wp.retI X21 hx Bd.returns (hb hby d6_71) hlk ?_ (by decide) (by decide)
        show Q6 Z d0 d1 n f k2 f2 cs fm h0 n0 (some (.int (own_icmp n k2))) T21.heap _
        rw [e21]
        exact ⟨(by rw [own_cs, if_pos hc4, if_pos hc7, if_neg hc8]), N21, rfl⟩
    · refine Wp.step (fun t k => XS.icmpNo X6.here hx rfl (hb hby d6_37) rfl (feq hc7).1 k) ?_
      show Wp p e below _ (T6.setTop (mkF m 40 #[.val (.ref d0), .val (.ref d1), .val (.int (own_min n k2)), .val (.int (0 : Int32)), .val (.int (f 0)), .val (.int (f2 0))] []))
      refine Wp.step (fun t k => XS.iload X6.here hx rfl (hb hby d6_40) rfl k) ?_
      show Wp p e below _ (T6.setTop (mkF m 42 #[.val (.ref d0), .val (.ref d1), .val (.int (own_min n k2)), .val (.int (0 : Int32)), .val (.int (f 0)), .val (.int (f2 0))] [(.int (f 0))]))
      obtain ⟨_, _, ⟨T22, L22, k22, n22⟩, -, X22, ⟨Lc22, hQ22, l22, y22, z22⟩, st22⟩ := Jvm.LawKit.callS X6 hx (y := (⟨"com/example/rank_merge/rankmerge/model/IdOrder", "codePointRank", "(C)I"⟩ : MethodName)) hown (mvT hZ (hw _ (List.mem_of_getElem? (i := 88) rfl))) (mvT hZ (hw _ (List.mem_of_getElem? (i := 89) rfl))) (mvT hZ (hw _ (List.mem_of_getElem? (i := 31) rfl))) (mvT hZ (hw _ (List.mem_of_getElem? (i := 90) rfl))) (by decide) (backOf (W := 0) (rm20 l Z a0 hw [] (f 0)  h0 n0 (Nat.le_trans Z0 K0.1)  ) hZ (hw _ (List.mem_of_getElem? (i := 90) rfl)) (hw _ (List.mem_of_getElem? (i := 31) rfl)) (by decide) (by decide)) (g := (mkF m 42 #[.val (.ref d0), .val (.ref d1), .val (.int (own_min n k2)), .val (.int (0 : Int32)), .val (.int (f 0)), .val (.int (f2 0))] [(.int (f 0))])) rfl (by rw [hml]; rfl) (argsL := [(.int (f 0))]) (rest := []) (lenOf pd_28C29I rfl) rfl (by show 2 * 0 + _ ≤ _; exact Nat.le_of_eq rfl) (hb hby d6_42) (fun _ _ => ⟨rfl, e6, (by decide : 0 + 0 ≤ _), (by decide : 0 + 0 ≤ _)⟩)
      dsimp only [Pt.U, Pt.locs, Pt.cells, Pt.slots] at X22 l22 y22 z22 st22 hQ22
      subst l22 y22 z22
      obtain ⟨rfl, N22q, e22⟩ := hQ22
      have N22 := Fr.app N6 N22q
      refine Wp.step st22 ?_
      show Wp p e below _ (T22.setTop (mkF m 45 #[.val (.ref d0), .val (.ref d1), .val (.int (own_min n k2)), .val (.int (0 : Int32)), .val (.int (f 0)), .val (.int (f2 0))] [(.int (own_rank (f 0)))]))
      refine Wp.step (fun t k => XS.iload X22.here hx rfl (hb hby d6_45) rfl k) ?_
      show Wp p e below _ (T22.setTop (mkF m 47 #[.val (.ref d0), .val (.ref d1), .val (.int (own_min n k2)), .val (.int (0 : Int32)), .val (.int (f 0)), .val (.int (f2 0))] [(.int (f2 0)), (.int (own_rank (f 0)))]))
      obtain ⟨_, _, ⟨T23, L23, k23, n23⟩, -, X23, ⟨Lc23, hQ23, l23, y23, z23⟩, st23⟩ := Jvm.LawKit.callS X22 hx (y := (⟨"com/example/rank_merge/rankmerge/model/IdOrder", "codePointRank", "(C)I"⟩ : MethodName)) hown (mvT hZ (hw _ (List.mem_of_getElem? (i := 88) rfl))) (mvT hZ (hw _ (List.mem_of_getElem? (i := 89) rfl))) (mvT hZ (hw _ (List.mem_of_getElem? (i := 31) rfl))) (mvT hZ (hw _ (List.mem_of_getElem? (i := 90) rfl))) (by decide) (backOf (W := 1) (rm20 l Z a0 hw [] (f2 0)  h0 n0 (Nat.le_trans Z0 K0.1)  ) hZ (hw _ (List.mem_of_getElem? (i := 90) rfl)) (hw _ (List.mem_of_getElem? (i := 31) rfl)) (by decide) (by decide)) (g := (mkF m 47 #[.val (.ref d0), .val (.ref d1), .val (.int (own_min n k2)), .val (.int (0 : Int32)), .val (.int (f 0)), .val (.int (f2 0))] [(.int (f2 0)), (.int (own_rank (f 0)))])) rfl (by rw [hml]; rfl) (argsL := [(.int (f2 0))]) (rest := [(.int (own_rank (f 0)))]) (lenOf pd_28C29I rfl) rfl (by show 2 * 0 + _ ≤ _; exact Nat.le_of_eq rfl) (hb hby d6_47) (fun _ _ => ⟨rfl, e22, (by decide : 0 + 0 ≤ _), (by decide : 0 + 0 ≤ _)⟩)
      dsimp only [Pt.U, Pt.locs, Pt.cells, Pt.slots] at X23 l23 y23 z23 st23 hQ23
      subst l23 y23 z23
      obtain ⟨rfl, N23q, e23⟩ := hQ23
      have N23 := Fr.app N22 N23q
      refine Wp.step st23 ?_
      show Wp p e below _ (T23.setTop (mkF m 50 #[.val (.ref d0), .val (.ref d1), .val (.int (own_min n k2)), .val (.int (0 : Int32)), .val (.int (f 0)), .val (.int (f2 0))] [(.int (own_rank (f2 0))), (.int (own_rank (f 0)))]))
      obtain ⟨_, _, ⟨T24, L24, k24, n24⟩, -, X24, ⟨Lc24, hQ24, l24, y24, z24⟩, st24⟩ := Jvm.LawKit.callS X23 hx (y := (⟨"java/lang/Integer", "compare", "(II)I"⟩ : MethodName)) hown (mvT hZ (hw _ (List.mem_of_getElem? (i := 48) rfl))) (mvT hZ (hw _ (List.mem_of_getElem? (i := 49) rfl))) (mvT hZ (hw _ (List.mem_of_getElem? (i := 50) rfl))) (mvT hZ (hw _ (List.mem_of_getElem? (i := 51) rfl))) (by decide) (backOf (W := 0) (rm10 l Z a0 hw [] (own_rank (f 0)) (own_rank (f2 0))  h0 n0 (Nat.le_trans Z0 K0.1)  ) hZ (hw _ (List.mem_of_getElem? (i := 51) rfl)) (hw _ (List.mem_of_getElem? (i := 50) rfl)) (by decide) (by decide)) (g := (mkF m 50 #[.val (.ref d0), .val (.ref d1), .val (.int (own_min n k2)), .val (.int (0 : Int32)), .val (.int (f 0)), .val (.int (f2 0))] [(.int (own_rank (f2 0))), (.int (own_rank (f 0)))])) rfl (by rw [hml]; rfl) (argsL := [(.int (own_rank (f 0))), (.int (own_rank (f2 0)))]) (rest := []) (lenOf pd_28II29I rfl) rfl (by show 2 * 0 + _ ≤ _; exact Nat.le_of_eq rfl) (hb hby d6_50) (fun _ _ => ⟨rfl, e23, (by decide : 0 + 0 ≤ _), (by decide : 0 + 0 ≤ _)⟩)
      dsimp only [Pt.U, Pt.locs, Pt.cells, Pt.slots] at X24 l24 y24 z24 st24 hQ24
      subst l24 y24 z24
      obtain ⟨rfl, N24q, e24⟩ := hQ24
      have N24 := Fr.app N23 N24q
      refine Wp.step st24 ?_
      show Wp p e below _ (T24.setTop (mkF m 53 #[.val (.ref d0), .val (.ref d1), .val (.int (own_min n k2)), .val (.int (0 : Int32)), .val (.int (f 0)), .val (.int (f2 0))] [(.int (own_icmp (own_rank (f 0)) (own_rank (f2 0))))]))
      refine Wp.retI X24 hx Bd.returns (hb hby d6_53) hlk ?_ (by decide) (by decide)
      show Q6 Z d0 d1 n f k2 f2 cs fm h0 n0 (some (.int (own_icmp (own_rank (f 0)) (own_rank (f2 0))))) T24.heap _
      rw [e24]
      exact ⟨(by rw [own_cs, if_pos hc4, if_neg hc7]), N24, rfl⟩
  · refine Wp.step (fun t k => XS.icmpYes X3.here hx rfl (pc0 := 16) (pc' := 60) rfl (hb hby d6_16) rfl (flt hc4).2.1 (by decide) (by decide) k) ?_
    show Wp p e below _ (T3.setTop (mkF m 60 #[.val (.ref d0), .val (.ref d1), .val (.int (own_min n k2)), .val (.int (0 : Int32)), .unset, .unset] []))
    refine Wp.step (fun t k => XS.aloadN X3.here hx rfl (hb hby d6_60) rfl rfl k) ?_
    show Wp p e below _ (T3.setTop (mkF m 61 #[.val (.ref d0), .val (.ref d1), .val (.int (own_min n k2)), .val (.int (0 : Int32)), .unset, .unset] [(.ref d0)]))
    obtain ⟨cq25, kq25, q25a, q25b, q25c⟩ := isOf hZ e3 hA.exa
    obtain ⟨_, _, ⟨T25, L25, k25, n25⟩, -, X25, ⟨Lc25, hQ25, l25, y25, z25⟩, st25⟩ := X3.virtualBack hx (y := (⟨"java/lang/String", "length", "()I"⟩ : MethodName)) (z := (⟨"java/lang/String", "length", "()I"⟩ : MethodName)) hown (mvT hZ (hw _ (List.mem_of_getElem? (i := 33) rfl))) (mvT hZ (hw _ (List.mem_of_getElem? (i := 34) rfl))) (notFace_of_selects (args := #[]) (mvT hZ (hw _ (List.mem_of_getElem? (i := 36) rfl)))) (mvT hZ (hw _ (List.mem_of_getElem? (i := 36) rfl))) (mvT hZ (hw _ (List.mem_of_getElem? (i := 35) rfl))) (by decide) (backOf (W := 0) (rm7 l Z a0 hw [] d0 n f cs h0 n0 (Nat.le_trans Z0 K0.1) S_COMPACT_STRINGS_cs hcs hA) hZ (hw _ (List.mem_of_getElem? (i := 37) rfl)) (hw _ (List.mem_of_getElem? (i := 6) rfl)) (by decide) (by decide)) q25a q25c (g := (mkF m 61 #[.val (.ref d0), .val (.ref d1), .val (.int (own_min n k2)), .val (.int (0 : Int32)), .unset, .unset] [(.ref d0)])) rfl (by rw [hml]; rfl) (Steps.refl _) (argsL := []) (rest := []) (lenOf pd_2829I rfl) rfl (by show 2 * 0 + _ ≤ _; exact Nat.le_of_eq rfl) (hb hby d6_61) (fun _ _ => ⟨rfl, e3, (by decide : 0 + 0 ≤ _), (by decide : 0 + 0 ≤ _)⟩)
    dsimp only [Pt.U, Pt.locs, Pt.cells, Pt.slots] at X25 l25 y25 z25 st25 hQ25
    subst l25 y25 z25
    obtain ⟨rfl, N25q, e25⟩ := hQ25
    have N25 := Fr.app N3 N25q
    refine Wp.go st25 ?_
    show Wp p e below _ (T25.setTop (mkF m 64 #[.val (.ref d0), .val (.ref d1), .val (.int (own_min n k2)), .val (.int (0 : Int32)), .unset, .unset] [(.int n)]))
    refine Wp.step (fun t k => XS.aloadN X25.here hx rfl (hb hby d6_64) rfl rfl k) ?_
    show Wp p e below _ (T25.setTop (mkF m 65 #[.val (.ref d0), .val (.ref d1), .val (.int (own_min n k2)), .val (.int (0 : Int32)), .unset, .unset] [(.ref d1), (.int n)]))
    obtain ⟨cq26, kq26, q26a, q26b, q26c⟩ := isOf hZ e25 hB.exa
    obtain ⟨_, _, ⟨T26, L26, k26, n26⟩, -, X26, ⟨Lc26, hQ26, l26, y26, z26⟩, st26⟩ := X25.virtualBack hx (y := (⟨"java/lang/String", "length", "()I"⟩ : MethodName)) (z := (⟨"java/lang/String", "length", "()I"⟩ : MethodName)) hown (mvT hZ (hw _ (List.mem_of_getElem? (i := 33) rfl))) (mvT hZ (hw _ (List.mem_of_getElem? (i := 34) rfl))) (notFace_of_selects (args := #[]) (mvT hZ (hw _ (List.mem_of_getElem? (i := 36) rfl)))) (mvT hZ (hw _ (List.mem_of_getElem? (i := 36) rfl))) (mvT hZ (hw _ (List.mem_of_getElem? (i := 35) rfl))) (by decide) (backOf (W := 1) (rm7 l Z a0 hw [] d1 k2 f2 cs h0 n0 (Nat.le_trans Z0 K0.1) S_COMPACT_STRINGS_cs hcs hB) hZ (hw _ (List.mem_of_getElem? (i := 37) rfl)) (hw _ (List.mem_of_getElem? (i := 6) rfl)) (by decide) (by decide)) q26a q26c (g := (mkF m 65 #[.val (.ref d0), .val (.ref d1), .val (.int (own_min n k2)), .val (.int (0 : Int32)), .unset, .unset] [(.ref d1), (.int n)])) rfl (by rw [hml]; rfl) (Steps.refl _) (argsL := []) (rest := [(.int n)]) (lenOf pd_2829I rfl) rfl (by show 2 * 0 + _ ≤ _; exact Nat.le_of_eq rfl) (hb hby d6_65) (fun _ _ => ⟨rfl, e25, (by decide : 0 + 0 ≤ _), (by decide : 0 + 0 ≤ _)⟩)
    dsimp only [Pt.U, Pt.locs, Pt.cells, Pt.slots] at X26 l26 y26 z26 st26 hQ26
    subst l26 y26 z26
    obtain ⟨rfl, N26q, e26⟩ := hQ26
    have N26 := Fr.app N25 N26q
    refine Wp.go st26 ?_
    show Wp p e below _ (T26.setTop (mkF m 68 #[.val (.ref d0), .val (.ref d1), .val (.int (own_min n k2)), .val (.int (0 : Int32)), .unset, .unset] [(.int k2), (.int n)]))
    obtain ⟨_, _, ⟨T27, L27, k27, n27⟩, -, X27, ⟨Lc27, hQ27, l27, y27, z27⟩, st27⟩ := Jvm.LawKit.callS X26 hx (y := (⟨"java/lang/Integer", "compare", "(II)I"⟩ : MethodName)) hown (mvT hZ (hw _ (List.mem_of_getElem? (i := 48) rfl))) (mvT hZ (hw _ (List.mem_of_getElem? (i := 49) rfl))) (mvT hZ (hw _ (List.mem_of_getElem? (i := 50) rfl))) (mvT hZ (hw _ (List.mem_of_getElem? (i := 51) rfl))) (by decide) (backOf (W := 0) (rm10 l Z a0 hw [] n k2  h0 n0 (Nat.le_trans Z0 K0.1)  ) hZ (hw _ (List.mem_of_getElem? (i := 51) rfl)) (hw _ (List.mem_of_getElem? (i := 50) rfl)) (by decide) (by decide)) (g := (mkF m 68 #[.val (.ref d0), .val (.ref d1), .val (.int (own_min n k2)), .val (.int (0 : Int32)), .unset, .unset] [(.int k2), (.int n)])) rfl (by rw [hml]; rfl) (argsL := [(.int n), (.int k2)]) (rest := []) (lenOf pd_28II29I rfl) rfl (by show 2 * 0 + _ ≤ _; exact Nat.le_of_eq rfl) (hb hby d6_68) (fun _ _ => ⟨rfl, e26, (by decide : 0 + 0 ≤ _), (by decide : 0 + 0 ≤ _)⟩)
    dsimp only [Pt.U, Pt.locs, Pt.cells, Pt.slots] at X27 l27 y27 z27 st27 hQ27
    subst l27 y27 z27
    obtain ⟨rfl, N27q, e27⟩ := hQ27
    have N27 := Fr.app N26 N27q
    refine Wp.step st27 ?_
    show Wp p e below _ (T27.setTop (mkF m 71 #[.val (.ref d0), .val (.ref d1), .val (.int (own_min n k2)), .val (.int (0 : Int32)), .unset, .unset] [(.int (own_icmp n k2))]))
    refine Wp.retI X27 hx Bd.returns (hb hby d6_71) hlk ?_ (by decide) (by decide)
    show Q6 Z d0 d1 n f k2 f2 cs fm h0 n0 (some (.int (own_icmp n k2))) T27.heap _
    rw [e27]
    exact ⟨(by rw [own_cs, if_neg hc4]), N27, rfl⟩
theorem pd_28ICC29Ljava2flang2fString3b : parseMethodDescriptor "(ICC)Ljava/lang/String;" = some ⟨[.int, .char, .char], some (.object "java/lang/String")⟩ := by decide +kernel
theorem pd_28Ljava2flang2fString3bLjava2flang2fString3b29I : parseMethodDescriptor "(Ljava/lang/String;Ljava/lang/String;)I" = some ⟨[(.object "java/lang/String"), (.object "java/lang/String")], some .int⟩ := by decide +kernel
theorem ef_0_00000 (m : MethodId) (x0 : Int32) (x1 : Int32) (x2 : Int32) (x3 : Int32) (x4 : Int32) : entryFrame m #[(.int x0), (.int x1), (.int x2), (.int x3), (.int x4)] maxLocals = mkF m 0 #[.val (.int x0), .val (.int x1), .val (.int x2), .val (.int x3), .val (.int x4), .unset, .unset, .unset, .unset, .unset, .unset, .unset, .unset, .unset, .unset, .unset] [] := by first | (simp [entryFrame, mkF, argsToLocals, Value.category, maxLocals]; done) | rfl
def Q0 (Z : State) (u0 : Int32) (u1 : Int32) (u2 : Int32) (u3 : Int32) (u4 : Int32) (cs : Int32) (fm : Value) (h0 : Heap) (n0 : Nat) (v : Option Value) (h : Heap) (L : List Loc) : Prop := v = some (.int 1) ∧ Fr n0 L
set_option maxRecDepth 65536 in
set_option maxHeartbeats 40000000 in
theorem rm0 (l : Launch) (Z : State) (a0 : Array Value) (hw : ∀ d ∈ tables_1, d.before a0 Z = true) (ws : List Jvm.Cond) (u0 : Int32) (u1 : Int32) (u2 : Int32) (u3 : Int32) (u4 : Int32) (cs : Int32) (fm : Value) (h0 : Heap) (n0 : Nat) (Z0 : n0 ≤ h0.size) (S_COMPACT_STRINGS_cs : Sta Z h0 "java/lang/String" "COMPACT_STRINGS" "Z" (.int cs)) (S_SIOOBE_FORMATTER_fm : Sta Z h0 "jdk/internal/util/Preconditions" "SIOOBE_FORMATTER" "Ljava/util/function/BiFunction;" fm) (S_assertionsDisabled_1Int32 : Sta Z h0 "java/lang/StringUTF16" "$assertionsDisabled" "Z" (.int (1 : Int32))) (S_HI_BYTE_SHIFT_0Int32 : Sta Z h0 "java/lang/StringUTF16" "HI_BYTE_SHIFT" "I" (.int (0 : Int32))) (S_LO_BYTE_SHIFT_8Int32 : Sta Z h0 "java/lang/StringUTF16" "LO_BYTE_SHIFT" "I" (.int (8 : Int32))) (hcs : ¬ cs = 0) (hfm : fm = .null ∨ ∃ z, fm = .ref z) (hCH : Jvm.Lit.constHeld Z "java/lang/String" 7) (hcw : Jvm.Lit.compactW.before a0 Z = true) :
    MetFree l x (head1 (Jvm.Cond.code x code maxLocals ret :: ws) room_1) (fun a U => a = #[(.int u0), (.int u1), (.int u2), (.int u3), (.int u4)] ∧ (Z.Warmed39 U.vm ∧ own_T Z U.vm h0) ∧ U.heap = h0) (fun _ _ _ _ _ => True) (fun _ U o U' => ∃ v L, o = .returned v ∧ (Q0 Z u0 u1 u2 u3 u4 cs fm h0 n0 v U'.heap L ∧ own_T Z U'.vm U'.heap) ∧ ReturnedEndW U o U' L room_1.cells room_1.slots) := by
  refine MetFree.of_bodySF (plainFor_of_name pn_com_example_rank_merge_rankmerge_model_IdOrderComparePinLaw) hisR ?_
  intro p e s m args below meth c s₁ Bd hml0 hP hK
  obtain ⟨rfl, ⟨hZ, hT⟩, hh⟩ := hP
  have hx := Bd.exec
  have hby := Bd.bytes
  have hlk : meth.locks = false := Bd.notSynchronized
  have hml : c.maxLocals = 16 := hml0
  have hown : s.vm.findClass "com/example/rank_merge/rankmerge/model/IdOrderComparePinLaw" = some m.cls := findClass_of_methodNamed Bd.named
  have hnm := (name_of_methodNamed Bd.named Bd.method).1
  have X0 : Stand p l e room_1 s m #[(.int u0), (.int u1), (.int u2), (.int u3), (.int u4)] below meth c s₁ [] 0 0 := Stand.of_body Bd
  have e0 : s₁.heap = h0 := by rw [← hh, Bd.state]; rfl
  have N0 := Fr.nil n0
  have K0 : Keep h0 h0 [] := Keep.refl h0 _
  show Wp p e below (OutX Z s (Q0 Z u0 u1 u2 u3 u4 cs fm h0 n0) room_1.cells room_1.slots) (s₁.setTop (entryFrame m #[(.int u0), (.int u1), (.int u2), (.int u3), (.int u4)] maxLocals))
  rw [ef_0_00000]
  have X0 : Stand p l e room_1 (s.setVm s.vm) m #[(.int u0), (.int u1), (.int u2), (.int u3), (.int u4)] below meth c s₁ [] 0 0 := X0
  have hS : s.Since s.vm 0 := (State.WarmedH.refl s).since 0
  have hk : 0 ≤ h0.size := Nat.zero_le _
  have hZ : Z.Warmed39 (s.setVm s.vm).vm := hZ
  have hown : (s.setVm s.vm).vm.findClass "com/example/rank_merge/rankmerge/model/IdOrderComparePinLaw" = some m.cls := hown
  have hT : own_T Z (s.setVm s.vm).vm h0 := hT
  show Wp p e below _ (s₁.setTop (mkF m 0 #[.val (.int u0), .val (.int u1), .val (.int u2), .val (.int u3), .val (.int u4), .unset, .unset, .unset, .unset, .unset, .unset, .unset, .unset, .unset, .unset, .unset] []))
  refine Wp.step (fun t k => XS.iload X0.here hx rfl (hb hby at_0) rfl k) ?_
  show Wp p e below _ (s₁.setTop (mkF m 2 #[.val (.int u0), .val (.int u1), .val (.int u2), .val (.int u3), .val (.int u4), .unset, .unset, .unset, .unset, .unset, .unset, .unset, .unset, .unset, .unset, .unset] [(.int u4)]))
  refine Wp.step (fun t k => XS.iconst X0.here hx rfl (hb hby at_2) k) ?_
  show Wp p e below _ (s₁.setTop (mkF m 3 #[.val (.int u0), .val (.int u1), .val (.int u2), .val (.int u3), .val (.int u4), .unset, .unset, .unset, .unset, .unset, .unset, .unset, .unset, .unset, .unset, .unset] [(.int (3 : Int32)), (.int u4)]))
  refine Wp.step (fun t k => XS.iand X0.here hx rfl (hb hby at_3) rfl k) ?_
  show Wp p e below _ (s₁.setTop (mkF m 4 #[.val (.int u0), .val (.int u1), .val (.int u2), .val (.int u3), .val (.int u4), .unset, .unset, .unset, .unset, .unset, .unset, .unset, .unset, .unset, .unset, .unset] [(.int (u4 &&& (3 : Int32)))]))
  refine Wp.step (fun t k => XS.iconst X0.here hx rfl (hb hby at_4) k) ?_
  show Wp p e below _ (s₁.setTop (mkF m 5 #[.val (.int u0), .val (.int u1), .val (.int u2), .val (.int u3), .val (.int u4), .unset, .unset, .unset, .unset, .unset, .unset, .unset, .unset, .unset, .unset, .unset] [(.int (3 : Int32)), (.int (u4 &&& (3 : Int32)))]))
  refine Wp.step (fun t k => Jvm.RoadKit.iremM X0 hx rfl (hb hby at_5) rfl (by decide) k) ?_
  show Wp p e below _ (s₁.setTop (mkF m 6 #[.val (.int u0), .val (.int u1), .val (.int u2), .val (.int u3), .val (.int u4), .unset, .unset, .unset, .unset, .unset, .unset, .unset, .unset, .unset, .unset, .unset] [(.int ((u4 &&& (3 : Int32)) % (3 : Int32)))]))
  generalize hz_la : ((u4 &&& (3 : Int32)) % (3 : Int32)) = la
  refine Wp.step (fun t k => XS.istore X0.here hx rfl (hb hby at_6) rfl (l' := #[.val (.int u0), .val (.int u1), .val (.int u2), .val (.int u3), .val (.int u4), .val (.int la), .unset, .unset, .unset, .unset, .unset, .unset, .unset, .unset, .unset, .unset]) rfl k) ?_
  show Wp p e below _ (s₁.setTop (mkF m 8 #[.val (.int u0), .val (.int u1), .val (.int u2), .val (.int u3), .val (.int u4), .val (.int la), .unset, .unset, .unset, .unset, .unset, .unset, .unset, .unset, .unset, .unset] []))
  have hla : own_n3 la := hz_la ▸ own_rem3 _
  refine Wp.step (fun t k => XS.iload X0.here hx rfl (hb hby at_8) rfl k) ?_
  show Wp p e below _ (s₁.setTop (mkF m 10 #[.val (.int u0), .val (.int u1), .val (.int u2), .val (.int u3), .val (.int u4), .val (.int la), .unset, .unset, .unset, .unset, .unset, .unset, .unset, .unset, .unset, .unset] [(.int u4)]))
  refine Wp.step (fun t k => XS.iconst X0.here hx rfl (hb hby at_10) k) ?_
  show Wp p e below _ (s₁.setTop (mkF m 11 #[.val (.int u0), .val (.int u1), .val (.int u2), .val (.int u3), .val (.int u4), .val (.int la), .unset, .unset, .unset, .unset, .unset, .unset, .unset, .unset, .unset, .unset] [(.int (4 : Int32)), (.int u4)]))
  refine Wp.step (fun t k => XS.iushr X0.here hx rfl (hb hby at_11) rfl k) ?_
  show Wp p e below _ (s₁.setTop (mkF m 12 #[.val (.int u0), .val (.int u1), .val (.int u2), .val (.int u3), .val (.int u4), .val (.int la), .unset, .unset, .unset, .unset, .unset, .unset, .unset, .unset, .unset, .unset] [(.int ((u4.toUInt32 >>> ((4 : Int32) &&& 31).toUInt32).toInt32))]))
  refine Wp.step (fun t k => XS.iconst X0.here hx rfl (hb hby at_12) k) ?_
  show Wp p e below _ (s₁.setTop (mkF m 13 #[.val (.int u0), .val (.int u1), .val (.int u2), .val (.int u3), .val (.int u4), .val (.int la), .unset, .unset, .unset, .unset, .unset, .unset, .unset, .unset, .unset, .unset] [(.int (3 : Int32)), (.int ((u4.toUInt32 >>> ((4 : Int32) &&& 31).toUInt32).toInt32))]))
  refine Wp.step (fun t k => XS.iand X0.here hx rfl (hb hby at_13) rfl k) ?_
  show Wp p e below _ (s₁.setTop (mkF m 14 #[.val (.int u0), .val (.int u1), .val (.int u2), .val (.int u3), .val (.int u4), .val (.int la), .unset, .unset, .unset, .unset, .unset, .unset, .unset, .unset, .unset, .unset] [(.int (((u4.toUInt32 >>> ((4 : Int32) &&& 31).toUInt32).toInt32) &&& (3 : Int32)))]))
  refine Wp.step (fun t k => XS.iconst X0.here hx rfl (hb hby at_14) k) ?_
  show Wp p e below _ (s₁.setTop (mkF m 15 #[.val (.int u0), .val (.int u1), .val (.int u2), .val (.int u3), .val (.int u4), .val (.int la), .unset, .unset, .unset, .unset, .unset, .unset, .unset, .unset, .unset, .unset] [(.int (3 : Int32)), (.int (((u4.toUInt32 >>> ((4 : Int32) &&& 31).toUInt32).toInt32) &&& (3 : Int32)))]))
  refine Wp.step (fun t k => Jvm.RoadKit.iremM X0 hx rfl (hb hby at_15) rfl (by decide) k) ?_
  show Wp p e below _ (s₁.setTop (mkF m 16 #[.val (.int u0), .val (.int u1), .val (.int u2), .val (.int u3), .val (.int u4), .val (.int la), .unset, .unset, .unset, .unset, .unset, .unset, .unset, .unset, .unset, .unset] [(.int ((((u4.toUInt32 >>> ((4 : Int32) &&& 31).toUInt32).toInt32) &&& (3 : Int32)) % (3 : Int32)))]))
  generalize hz_lb : ((((u4.toUInt32 >>> ((4 : Int32) &&& 31).toUInt32).toInt32) &&& (3 : Int32)) % (3 : Int32)) = lb
  refine Wp.step (fun t k => XS.istore X0.here hx rfl (hb hby at_16) rfl (l' := #[.val (.int u0), .val (.int u1), .val (.int u2), .val (.int u3), .val (.int u4), .val (.int la), .val (.int lb), .unset, .unset, .unset, .unset, .unset, .unset, .unset, .unset, .unset]) rfl k) ?_
  show Wp p e below _ (s₁.setTop (mkF m 18 #[.val (.int u0), .val (.int u1), .val (.int u2), .val (.int u3), .val (.int u4), .val (.int la), .val (.int lb), .unset, .unset, .unset, .unset, .unset, .unset, .unset, .unset, .unset] []))
  have hlb : own_n3 lb := hz_lb ▸ own_rem3 _
  refine Wp.step (fun t k => XS.iloadN X0.here hx rfl (hb hby at_18) rfl k) ?_
  show Wp p e below _ (s₁.setTop (mkF m 19 #[.val (.int u0), .val (.int u1), .val (.int u2), .val (.int u3), .val (.int u4), .val (.int la), .val (.int lb), .unset, .unset, .unset, .unset, .unset, .unset, .unset, .unset, .unset] [(.int u0)]))
  refine Wp.step (fun t k => XS.i2c X0.here hx rfl (hb hby at_19) rfl k) ?_
  show Wp p e below _ (s₁.setTop (mkF m 20 #[.val (.int u0), .val (.int u1), .val (.int u2), .val (.int u3), .val (.int u4), .val (.int la), .val (.int lb), .unset, .unset, .unset, .unset, .unset, .unset, .unset, .unset, .unset] [(.int (u0.toUInt32.toUInt16.toUInt32.toInt32))]))
  generalize hz_ca0 : (u0.toUInt32.toUInt16.toUInt32.toInt32) = ca0
  refine Wp.step (fun t k => XS.istore X0.here hx rfl (hb hby at_20) rfl (l' := #[.val (.int u0), .val (.int u1), .val (.int u2), .val (.int u3), .val (.int u4), .val (.int la), .val (.int lb), .val (.int ca0), .unset, .unset, .unset, .unset, .unset, .unset, .unset, .unset]) rfl k) ?_
  show Wp p e below _ (s₁.setTop (mkF m 22 #[.val (.int u0), .val (.int u1), .val (.int u2), .val (.int u3), .val (.int u4), .val (.int la), .val (.int lb), .val (.int ca0), .unset, .unset, .unset, .unset, .unset, .unset, .unset, .unset] []))
  have hC0 : own_isC ca0 := by rw [← hz_ca0]; exact own_i2c_isC _
  refine Wp.step (fun t k => XS.iloadN X0.here hx rfl (hb hby at_22) rfl k) ?_
  show Wp p e below _ (s₁.setTop (mkF m 23 #[.val (.int u0), .val (.int u1), .val (.int u2), .val (.int u3), .val (.int u4), .val (.int la), .val (.int lb), .val (.int ca0), .unset, .unset, .unset, .unset, .unset, .unset, .unset, .unset] [(.int u1)]))
  refine Wp.step (fun t k => XS.i2c X0.here hx rfl (hb hby at_23) rfl k) ?_
  show Wp p e below _ (s₁.setTop (mkF m 24 #[.val (.int u0), .val (.int u1), .val (.int u2), .val (.int u3), .val (.int u4), .val (.int la), .val (.int lb), .val (.int ca0), .unset, .unset, .unset, .unset, .unset, .unset, .unset, .unset] [(.int (u1.toUInt32.toUInt16.toUInt32.toInt32))]))
  generalize hz_ca1 : (u1.toUInt32.toUInt16.toUInt32.toInt32) = ca1
  refine Wp.step (fun t k => XS.istore X0.here hx rfl (hb hby at_24) rfl (l' := #[.val (.int u0), .val (.int u1), .val (.int u2), .val (.int u3), .val (.int u4), .val (.int la), .val (.int lb), .val (.int ca0), .val (.int ca1), .unset, .unset, .unset, .unset, .unset, .unset, .unset]) rfl k) ?_
  show Wp p e below _ (s₁.setTop (mkF m 26 #[.val (.int u0), .val (.int u1), .val (.int u2), .val (.int u3), .val (.int u4), .val (.int la), .val (.int lb), .val (.int ca0), .val (.int ca1), .unset, .unset, .unset, .unset, .unset, .unset, .unset] []))
  have hC1 : own_isC ca1 := by rw [← hz_ca1]; exact own_i2c_isC _
  refine Wp.step (fun t k => XS.iload X0.here hx rfl (hb hby at_26) rfl k) ?_
  show Wp p e below _ (s₁.setTop (mkF m 28 #[.val (.int u0), .val (.int u1), .val (.int u2), .val (.int u3), .val (.int u4), .val (.int la), .val (.int lb), .val (.int ca0), .val (.int ca1), .unset, .unset, .unset, .unset, .unset, .unset, .unset] [(.int u4)]))
  refine Wp.step (fun t k => XS.iconst X0.here hx rfl (hb hby at_28) k) ?_
  show Wp p e below _ (s₁.setTop (mkF m 29 #[.val (.int u0), .val (.int u1), .val (.int u2), .val (.int u3), .val (.int u4), .val (.int la), .val (.int lb), .val (.int ca0), .val (.int ca1), .unset, .unset, .unset, .unset, .unset, .unset, .unset] [(.int (4 : Int32)), (.int u4)]))
  refine Wp.step (fun t k => XS.iand X0.here hx rfl (hb hby at_29) rfl k) ?_
  show Wp p e below _ (s₁.setTop (mkF m 30 #[.val (.int u0), .val (.int u1), .val (.int u2), .val (.int u3), .val (.int u4), .val (.int la), .val (.int lb), .val (.int ca0), .val (.int ca1), .unset, .unset, .unset, .unset, .unset, .unset, .unset] [(.int (u4 &&& (4 : Int32)))]))
  have kont1 : ∀ (cb0 : Int32) (hD0 : own_isC cb0), Wp p e below (OutX Z s (Q0 Z u0 u1 u2 u3 u4 cs fm h0 n0) room_1.cells room_1.slots) (s₁.setTop (mkF m 40 #[.val (.int u0), .val (.int u1), .val (.int u2), .val (.int u3), .val (.int u4), .val (.int la), .val (.int lb), .val (.int ca0), .val (.int ca1), .unset, .unset, .unset, .unset, .unset, .unset, .unset] [(.int cb0)])) := by
    intro cb0 hD0
    refine Wp.step (fun t k => XS.istore X0.here hx rfl (hb hby at_40) rfl (l' := #[.val (.int u0), .val (.int u1), .val (.int u2), .val (.int u3), .val (.int u4), .val (.int la), .val (.int lb), .val (.int ca0), .val (.int ca1), .val (.int cb0), .unset, .unset, .unset, .unset, .unset, .unset]) rfl k) ?_
    show Wp p e below _ (s₁.setTop (mkF m 42 #[.val (.int u0), .val (.int u1), .val (.int u2), .val (.int u3), .val (.int u4), .val (.int la), .val (.int lb), .val (.int ca0), .val (.int ca1), .val (.int cb0), .unset, .unset, .unset, .unset, .unset, .unset] []))
    refine Wp.step (fun t k => XS.iload X0.here hx rfl (hb hby at_42) rfl k) ?_
    show Wp p e below _ (s₁.setTop (mkF m 44 #[.val (.int u0), .val (.int u1), .val (.int u2), .val (.int u3), .val (.int u4), .val (.int la), .val (.int lb), .val (.int ca0), .val (.int ca1), .val (.int cb0), .unset, .unset, .unset, .unset, .unset, .unset] [(.int u4)]))
    refine Wp.step (fun t k => XS.bipush X0.here hx rfl (hb hby at_44) k) ?_
    show Wp p e below _ (s₁.setTop (mkF m 46 #[.val (.int u0), .val (.int u1), .val (.int u2), .val (.int u3), .val (.int u4), .val (.int la), .val (.int lb), .val (.int ca0), .val (.int ca1), .val (.int cb0), .unset, .unset, .unset, .unset, .unset, .unset] [(.int (8 : Int32)), (.int u4)]))
    refine Wp.step (fun t k => XS.iand X0.here hx rfl (hb hby at_46) rfl k) ?_
    show Wp p e below _ (s₁.setTop (mkF m 47 #[.val (.int u0), .val (.int u1), .val (.int u2), .val (.int u3), .val (.int u4), .val (.int la), .val (.int lb), .val (.int ca0), .val (.int ca1), .val (.int cb0), .unset, .unset, .unset, .unset, .unset, .unset] [(.int (u4 &&& (8 : Int32)))]))
    have kont2 : ∀ (cb1 : Int32) (hD1 : own_isC cb1), Wp p e below (OutX Z s (Q0 Z u0 u1 u2 u3 u4 cs fm h0 n0) room_1.cells room_1.slots) (s₁.setTop (mkF m 57 #[.val (.int u0), .val (.int u1), .val (.int u2), .val (.int u3), .val (.int u4), .val (.int la), .val (.int lb), .val (.int ca0), .val (.int ca1), .val (.int cb0), .unset, .unset, .unset, .unset, .unset, .unset] [(.int cb1)])) := by
      intro cb1 hD1
      refine Wp.step (fun t k => XS.istore X0.here hx rfl (hb hby at_57) rfl (l' := #[.val (.int u0), .val (.int u1), .val (.int u2), .val (.int u3), .val (.int u4), .val (.int la), .val (.int lb), .val (.int ca0), .val (.int ca1), .val (.int cb0), .val (.int cb1), .unset, .unset, .unset, .unset, .unset]) rfl k) ?_
      show Wp p e below _ (s₁.setTop (mkF m 59 #[.val (.int u0), .val (.int u1), .val (.int u2), .val (.int u3), .val (.int u4), .val (.int la), .val (.int lb), .val (.int ca0), .val (.int ca1), .val (.int cb0), .val (.int cb1), .unset, .unset, .unset, .unset, .unset] []))
      refine Wp.step (fun t k => XS.iload X0.here hx rfl (hb hby at_59) rfl k) ?_
      show Wp p e below _ (s₁.setTop (mkF m 61 #[.val (.int u0), .val (.int u1), .val (.int u2), .val (.int u3), .val (.int u4), .val (.int la), .val (.int lb), .val (.int ca0), .val (.int ca1), .val (.int cb0), .val (.int cb1), .unset, .unset, .unset, .unset, .unset] [(.int la)]))
      refine Wp.step (fun t k => XS.iload X0.here hx rfl (hb hby at_61) rfl k) ?_
      show Wp p e below _ (s₁.setTop (mkF m 63 #[.val (.int u0), .val (.int u1), .val (.int u2), .val (.int u3), .val (.int u4), .val (.int la), .val (.int lb), .val (.int ca0), .val (.int ca1), .val (.int cb0), .val (.int cb1), .unset, .unset, .unset, .unset, .unset] [(.int ca0), (.int la)]))
      refine Wp.step (fun t k => XS.iload X0.here hx rfl (hb hby at_63) rfl k) ?_
      show Wp p e below _ (s₁.setTop (mkF m 65 #[.val (.int u0), .val (.int u1), .val (.int u2), .val (.int u3), .val (.int u4), .val (.int la), .val (.int lb), .val (.int ca0), .val (.int ca1), .val (.int cb0), .val (.int cb1), .unset, .unset, .unset, .unset, .unset] [(.int ca1), (.int ca0), (.int la)]))
      obtain ⟨_, _, ⟨T3, L3, k3, n3⟩, -, X3, hS3, hg3, ⟨Lc3, hQ3, l3, y3, z3⟩, st3⟩ := callSS X0 hx (y := (⟨"com/example/rank_merge/rankmerge/model/IdOrderComparePinLaw", "make", "(ICC)Ljava/lang/String;"⟩ : MethodName)) hown (mvT hZ (hw _ (List.mem_of_getElem? (i := 0) rfl))) (mvT hZ (hw _ (List.mem_of_getElem? (i := 1) rfl))) (mvT hZ (hw _ (List.mem_of_getElem? (i := 2) rfl))) (mvT hZ (hw _ (List.mem_of_getElem? (i := 3) rfl))) (by decide) (own_backOfX (W := 0) (rm1 l Z a0 hw [] la ca0 ca1 cs h0 n0 (Nat.le_trans Z0 K0.1) S_COMPACT_STRINGS_cs S_assertionsDisabled_1Int32 S_HI_BYTE_SHIFT_0Int32 S_LO_BYTE_SHIFT_8Int32 hla hC0 hC1 hcs hCH hcw) hZ hT (hw _ (List.mem_of_getElem? (i := 3) rfl)) (hw _ (List.mem_of_getElem? (i := 2) rfl)) (by decide) (by decide)) (g := (mkF m 65 #[.val (.int u0), .val (.int u1), .val (.int u2), .val (.int u3), .val (.int u4), .val (.int la), .val (.int lb), .val (.int ca0), .val (.int ca1), .val (.int cb0), .val (.int cb1), .unset, .unset, .unset, .unset, .unset] [(.int ca1), (.int ca0), (.int la)])) rfl (by rw [hml]; rfl) (argsL := [(.int la), (.int ca0), (.int ca1)]) (rest := []) (lenOf pd_28ICC29Ljava2flang2fString3b rfl) rfl (by show 2 * 0 + _ ≤ _; exact Nat.le_of_eq rfl) (hb hby at_65) (fun _ _ => ⟨rfl, e0, (by decide : 0 + 4 ≤ _), (by decide : 0 + 12 ≤ _)⟩)
      dsimp only [Pt.U, Pt.locs, Pt.cells, Pt.slots] at X3 l3 y3 z3 st3 hQ3 hS3 hg3
      subst l3 y3 z3
      obtain ⟨hQ3, hT⟩ := hQ3
      obtain ⟨X3, hS, hZ, hown⟩ := rebS hS (n1 := s₁.heap.size) (own_hk e0 hk) X3 hS3 hg3 hZ hown
      obtain ⟨h3, e3⟩ : ∃ z, T3.heap = z := ⟨_, rfl⟩
      rw [e3] at hQ3
      obtain ⟨r3, rfl, N3q, Kc3, sz3, hS_3⟩ := hQ3
      have N3 := Fr.app N0 N3q
      have g_r3 : n0 ≤ r3 := Nat.le_trans (Nat.le_trans Z0 K0.1) sz3
      have sz_r3 : h0.size ≤ r3 := Nat.le_trans K0.1 sz3
      have hk := Nat.le_trans hk Kc3.1
      have c4 := own_sta_keep S_COMPACT_STRINGS_cs Kc3 all0
      have c5 := own_sta_keep S_SIOOBE_FORMATTER_fm Kc3 all0
      have c6 := own_sta_keep S_assertionsDisabled_1Int32 Kc3 all0
      have c7 := own_sta_keep S_HI_BYTE_SHIFT_0Int32 Kc3 all0
      have c8 := own_sta_keep S_LO_BYTE_SHIFT_8Int32 Kc3 all0
      have K3 := K0.trans Kc3 all0
      rw [e3] at hT
      have hT : own_T Z (s.setVm T3.vm).vm h3 := hT
      have hk : T3.heap.size ≤ h3.size := by rw [e3]; exact Nat.le_refl _
      refine Wp.go st3 ?_
      show Wp p e below _ (T3.setTop (mkF m 68 #[.val (.int u0), .val (.int u1), .val (.int u2), .val (.int u3), .val (.int u4), .val (.int la), .val (.int lb), .val (.int ca0), .val (.int ca1), .val (.int cb0), .val (.int cb1), .unset, .unset, .unset, .unset, .unset] [(.ref r3)]))
      refine Wp.step (fun t k => XS.astore X3.here hx rfl (hb hby at_68) rfl rfl (l' := #[.val (.int u0), .val (.int u1), .val (.int u2), .val (.int u3), .val (.int u4), .val (.int la), .val (.int lb), .val (.int ca0), .val (.int ca1), .val (.int cb0), .val (.int cb1), .val (.ref r3), .unset, .unset, .unset, .unset]) rfl k) ?_
      show Wp p e below _ (T3.setTop (mkF m 70 #[.val (.int u0), .val (.int u1), .val (.int u2), .val (.int u3), .val (.int u4), .val (.int la), .val (.int lb), .val (.int ca0), .val (.int ca1), .val (.int cb0), .val (.int cb1), .val (.ref r3), .unset, .unset, .unset, .unset] []))
      refine Wp.step (fun t k => XS.iload X3.here hx rfl (hb hby at_70) rfl k) ?_
      show Wp p e below _ (T3.setTop (mkF m 72 #[.val (.int u0), .val (.int u1), .val (.int u2), .val (.int u3), .val (.int u4), .val (.int la), .val (.int lb), .val (.int ca0), .val (.int ca1), .val (.int cb0), .val (.int cb1), .val (.ref r3), .unset, .unset, .unset, .unset] [(.int lb)]))
      refine Wp.step (fun t k => XS.iload X3.here hx rfl (hb hby at_72) rfl k) ?_
      show Wp p e below _ (T3.setTop (mkF m 74 #[.val (.int u0), .val (.int u1), .val (.int u2), .val (.int u3), .val (.int u4), .val (.int la), .val (.int lb), .val (.int ca0), .val (.int ca1), .val (.int cb0), .val (.int cb1), .val (.ref r3), .unset, .unset, .unset, .unset] [(.int cb0), (.int lb)]))
      refine Wp.step (fun t k => XS.iload X3.here hx rfl (hb hby at_74) rfl k) ?_
      show Wp p e below _ (T3.setTop (mkF m 76 #[.val (.int u0), .val (.int u1), .val (.int u2), .val (.int u3), .val (.int u4), .val (.int la), .val (.int lb), .val (.int ca0), .val (.int ca1), .val (.int cb0), .val (.int cb1), .val (.ref r3), .unset, .unset, .unset, .unset] [(.int cb1), (.int cb0), (.int lb)]))
      obtain ⟨_, _, ⟨T9, L9, k9, n9⟩, -, X9, hS9, hg9, ⟨Lc9, hQ9, l9, y9, z9⟩, st9⟩ := callSS X3 hx (y := (⟨"com/example/rank_merge/rankmerge/model/IdOrderComparePinLaw", "make", "(ICC)Ljava/lang/String;"⟩ : MethodName)) hown (mvT hZ (hw _ (List.mem_of_getElem? (i := 0) rfl))) (mvT hZ (hw _ (List.mem_of_getElem? (i := 1) rfl))) (mvT hZ (hw _ (List.mem_of_getElem? (i := 2) rfl))) (mvT hZ (hw _ (List.mem_of_getElem? (i := 3) rfl))) (by decide) (own_backOfX (W := 0) (rm1 l Z a0 hw [] lb cb0 cb1 cs h3 n0 (Nat.le_trans Z0 K3.1) c4 c6 c7 c8 hlb hD0 hD1 hcs hCH hcw) hZ hT (hw _ (List.mem_of_getElem? (i := 3) rfl)) (hw _ (List.mem_of_getElem? (i := 2) rfl)) (by decide) (by decide)) (g := (mkF m 76 #[.val (.int u0), .val (.int u1), .val (.int u2), .val (.int u3), .val (.int u4), .val (.int la), .val (.int lb), .val (.int ca0), .val (.int ca1), .val (.int cb0), .val (.int cb1), .val (.ref r3), .unset, .unset, .unset, .unset] [(.int cb1), (.int cb0), (.int lb)])) rfl (by rw [hml]; rfl) (argsL := [(.int lb), (.int cb0), (.int cb1)]) (rest := []) (lenOf pd_28ICC29Ljava2flang2fString3b rfl) rfl (by show 2 * 0 + _ ≤ _; exact Nat.le_of_eq rfl) (hb hby at_76) (fun _ _ => ⟨rfl, e3, (by decide : 4 + 4 ≤ _), (by decide : 12 + 12 ≤ _)⟩)
      dsimp only [Pt.U, Pt.locs, Pt.cells, Pt.slots] at X9 l9 y9 z9 st9 hQ9 hS9 hg9
      subst l9 y9 z9
      obtain ⟨hQ9, hT⟩ := hQ9
      obtain ⟨X9, hS, hZ, hown⟩ := rebS hS (n1 := T3.heap.size) (own_hk e3 hk) X9 hS9 hg9 hZ hown
      obtain ⟨h9, e9⟩ : ∃ z, T9.heap = z := ⟨_, rfl⟩
      rw [e9] at hQ9
      obtain ⟨r9, rfl, N9q, Kc9, sz9, hS_9⟩ := hQ9
      have N9 := Fr.app N3 N9q
      have g_r9 : n0 ≤ r9 := Nat.le_trans (Nat.le_trans Z0 K3.1) sz9
      have sz_r9 : h0.size ≤ r9 := Nat.le_trans K3.1 sz9
      have hk := Nat.le_trans hk Kc9.1
      have c10 := own_sta_keep c4 Kc9 all0
      have c11 := own_sta_keep c5 Kc9 all0
      have c12 := own_sta_keep c6 Kc9 all0
      have c13 := own_sta_keep c7 Kc9 all0
      have c14 := own_sta_keep c8 Kc9 all0
      have K9 := K3.trans Kc9 all0
      have hSa := own_S.keep hS_3 Kc9
      rw [e9] at hT
      have hT : own_T Z (s.setVm T9.vm).vm h9 := hT
      have hk : T9.heap.size ≤ h9.size := by rw [e9]; exact Nat.le_refl _
      refine Wp.go st9 ?_
      show Wp p e below _ (T9.setTop (mkF m 79 #[.val (.int u0), .val (.int u1), .val (.int u2), .val (.int u3), .val (.int u4), .val (.int la), .val (.int lb), .val (.int ca0), .val (.int ca1), .val (.int cb0), .val (.int cb1), .val (.ref r3), .unset, .unset, .unset, .unset] [(.ref r9)]))
      refine Wp.step (fun t k => XS.astore X9.here hx rfl (hb hby at_79) rfl rfl (l' := #[.val (.int u0), .val (.int u1), .val (.int u2), .val (.int u3), .val (.int u4), .val (.int la), .val (.int lb), .val (.int ca0), .val (.int ca1), .val (.int cb0), .val (.int cb1), .val (.ref r3), .val (.ref r9), .unset, .unset, .unset]) rfl k) ?_
      show Wp p e below _ (T9.setTop (mkF m 81 #[.val (.int u0), .val (.int u1), .val (.int u2), .val (.int u3), .val (.int u4), .val (.int la), .val (.int lb), .val (.int ca0), .val (.int ca1), .val (.int cb0), .val (.int cb1), .val (.ref r3), .val (.ref r9), .unset, .unset, .unset] []))
      have kont15 : ∀  (hN : ¬ (0 < la ∧ 0 < lb ∧ ¬ (own_ch ca0 ca1) 0 = (own_ch cb0 cb1) 0)), Wp p e below (OutX Z s (Q0 Z u0 u1 u2 u3 u4 cs fm h0 n0) room_1.cells room_1.slots) (T9.setTop (mkF m 117 #[.val (.int u0), .val (.int u1), .val (.int u2), .val (.int u3), .val (.int u4), .val (.int la), .val (.int lb), .val (.int ca0), .val (.int ca1), .val (.int cb0), .val (.int cb1), .val (.ref r3), .val (.ref r9), .unset, .unset, .unset] [])) := by
        intro hN
        refine Wp.step (fun t k => XS.iload X9.here hx rfl (hb hby at_117) rfl k) ?_
        show Wp p e below _ (T9.setTop (mkF m 119 #[.val (.int u0), .val (.int u1), .val (.int u2), .val (.int u3), .val (.int u4), .val (.int la), .val (.int lb), .val (.int ca0), .val (.int ca1), .val (.int cb0), .val (.int cb1), .val (.ref r3), .val (.ref r9), .unset, .unset, .unset] [(.int la)]))
        refine Wp.step (fun t k => XS.iconst X9.here hx rfl (hb hby at_119) k) ?_
        show Wp p e below _ (T9.setTop (mkF m 120 #[.val (.int u0), .val (.int u1), .val (.int u2), .val (.int u3), .val (.int u4), .val (.int la), .val (.int lb), .val (.int ca0), .val (.int ca1), .val (.int cb0), .val (.int cb1), .val (.ref r3), .val (.ref r9), .unset, .unset, .unset] [(.int (1 : Int32)), (.int la)]))
        by_cases hc16 : (1 : Int32) < la
        · refine Wp.step (fun t k => XS.icmpNo X9.here hx rfl (hb hby at_120) rfl (tlt hc16).2.2.2 k) ?_
          show Wp p e below _ (T9.setTop (mkF m 123 #[.val (.int u0), .val (.int u1), .val (.int u2), .val (.int u3), .val (.int u4), .val (.int la), .val (.int lb), .val (.int ca0), .val (.int ca1), .val (.int cb0), .val (.int cb1), .val (.ref r3), .val (.ref r9), .unset, .unset, .unset] []))
          refine Wp.step (fun t k => XS.iload X9.here hx rfl (hb hby at_123) rfl k) ?_
          show Wp p e below _ (T9.setTop (mkF m 125 #[.val (.int u0), .val (.int u1), .val (.int u2), .val (.int u3), .val (.int u4), .val (.int la), .val (.int lb), .val (.int ca0), .val (.int ca1), .val (.int cb0), .val (.int cb1), .val (.ref r3), .val (.ref r9), .unset, .unset, .unset] [(.int lb)]))
          refine Wp.step (fun t k => XS.iconst X9.here hx rfl (hb hby at_125) k) ?_
          show Wp p e below _ (T9.setTop (mkF m 126 #[.val (.int u0), .val (.int u1), .val (.int u2), .val (.int u3), .val (.int u4), .val (.int la), .val (.int lb), .val (.int ca0), .val (.int ca1), .val (.int cb0), .val (.int cb1), .val (.ref r3), .val (.ref r9), .unset, .unset, .unset] [(.int (1 : Int32)), (.int lb)]))
          by_cases hc17 : (1 : Int32) < lb
          · refine Wp.step (fun t k => XS.icmpNo X9.here hx rfl (hb hby at_126) rfl (tlt hc17).2.2.2 k) ?_
            show Wp p e below _ (T9.setTop (mkF m 129 #[.val (.int u0), .val (.int u1), .val (.int u2), .val (.int u3), .val (.int u4), .val (.int la), .val (.int lb), .val (.int ca0), .val (.int ca1), .val (.int cb0), .val (.int cb1), .val (.ref r3), .val (.ref r9), .unset, .unset, .unset] []))
            refine Wp.step (fun t k => XS.iload X9.here hx rfl (hb hby at_129) rfl k) ?_
            show Wp p e below _ (T9.setTop (mkF m 131 #[.val (.int u0), .val (.int u1), .val (.int u2), .val (.int u3), .val (.int u4), .val (.int la), .val (.int lb), .val (.int ca0), .val (.int ca1), .val (.int cb0), .val (.int cb1), .val (.ref r3), .val (.ref r9), .unset, .unset, .unset] [(.int ca1)]))
            refine Wp.step (fun t k => XS.iload X9.here hx rfl (hb hby at_131) rfl k) ?_
            show Wp p e below _ (T9.setTop (mkF m 133 #[.val (.int u0), .val (.int u1), .val (.int u2), .val (.int u3), .val (.int u4), .val (.int la), .val (.int lb), .val (.int ca0), .val (.int ca1), .val (.int cb0), .val (.int cb1), .val (.ref r3), .val (.ref r9), .unset, .unset, .unset] [(.int cb1), (.int ca1)]))
            by_cases hc18 : ca1 = cb1
            · refine Wp.step (fun t k => XS.icmpYes X9.here hx rfl (pc0 := 133) (pc' := 155) rfl (hb hby at_133) rfl (teq hc18).1 (by decide) (by decide) k) ?_
              show Wp p e below _ (T9.setTop (mkF m 155 #[.val (.int u0), .val (.int u1), .val (.int u2), .val (.int u3), .val (.int u4), .val (.int la), .val (.int lb), .val (.int ca0), .val (.int ca1), .val (.int cb0), .val (.int cb1), .val (.ref r3), .val (.ref r9), .unset, .unset, .unset] []))
              refine Wp.step (fun t k => XS.iload X9.here hx rfl (hb hby at_155) rfl k) ?_
              show Wp p e below _ (T9.setTop (mkF m 157 #[.val (.int u0), .val (.int u1), .val (.int u2), .val (.int u3), .val (.int u4), .val (.int la), .val (.int lb), .val (.int ca0), .val (.int ca1), .val (.int cb0), .val (.int cb1), .val (.ref r3), .val (.ref r9), .unset, .unset, .unset] [(.int la)]))
              refine Wp.step (fun t k => XS.iload X9.here hx rfl (hb hby at_157) rfl k) ?_
              show Wp p e below _ (T9.setTop (mkF m 159 #[.val (.int u0), .val (.int u1), .val (.int u2), .val (.int u3), .val (.int u4), .val (.int la), .val (.int lb), .val (.int ca0), .val (.int ca1), .val (.int cb0), .val (.int cb1), .val (.ref r3), .val (.ref r9), .unset, .unset, .unset] [(.int lb), (.int la)]))
              refine Wp.step (fun t k => XS.isub X9.here hx rfl (hb hby at_159) rfl k) ?_
              show Wp p e below _ (T9.setTop (mkF m 160 #[.val (.int u0), .val (.int u1), .val (.int u2), .val (.int u3), .val (.int u4), .val (.int la), .val (.int lb), .val (.int ca0), .val (.int ca1), .val (.int cb0), .val (.int cb1), .val (.ref r3), .val (.ref r9), .unset, .unset, .unset] [(.int (la - lb))]))
              obtain ⟨_, _, ⟨T19, L19, k19, n19⟩, -, X19, ⟨Lc19, hQ19, l19, y19, z19⟩, st19⟩ := Jvm.LawKit.callS X9 hx (y := (⟨"com/example/rank_merge/rankmerge/model/IdOrderComparePinLaw", "sign", "(I)I"⟩ : MethodName)) hown (mvT hZ (hw _ (List.mem_of_getElem? (i := 26) rfl))) (mvT hZ (hw _ (List.mem_of_getElem? (i := 27) rfl))) (mvT hZ (hw _ (List.mem_of_getElem? (i := 2) rfl))) (mvT hZ (hw _ (List.mem_of_getElem? (i := 28) rfl))) (by decide) (backOf (W := 0) (rm5 l Z a0 hw [] (la - lb)  h9 n0 (Nat.le_trans Z0 K9.1)  ) hZ (hw _ (List.mem_of_getElem? (i := 28) rfl)) (hw _ (List.mem_of_getElem? (i := 2) rfl)) (by decide) (by decide)) (g := (mkF m 160 #[.val (.int u0), .val (.int u1), .val (.int u2), .val (.int u3), .val (.int u4), .val (.int la), .val (.int lb), .val (.int ca0), .val (.int ca1), .val (.int cb0), .val (.int cb1), .val (.ref r3), .val (.ref r9), .unset, .unset, .unset] [(.int (la - lb))])) rfl (by rw [hml]; rfl) (argsL := [(.int (la - lb))]) (rest := []) (lenOf pd_28I29I rfl) rfl (by show 2 * 0 + _ ≤ _; exact Nat.le_of_eq rfl) (hb hby at_160) (fun _ _ => ⟨rfl, e9, (by decide : 8 + 0 ≤ _), (by decide : 24 + 0 ≤ _)⟩)
              dsimp only [Pt.U, Pt.locs, Pt.cells, Pt.slots] at X19 l19 y19 z19 st19 hQ19
              subst l19 y19 z19
              obtain ⟨rfl, N19q, e19⟩ := hQ19
              have N19 := Fr.app N9 N19q
              refine Wp.step st19 ?_
              show Wp p e below _ (T19.setTop (mkF m 163 #[.val (.int u0), .val (.int u1), .val (.int u2), .val (.int u3), .val (.int u4), .val (.int la), .val (.int lb), .val (.int ca0), .val (.int ca1), .val (.int cb0), .val (.int cb1), .val (.ref r3), .val (.ref r9), .unset, .unset, .unset] [(.int (own_sgn (la - lb)))]))
              refine Wp.step (fun t k => XS.istore X19.here hx rfl (hb hby at_163) rfl (l' := #[.val (.int u0), .val (.int u1), .val (.int u2), .val (.int u3), .val (.int u4), .val (.int la), .val (.int lb), .val (.int ca0), .val (.int ca1), .val (.int cb0), .val (.int cb1), .val (.ref r3), .val (.ref r9), .val (.int (own_sgn (la - lb))), .unset, .unset]) rfl k) ?_
              show Wp p e below _ (T19.setTop (mkF m 165 #[.val (.int u0), .val (.int u1), .val (.int u2), .val (.int u3), .val (.int u4), .val (.int la), .val (.int lb), .val (.int ca0), .val (.int ca1), .val (.int cb0), .val (.int cb1), .val (.ref r3), .val (.ref r9), .val (.int (own_sgn (la - lb))), .unset, .unset] []))
              have hEX : own_cs la lb (own_ch ca0 ca1) (own_ch cb0 cb1) = (own_sgn (la - lb)) := own_case2 hla hlb hN (fun q => q.2.2 hc18)
              refine Wp.step (fun t k => XS.aload X19.here hx rfl (hb hby at_165) rfl rfl k) ?_
              show Wp p e below _ (T19.setTop (mkF m 167 #[.val (.int u0), .val (.int u1), .val (.int u2), .val (.int u3), .val (.int u4), .val (.int la), .val (.int lb), .val (.int ca0), .val (.int ca1), .val (.int cb0), .val (.int cb1), .val (.ref r3), .val (.ref r9), .val (.int (own_sgn (la - lb))), .unset, .unset] [(.ref r3)]))
              refine Wp.step (fun t k => XS.aload X19.here hx rfl (hb hby at_167) rfl rfl k) ?_
              show Wp p e below _ (T19.setTop (mkF m 169 #[.val (.int u0), .val (.int u1), .val (.int u2), .val (.int u3), .val (.int u4), .val (.int la), .val (.int lb), .val (.int ca0), .val (.int ca1), .val (.int cb0), .val (.int cb1), .val (.ref r3), .val (.ref r9), .val (.int (own_sgn (la - lb))), .unset, .unset] [(.ref r9), (.ref r3)]))
              obtain ⟨_, _, ⟨T20, L20, k20, n20⟩, -, X20, ⟨Lc20, hQ20, l20, y20, z20⟩, st20⟩ := Jvm.LawKit.callS X19 hx (y := (⟨"com/example/rank_merge/rankmerge/model/IdOrder", "compare", "(Ljava/lang/String;Ljava/lang/String;)I"⟩ : MethodName)) hown (mvT hZ (hw _ (List.mem_of_getElem? (i := 29) rfl))) (mvT hZ (hw _ (List.mem_of_getElem? (i := 30) rfl))) (mvT hZ (hw _ (List.mem_of_getElem? (i := 31) rfl))) (mvT hZ (hw _ (List.mem_of_getElem? (i := 32) rfl))) (by decide) (backOf (W := 0) (rm6 l Z a0 hw [] r3 r9 la (own_ch ca0 ca1) lb (own_ch cb0 cb1) cs fm h9 n0 (Nat.le_trans Z0 K9.1) c10 c11 c12 c13 c14 hcs hfm hSa hS_9 hC0 hC1 hD0 hD1) hZ (hw _ (List.mem_of_getElem? (i := 32) rfl)) (hw _ (List.mem_of_getElem? (i := 31) rfl)) (by decide) (by decide)) (g := (mkF m 169 #[.val (.int u0), .val (.int u1), .val (.int u2), .val (.int u3), .val (.int u4), .val (.int la), .val (.int lb), .val (.int ca0), .val (.int ca1), .val (.int cb0), .val (.int cb1), .val (.ref r3), .val (.ref r9), .val (.int (own_sgn (la - lb))), .unset, .unset] [(.ref r9), (.ref r3)])) rfl (by rw [hml]; rfl) (argsL := [(.ref r3), (.ref r9)]) (rest := []) (lenOf pd_28Ljava2flang2fString3bLjava2flang2fString3b29I rfl) rfl (by show 2 * 0 + _ ≤ _; exact Nat.le_of_eq rfl) (hb hby at_169) (fun _ _ => ⟨rfl, e19, (by decide : 8 + 0 ≤ _), (by decide : 24 + 0 ≤ _)⟩)
              dsimp only [Pt.U, Pt.locs, Pt.cells, Pt.slots] at X20 l20 y20 z20 st20 hQ20
              subst l20 y20 z20
              obtain ⟨rfl, N20q, e20⟩ := hQ20
              have N20 := Fr.app N19 N20q
              refine Wp.step st20 ?_
              show Wp p e below _ (T20.setTop (mkF m 172 #[.val (.int u0), .val (.int u1), .val (.int u2), .val (.int u3), .val (.int u4), .val (.int la), .val (.int lb), .val (.int ca0), .val (.int ca1), .val (.int cb0), .val (.int cb1), .val (.ref r3), .val (.ref r9), .val (.int (own_sgn (la - lb))), .unset, .unset] [(.int (own_cs la lb (own_ch ca0 ca1) (own_ch cb0 cb1)))]))
              refine Wp.step (fun t k => XS.istore X20.here hx rfl (hb hby at_172) rfl (l' := #[.val (.int u0), .val (.int u1), .val (.int u2), .val (.int u3), .val (.int u4), .val (.int la), .val (.int lb), .val (.int ca0), .val (.int ca1), .val (.int cb0), .val (.int cb1), .val (.ref r3), .val (.ref r9), .val (.int (own_sgn (la - lb))), .val (.int (own_cs la lb (own_ch ca0 ca1) (own_ch cb0 cb1))), .unset]) rfl k) ?_
              show Wp p e below _ (T20.setTop (mkF m 174 #[.val (.int u0), .val (.int u1), .val (.int u2), .val (.int u3), .val (.int u4), .val (.int la), .val (.int lb), .val (.int ca0), .val (.int ca1), .val (.int cb0), .val (.int cb1), .val (.ref r3), .val (.ref r9), .val (.int (own_sgn (la - lb))), .val (.int (own_cs la lb (own_ch ca0 ca1) (own_ch cb0 cb1))), .unset] []))
              refine Wp.step (fun t k => XS.aload X20.here hx rfl (hb hby at_174) rfl rfl k) ?_
              show Wp p e below _ (T20.setTop (mkF m 176 #[.val (.int u0), .val (.int u1), .val (.int u2), .val (.int u3), .val (.int u4), .val (.int la), .val (.int lb), .val (.int ca0), .val (.int ca1), .val (.int cb0), .val (.int cb1), .val (.ref r3), .val (.ref r9), .val (.int (own_sgn (la - lb))), .val (.int (own_cs la lb (own_ch ca0 ca1) (own_ch cb0 cb1))), .unset] [(.ref r9)]))
              refine Wp.step (fun t k => XS.aload X20.here hx rfl (hb hby at_176) rfl rfl k) ?_
              show Wp p e below _ (T20.setTop (mkF m 178 #[.val (.int u0), .val (.int u1), .val (.int u2), .val (.int u3), .val (.int u4), .val (.int la), .val (.int lb), .val (.int ca0), .val (.int ca1), .val (.int cb0), .val (.int cb1), .val (.ref r3), .val (.ref r9), .val (.int (own_sgn (la - lb))), .val (.int (own_cs la lb (own_ch ca0 ca1) (own_ch cb0 cb1))), .unset] [(.ref r3), (.ref r9)]))
              obtain ⟨_, _, ⟨T21, L21, k21, n21⟩, -, X21, ⟨Lc21, hQ21, l21, y21, z21⟩, st21⟩ := Jvm.LawKit.callS X20 hx (y := (⟨"com/example/rank_merge/rankmerge/model/IdOrder", "compare", "(Ljava/lang/String;Ljava/lang/String;)I"⟩ : MethodName)) hown (mvT hZ (hw _ (List.mem_of_getElem? (i := 29) rfl))) (mvT hZ (hw _ (List.mem_of_getElem? (i := 30) rfl))) (mvT hZ (hw _ (List.mem_of_getElem? (i := 31) rfl))) (mvT hZ (hw _ (List.mem_of_getElem? (i := 32) rfl))) (by decide) (backOf (W := 0) (rm6 l Z a0 hw [] r9 r3 lb (own_ch cb0 cb1) la (own_ch ca0 ca1) cs fm h9 n0 (Nat.le_trans Z0 K9.1) c10 c11 c12 c13 c14 hcs hfm hS_9 hSa hD0 hD1 hC0 hC1) hZ (hw _ (List.mem_of_getElem? (i := 32) rfl)) (hw _ (List.mem_of_getElem? (i := 31) rfl)) (by decide) (by decide)) (g := (mkF m 178 #[.val (.int u0), .val (.int u1), .val (.int u2), .val (.int u3), .val (.int u4), .val (.int la), .val (.int lb), .val (.int ca0), .val (.int ca1), .val (.int cb0), .val (.int cb1), .val (.ref r3), .val (.ref r9), .val (.int (own_sgn (la - lb))), .val (.int (own_cs la lb (own_ch ca0 ca1) (own_ch cb0 cb1))), .unset] [(.ref r3), (.ref r9)])) rfl (by rw [hml]; rfl) (argsL := [(.ref r9), (.ref r3)]) (rest := []) (lenOf pd_28Ljava2flang2fString3bLjava2flang2fString3b29I rfl) rfl (by show 2 * 0 + _ ≤ _; exact Nat.le_of_eq rfl) (hb hby at_178) (fun _ _ => ⟨rfl, e20, (by decide : 8 + 0 ≤ _), (by decide : 24 + 0 ≤ _)⟩)
              dsimp only [Pt.U, Pt.locs, Pt.cells, Pt.slots] at X21 l21 y21 z21 st21 hQ21
              subst l21 y21 z21
              obtain ⟨rfl, N21q, e21⟩ := hQ21
              have N21 := Fr.app N20 N21q
              refine Wp.step st21 ?_
              show Wp p e below _ (T21.setTop (mkF m 181 #[.val (.int u0), .val (.int u1), .val (.int u2), .val (.int u3), .val (.int u4), .val (.int la), .val (.int lb), .val (.int ca0), .val (.int ca1), .val (.int cb0), .val (.int cb1), .val (.ref r3), .val (.ref r9), .val (.int (own_sgn (la - lb))), .val (.int (own_cs la lb (own_ch ca0 ca1) (own_ch cb0 cb1))), .unset] [(.int (own_cs lb la (own_ch cb0 cb1) (own_ch ca0 ca1)))]))
              refine Wp.step (fun t k => XS.istore X21.here hx rfl (hb hby at_181) rfl (l' := #[.val (.int u0), .val (.int u1), .val (.int u2), .val (.int u3), .val (.int u4), .val (.int la), .val (.int lb), .val (.int ca0), .val (.int ca1), .val (.int cb0), .val (.int cb1), .val (.ref r3), .val (.ref r9), .val (.int (own_sgn (la - lb))), .val (.int (own_cs la lb (own_ch ca0 ca1) (own_ch cb0 cb1))), .val (.int (own_cs lb la (own_ch cb0 cb1) (own_ch ca0 ca1)))]) rfl k) ?_
              show Wp p e below _ (T21.setTop (mkF m 183 #[.val (.int u0), .val (.int u1), .val (.int u2), .val (.int u3), .val (.int u4), .val (.int la), .val (.int lb), .val (.int ca0), .val (.int ca1), .val (.int cb0), .val (.int cb1), .val (.ref r3), .val (.ref r9), .val (.int (own_sgn (la - lb))), .val (.int (own_cs la lb (own_ch ca0 ca1) (own_ch cb0 cb1))), .val (.int (own_cs lb la (own_ch cb0 cb1) (own_ch ca0 ca1)))] []))
              refine Wp.step (fun t k => XS.iload X21.here hx rfl (hb hby at_183) rfl k) ?_
              show Wp p e below _ (T21.setTop (mkF m 185 #[.val (.int u0), .val (.int u1), .val (.int u2), .val (.int u3), .val (.int u4), .val (.int la), .val (.int lb), .val (.int ca0), .val (.int ca1), .val (.int cb0), .val (.int cb1), .val (.ref r3), .val (.ref r9), .val (.int (own_sgn (la - lb))), .val (.int (own_cs la lb (own_ch ca0 ca1) (own_ch cb0 cb1))), .val (.int (own_cs lb la (own_ch cb0 cb1) (own_ch ca0 ca1)))] [(.int (own_cs la lb (own_ch ca0 ca1) (own_ch cb0 cb1)))]))
              obtain ⟨_, _, ⟨T22, L22, k22, n22⟩, -, X22, ⟨Lc22, hQ22, l22, y22, z22⟩, st22⟩ := Jvm.LawKit.callS X21 hx (y := (⟨"com/example/rank_merge/rankmerge/model/IdOrderComparePinLaw", "sign", "(I)I"⟩ : MethodName)) hown (mvT hZ (hw _ (List.mem_of_getElem? (i := 26) rfl))) (mvT hZ (hw _ (List.mem_of_getElem? (i := 27) rfl))) (mvT hZ (hw _ (List.mem_of_getElem? (i := 2) rfl))) (mvT hZ (hw _ (List.mem_of_getElem? (i := 28) rfl))) (by decide) (backOf (W := 0) (rm5 l Z a0 hw [] (own_cs la lb (own_ch ca0 ca1) (own_ch cb0 cb1))  h9 n0 (Nat.le_trans Z0 K9.1)  ) hZ (hw _ (List.mem_of_getElem? (i := 28) rfl)) (hw _ (List.mem_of_getElem? (i := 2) rfl)) (by decide) (by decide)) (g := (mkF m 185 #[.val (.int u0), .val (.int u1), .val (.int u2), .val (.int u3), .val (.int u4), .val (.int la), .val (.int lb), .val (.int ca0), .val (.int ca1), .val (.int cb0), .val (.int cb1), .val (.ref r3), .val (.ref r9), .val (.int (own_sgn (la - lb))), .val (.int (own_cs la lb (own_ch ca0 ca1) (own_ch cb0 cb1))), .val (.int (own_cs lb la (own_ch cb0 cb1) (own_ch ca0 ca1)))] [(.int (own_cs la lb (own_ch ca0 ca1) (own_ch cb0 cb1)))])) rfl (by rw [hml]; rfl) (argsL := [(.int (own_cs la lb (own_ch ca0 ca1) (own_ch cb0 cb1)))]) (rest := []) (lenOf pd_28I29I rfl) rfl (by show 2 * 0 + _ ≤ _; exact Nat.le_of_eq rfl) (hb hby at_185) (fun _ _ => ⟨rfl, e21, (by decide : 8 + 0 ≤ _), (by decide : 24 + 0 ≤ _)⟩)
              dsimp only [Pt.U, Pt.locs, Pt.cells, Pt.slots] at X22 l22 y22 z22 st22 hQ22
              subst l22 y22 z22
              obtain ⟨rfl, N22q, e22⟩ := hQ22
              have N22 := Fr.app N21 N22q
              refine Wp.step st22 ?_
              show Wp p e below _ (T22.setTop (mkF m 188 #[.val (.int u0), .val (.int u1), .val (.int u2), .val (.int u3), .val (.int u4), .val (.int la), .val (.int lb), .val (.int ca0), .val (.int ca1), .val (.int cb0), .val (.int cb1), .val (.ref r3), .val (.ref r9), .val (.int (own_sgn (la - lb))), .val (.int (own_cs la lb (own_ch ca0 ca1) (own_ch cb0 cb1))), .val (.int (own_cs lb la (own_ch cb0 cb1) (own_ch ca0 ca1)))] [(.int (own_sgn (own_cs la lb (own_ch ca0 ca1) (own_ch cb0 cb1))))]))
              refine Wp.step (fun t k => XS.iload X22.here hx rfl (hb hby at_188) rfl k) ?_
              show Wp p e below _ (T22.setTop (mkF m 190 #[.val (.int u0), .val (.int u1), .val (.int u2), .val (.int u3), .val (.int u4), .val (.int la), .val (.int lb), .val (.int ca0), .val (.int ca1), .val (.int cb0), .val (.int cb1), .val (.ref r3), .val (.ref r9), .val (.int (own_sgn (la - lb))), .val (.int (own_cs la lb (own_ch ca0 ca1) (own_ch cb0 cb1))), .val (.int (own_cs lb la (own_ch cb0 cb1) (own_ch ca0 ca1)))] [(.int (own_sgn (la - lb))), (.int (own_sgn (own_cs la lb (own_ch ca0 ca1) (own_ch cb0 cb1))))]))
              refine Wp.step (fun t k => XS.icmpNo X22.here hx rfl (hb hby at_190) rfl (teq (show (own_sgn (own_cs la lb (own_ch ca0 ca1) (own_ch cb0 cb1))) = (own_sgn (la - lb)) from (by rw [own_cs_sgn]; exact hEX))).2 k) ?_
              show Wp p e below _ (T22.setTop (mkF m 193 #[.val (.int u0), .val (.int u1), .val (.int u2), .val (.int u3), .val (.int u4), .val (.int la), .val (.int lb), .val (.int ca0), .val (.int ca1), .val (.int cb0), .val (.int cb1), .val (.ref r3), .val (.ref r9), .val (.int (own_sgn (la - lb))), .val (.int (own_cs la lb (own_ch ca0 ca1) (own_ch cb0 cb1))), .val (.int (own_cs lb la (own_ch cb0 cb1) (own_ch ca0 ca1)))] []))
              refine Wp.step (fun t k => XS.iload X22.here hx rfl (hb hby at_193) rfl k) ?_
              show Wp p e below _ (T22.setTop (mkF m 195 #[.val (.int u0), .val (.int u1), .val (.int u2), .val (.int u3), .val (.int u4), .val (.int la), .val (.int lb), .val (.int ca0), .val (.int ca1), .val (.int cb0), .val (.int cb1), .val (.ref r3), .val (.ref r9), .val (.int (own_sgn (la - lb))), .val (.int (own_cs la lb (own_ch ca0 ca1) (own_ch cb0 cb1))), .val (.int (own_cs lb la (own_ch cb0 cb1) (own_ch ca0 ca1)))] [(.int (own_cs lb la (own_ch cb0 cb1) (own_ch ca0 ca1)))]))
              obtain ⟨_, _, ⟨T24, L24, k24, n24⟩, -, X24, ⟨Lc24, hQ24, l24, y24, z24⟩, st24⟩ := Jvm.LawKit.callS X22 hx (y := (⟨"com/example/rank_merge/rankmerge/model/IdOrderComparePinLaw", "sign", "(I)I"⟩ : MethodName)) hown (mvT hZ (hw _ (List.mem_of_getElem? (i := 26) rfl))) (mvT hZ (hw _ (List.mem_of_getElem? (i := 27) rfl))) (mvT hZ (hw _ (List.mem_of_getElem? (i := 2) rfl))) (mvT hZ (hw _ (List.mem_of_getElem? (i := 28) rfl))) (by decide) (backOf (W := 0) (rm5 l Z a0 hw [] (own_cs lb la (own_ch cb0 cb1) (own_ch ca0 ca1))  h9 n0 (Nat.le_trans Z0 K9.1)  ) hZ (hw _ (List.mem_of_getElem? (i := 28) rfl)) (hw _ (List.mem_of_getElem? (i := 2) rfl)) (by decide) (by decide)) (g := (mkF m 195 #[.val (.int u0), .val (.int u1), .val (.int u2), .val (.int u3), .val (.int u4), .val (.int la), .val (.int lb), .val (.int ca0), .val (.int ca1), .val (.int cb0), .val (.int cb1), .val (.ref r3), .val (.ref r9), .val (.int (own_sgn (la - lb))), .val (.int (own_cs la lb (own_ch ca0 ca1) (own_ch cb0 cb1))), .val (.int (own_cs lb la (own_ch cb0 cb1) (own_ch ca0 ca1)))] [(.int (own_cs lb la (own_ch cb0 cb1) (own_ch ca0 ca1)))])) rfl (by rw [hml]; rfl) (argsL := [(.int (own_cs lb la (own_ch cb0 cb1) (own_ch ca0 ca1)))]) (rest := []) (lenOf pd_28I29I rfl) rfl (by show 2 * 0 + _ ≤ _; exact Nat.le_of_eq rfl) (hb hby at_195) (fun _ _ => ⟨rfl, e22, (by decide : 8 + 0 ≤ _), (by decide : 24 + 0 ≤ _)⟩)
              dsimp only [Pt.U, Pt.locs, Pt.cells, Pt.slots] at X24 l24 y24 z24 st24 hQ24
              subst l24 y24 z24
              obtain ⟨rfl, N24q, e24⟩ := hQ24
              have N24 := Fr.app N22 N24q
              refine Wp.step st24 ?_
              show Wp p e below _ (T24.setTop (mkF m 198 #[.val (.int u0), .val (.int u1), .val (.int u2), .val (.int u3), .val (.int u4), .val (.int la), .val (.int lb), .val (.int ca0), .val (.int ca1), .val (.int cb0), .val (.int cb1), .val (.ref r3), .val (.ref r9), .val (.int (own_sgn (la - lb))), .val (.int (own_cs la lb (own_ch ca0 ca1) (own_ch cb0 cb1))), .val (.int (own_cs lb la (own_ch cb0 cb1) (own_ch ca0 ca1)))] [(.int (own_sgn (own_cs lb la (own_ch cb0 cb1) (own_ch ca0 ca1))))]))
              refine Wp.step (fun t k => XS.iload X24.here hx rfl (hb hby at_198) rfl k) ?_
              show Wp p e below _ (T24.setTop (mkF m 200 #[.val (.int u0), .val (.int u1), .val (.int u2), .val (.int u3), .val (.int u4), .val (.int la), .val (.int lb), .val (.int ca0), .val (.int ca1), .val (.int cb0), .val (.int cb1), .val (.ref r3), .val (.ref r9), .val (.int (own_sgn (la - lb))), .val (.int (own_cs la lb (own_ch ca0 ca1) (own_ch cb0 cb1))), .val (.int (own_cs lb la (own_ch cb0 cb1) (own_ch ca0 ca1)))] [(.int (own_sgn (la - lb))), (.int (own_sgn (own_cs lb la (own_ch cb0 cb1) (own_ch ca0 ca1))))]))
              refine Wp.step (fun t k => XS.ineg X24.here hx rfl (hb hby at_200) rfl k) ?_
              show Wp p e below _ (T24.setTop (mkF m 201 #[.val (.int u0), .val (.int u1), .val (.int u2), .val (.int u3), .val (.int u4), .val (.int la), .val (.int lb), .val (.int ca0), .val (.int ca1), .val (.int cb0), .val (.int cb1), .val (.ref r3), .val (.ref r9), .val (.int (own_sgn (la - lb))), .val (.int (own_cs la lb (own_ch ca0 ca1) (own_ch cb0 cb1))), .val (.int (own_cs lb la (own_ch cb0 cb1) (own_ch ca0 ca1)))] [(.int (-(own_sgn (la - lb)))), (.int (own_sgn (own_cs lb la (own_ch cb0 cb1) (own_ch ca0 ca1))))]))
              refine Wp.step (fun t k => XS.icmpNo X24.here hx rfl (hb hby at_201) rfl (teq (show (own_sgn (own_cs lb la (own_ch cb0 cb1) (own_ch ca0 ca1))) = (-(own_sgn (la - lb))) from (by rw [own_cs_sgn, own_cs_swap, hEX]))).2 k) ?_
              show Wp p e below _ (T24.setTop (mkF m 204 #[.val (.int u0), .val (.int u1), .val (.int u2), .val (.int u3), .val (.int u4), .val (.int la), .val (.int lb), .val (.int ca0), .val (.int ca1), .val (.int cb0), .val (.int cb1), .val (.ref r3), .val (.ref r9), .val (.int (own_sgn (la - lb))), .val (.int (own_cs la lb (own_ch ca0 ca1) (own_ch cb0 cb1))), .val (.int (own_cs lb la (own_ch cb0 cb1) (own_ch ca0 ca1)))] []))
              refine Wp.step (fun t k => XS.iconst X24.here hx rfl (hb hby at_204) k) ?_
              show Wp p e below _ (T24.setTop (mkF m 205 #[.val (.int u0), .val (.int u1), .val (.int u2), .val (.int u3), .val (.int u4), .val (.int la), .val (.int lb), .val (.int ca0), .val (.int ca1), .val (.int cb0), .val (.int cb1), .val (.ref r3), .val (.ref r9), .val (.int (own_sgn (la - lb))), .val (.int (own_cs la lb (own_ch ca0 ca1) (own_ch cb0 cb1))), .val (.int (own_cs lb la (own_ch cb0 cb1) (own_ch ca0 ca1)))] [(.int (1 : Int32))]))
              refine Wp.step (fun t k => XS.goto X24.here hx rfl (pc0 := 205) (pc' := 209) rfl (hb hby at_205) (by decide) (by decide) k) ?_
              show Wp p e below _ (T24.setTop (mkF m 209 #[.val (.int u0), .val (.int u1), .val (.int u2), .val (.int u3), .val (.int u4), .val (.int la), .val (.int lb), .val (.int ca0), .val (.int ca1), .val (.int cb0), .val (.int cb1), .val (.ref r3), .val (.ref r9), .val (.int (own_sgn (la - lb))), .val (.int (own_cs la lb (own_ch ca0 ca1) (own_ch cb0 cb1))), .val (.int (own_cs lb la (own_ch cb0 cb1) (own_ch ca0 ca1)))] [(.int (1 : Int32))]))
              refine Wp.retNX X24 hS (own_hk e24 hk) (by rw [e24]; exact hT) hx (t := .boolean) Bd.returns (by simp) (hb hby at_209) hlk ?_ (by decide) (by decide)
              show Q0 Z u0 u1 u2 u3 u4 cs fm h0 n0 (some (.int (nar .boolean (1 : Int32)))) T24.heap _
              rw [e24]
              exact ⟨rfl, N24⟩
            · refine Wp.step (fun t k => XS.icmpNo X9.here hx rfl (hb hby at_133) rfl (feq hc18).1 k) ?_
              show Wp p e below _ (T9.setTop (mkF m 136 #[.val (.int u0), .val (.int u1), .val (.int u2), .val (.int u3), .val (.int u4), .val (.int la), .val (.int lb), .val (.int ca0), .val (.int ca1), .val (.int cb0), .val (.int cb1), .val (.ref r3), .val (.ref r9), .unset, .unset, .unset] []))
              refine Wp.step (fun t k => XS.iload X9.here hx rfl (hb hby at_136) rfl k) ?_
              show Wp p e below _ (T9.setTop (mkF m 138 #[.val (.int u0), .val (.int u1), .val (.int u2), .val (.int u3), .val (.int u4), .val (.int la), .val (.int lb), .val (.int ca0), .val (.int ca1), .val (.int cb0), .val (.int cb1), .val (.ref r3), .val (.ref r9), .unset, .unset, .unset] [(.int ca1)]))
              obtain ⟨_, _, ⟨T26, L26, k26, n26⟩, -, X26, ⟨Lc26, hQ26, l26, y26, z26⟩, st26⟩ := Jvm.LawKit.callS X9 hx (y := (⟨"com/example/rank_merge/rankmerge/model/IdOrderComparePinLaw", "key", "(C)I"⟩ : MethodName)) hown (mvT hZ (hw _ (List.mem_of_getElem? (i := 62) rfl))) (mvT hZ (hw _ (List.mem_of_getElem? (i := 63) rfl))) (mvT hZ (hw _ (List.mem_of_getElem? (i := 2) rfl))) (mvT hZ (hw _ (List.mem_of_getElem? (i := 64) rfl))) (by decide) (backOf (W := 0) (rm14 l Z a0 hw [] ca1  h9 n0 (Nat.le_trans Z0 K9.1)  ) hZ (hw _ (List.mem_of_getElem? (i := 64) rfl)) (hw _ (List.mem_of_getElem? (i := 2) rfl)) (by decide) (by decide)) (g := (mkF m 138 #[.val (.int u0), .val (.int u1), .val (.int u2), .val (.int u3), .val (.int u4), .val (.int la), .val (.int lb), .val (.int ca0), .val (.int ca1), .val (.int cb0), .val (.int cb1), .val (.ref r3), .val (.ref r9), .unset, .unset, .unset] [(.int ca1)])) rfl (by rw [hml]; rfl) (argsL := [(.int ca1)]) (rest := []) (lenOf pd_28C29I rfl) rfl (by show 2 * 0 + _ ≤ _; exact Nat.le_of_eq rfl) (hb hby at_138) (fun _ _ => ⟨rfl, e9, (by decide : 8 + 0 ≤ _), (by decide : 24 + 0 ≤ _)⟩)
              dsimp only [Pt.U, Pt.locs, Pt.cells, Pt.slots] at X26 l26 y26 z26 st26 hQ26
              subst l26 y26 z26
              obtain ⟨rfl, N26q, e26⟩ := hQ26
              have N26 := Fr.app N9 N26q
              refine Wp.step st26 ?_
              show Wp p e below _ (T26.setTop (mkF m 141 #[.val (.int u0), .val (.int u1), .val (.int u2), .val (.int u3), .val (.int u4), .val (.int la), .val (.int lb), .val (.int ca0), .val (.int ca1), .val (.int cb0), .val (.int cb1), .val (.ref r3), .val (.ref r9), .unset, .unset, .unset] [(.int (own_key ca1))]))
              refine Wp.step (fun t k => XS.iload X26.here hx rfl (hb hby at_141) rfl k) ?_
              show Wp p e below _ (T26.setTop (mkF m 143 #[.val (.int u0), .val (.int u1), .val (.int u2), .val (.int u3), .val (.int u4), .val (.int la), .val (.int lb), .val (.int ca0), .val (.int ca1), .val (.int cb0), .val (.int cb1), .val (.ref r3), .val (.ref r9), .unset, .unset, .unset] [(.int cb1), (.int (own_key ca1))]))
              obtain ⟨_, _, ⟨T27, L27, k27, n27⟩, -, X27, ⟨Lc27, hQ27, l27, y27, z27⟩, st27⟩ := Jvm.LawKit.callS X26 hx (y := (⟨"com/example/rank_merge/rankmerge/model/IdOrderComparePinLaw", "key", "(C)I"⟩ : MethodName)) hown (mvT hZ (hw _ (List.mem_of_getElem? (i := 62) rfl))) (mvT hZ (hw _ (List.mem_of_getElem? (i := 63) rfl))) (mvT hZ (hw _ (List.mem_of_getElem? (i := 2) rfl))) (mvT hZ (hw _ (List.mem_of_getElem? (i := 64) rfl))) (by decide) (backOf (W := 1) (rm14 l Z a0 hw [] cb1  h9 n0 (Nat.le_trans Z0 K9.1)  ) hZ (hw _ (List.mem_of_getElem? (i := 64) rfl)) (hw _ (List.mem_of_getElem? (i := 2) rfl)) (by decide) (by decide)) (g := (mkF m 143 #[.val (.int u0), .val (.int u1), .val (.int u2), .val (.int u3), .val (.int u4), .val (.int la), .val (.int lb), .val (.int ca0), .val (.int ca1), .val (.int cb0), .val (.int cb1), .val (.ref r3), .val (.ref r9), .unset, .unset, .unset] [(.int cb1), (.int (own_key ca1))])) rfl (by rw [hml]; rfl) (argsL := [(.int cb1)]) (rest := [(.int (own_key ca1))]) (lenOf pd_28C29I rfl) rfl (by show 2 * 0 + _ ≤ _; exact Nat.le_of_eq rfl) (hb hby at_143) (fun _ _ => ⟨rfl, e26, (by decide : 8 + 0 ≤ _), (by decide : 24 + 0 ≤ _)⟩)
              dsimp only [Pt.U, Pt.locs, Pt.cells, Pt.slots] at X27 l27 y27 z27 st27 hQ27
              subst l27 y27 z27
              obtain ⟨rfl, N27q, e27⟩ := hQ27
              have N27 := Fr.app N26 N27q
              refine Wp.step st27 ?_
              show Wp p e below _ (T27.setTop (mkF m 146 #[.val (.int u0), .val (.int u1), .val (.int u2), .val (.int u3), .val (.int u4), .val (.int la), .val (.int lb), .val (.int ca0), .val (.int ca1), .val (.int cb0), .val (.int cb1), .val (.ref r3), .val (.ref r9), .unset, .unset, .unset] [(.int (own_key cb1)), (.int (own_key ca1))]))
              refine Wp.step (fun t k => XS.isub X27.here hx rfl (hb hby at_146) rfl k) ?_
              show Wp p e below _ (T27.setTop (mkF m 147 #[.val (.int u0), .val (.int u1), .val (.int u2), .val (.int u3), .val (.int u4), .val (.int la), .val (.int lb), .val (.int ca0), .val (.int ca1), .val (.int cb0), .val (.int cb1), .val (.ref r3), .val (.ref r9), .unset, .unset, .unset] [(.int ((own_key ca1) - (own_key cb1)))]))
              obtain ⟨_, _, ⟨T28, L28, k28, n28⟩, -, X28, ⟨Lc28, hQ28, l28, y28, z28⟩, st28⟩ := Jvm.LawKit.callS X27 hx (y := (⟨"com/example/rank_merge/rankmerge/model/IdOrderComparePinLaw", "sign", "(I)I"⟩ : MethodName)) hown (mvT hZ (hw _ (List.mem_of_getElem? (i := 26) rfl))) (mvT hZ (hw _ (List.mem_of_getElem? (i := 27) rfl))) (mvT hZ (hw _ (List.mem_of_getElem? (i := 2) rfl))) (mvT hZ (hw _ (List.mem_of_getElem? (i := 28) rfl))) (by decide) (backOf (W := 0) (rm5 l Z a0 hw [] ((own_key ca1) - (own_key cb1))  h9 n0 (Nat.le_trans Z0 K9.1)  ) hZ (hw _ (List.mem_of_getElem? (i := 28) rfl)) (hw _ (List.mem_of_getElem? (i := 2) rfl)) (by decide) (by decide)) (g := (mkF m 147 #[.val (.int u0), .val (.int u1), .val (.int u2), .val (.int u3), .val (.int u4), .val (.int la), .val (.int lb), .val (.int ca0), .val (.int ca1), .val (.int cb0), .val (.int cb1), .val (.ref r3), .val (.ref r9), .unset, .unset, .unset] [(.int ((own_key ca1) - (own_key cb1)))])) rfl (by rw [hml]; rfl) (argsL := [(.int ((own_key ca1) - (own_key cb1)))]) (rest := []) (lenOf pd_28I29I rfl) rfl (by show 2 * 0 + _ ≤ _; exact Nat.le_of_eq rfl) (hb hby at_147) (fun _ _ => ⟨rfl, e27, (by decide : 8 + 0 ≤ _), (by decide : 24 + 0 ≤ _)⟩)
              dsimp only [Pt.U, Pt.locs, Pt.cells, Pt.slots] at X28 l28 y28 z28 st28 hQ28
              subst l28 y28 z28
              obtain ⟨rfl, N28q, e28⟩ := hQ28
              have N28 := Fr.app N27 N28q
              refine Wp.step st28 ?_
              show Wp p e below _ (T28.setTop (mkF m 150 #[.val (.int u0), .val (.int u1), .val (.int u2), .val (.int u3), .val (.int u4), .val (.int la), .val (.int lb), .val (.int ca0), .val (.int ca1), .val (.int cb0), .val (.int cb1), .val (.ref r3), .val (.ref r9), .unset, .unset, .unset] [(.int (own_sgn ((own_key ca1) - (own_key cb1))))]))
              refine Wp.step (fun t k => XS.istore X28.here hx rfl (hb hby at_150) rfl (l' := #[.val (.int u0), .val (.int u1), .val (.int u2), .val (.int u3), .val (.int u4), .val (.int la), .val (.int lb), .val (.int ca0), .val (.int ca1), .val (.int cb0), .val (.int cb1), .val (.ref r3), .val (.ref r9), .val (.int (own_sgn ((own_key ca1) - (own_key cb1)))), .unset, .unset]) rfl k) ?_
              show Wp p e below _ (T28.setTop (mkF m 152 #[.val (.int u0), .val (.int u1), .val (.int u2), .val (.int u3), .val (.int u4), .val (.int la), .val (.int lb), .val (.int ca0), .val (.int ca1), .val (.int cb0), .val (.int cb1), .val (.ref r3), .val (.ref r9), .val (.int (own_sgn ((own_key ca1) - (own_key cb1)))), .unset, .unset] []))
              refine Wp.step (fun t k => XS.goto X28.here hx rfl (pc0 := 152) (pc' := 165) rfl (hb hby at_152) (by decide) (by decide) k) ?_
              show Wp p e below _ (T28.setTop (mkF m 165 #[.val (.int u0), .val (.int u1), .val (.int u2), .val (.int u3), .val (.int u4), .val (.int la), .val (.int lb), .val (.int ca0), .val (.int ca1), .val (.int cb0), .val (.int cb1), .val (.ref r3), .val (.ref r9), .val (.int (own_sgn ((own_key ca1) - (own_key cb1)))), .unset, .unset] []))
              have hEX : own_cs la lb (own_ch ca0 ca1) (own_ch cb0 cb1) = (own_sgn ((own_key ca1) - (own_key cb1))) := own_case1 hC1 hD1 hN hc16 hc17 hc18
              refine Wp.step (fun t k => XS.aload X28.here hx rfl (hb hby at_165) rfl rfl k) ?_
              show Wp p e below _ (T28.setTop (mkF m 167 #[.val (.int u0), .val (.int u1), .val (.int u2), .val (.int u3), .val (.int u4), .val (.int la), .val (.int lb), .val (.int ca0), .val (.int ca1), .val (.int cb0), .val (.int cb1), .val (.ref r3), .val (.ref r9), .val (.int (own_sgn ((own_key ca1) - (own_key cb1)))), .unset, .unset] [(.ref r3)]))
              refine Wp.step (fun t k => XS.aload X28.here hx rfl (hb hby at_167) rfl rfl k) ?_
              show Wp p e below _ (T28.setTop (mkF m 169 #[.val (.int u0), .val (.int u1), .val (.int u2), .val (.int u3), .val (.int u4), .val (.int la), .val (.int lb), .val (.int ca0), .val (.int ca1), .val (.int cb0), .val (.int cb1), .val (.ref r3), .val (.ref r9), .val (.int (own_sgn ((own_key ca1) - (own_key cb1)))), .unset, .unset] [(.ref r9), (.ref r3)]))
              obtain ⟨_, _, ⟨T29, L29, k29, n29⟩, -, X29, ⟨Lc29, hQ29, l29, y29, z29⟩, st29⟩ := Jvm.LawKit.callS X28 hx (y := (⟨"com/example/rank_merge/rankmerge/model/IdOrder", "compare", "(Ljava/lang/String;Ljava/lang/String;)I"⟩ : MethodName)) hown (mvT hZ (hw _ (List.mem_of_getElem? (i := 29) rfl))) (mvT hZ (hw _ (List.mem_of_getElem? (i := 30) rfl))) (mvT hZ (hw _ (List.mem_of_getElem? (i := 31) rfl))) (mvT hZ (hw _ (List.mem_of_getElem? (i := 32) rfl))) (by decide) (backOf (W := 0) (rm6 l Z a0 hw [] r3 r9 la (own_ch ca0 ca1) lb (own_ch cb0 cb1) cs fm h9 n0 (Nat.le_trans Z0 K9.1) c10 c11 c12 c13 c14 hcs hfm hSa hS_9 hC0 hC1 hD0 hD1) hZ (hw _ (List.mem_of_getElem? (i := 32) rfl)) (hw _ (List.mem_of_getElem? (i := 31) rfl)) (by decide) (by decide)) (g := (mkF m 169 #[.val (.int u0), .val (.int u1), .val (.int u2), .val (.int u3), .val (.int u4), .val (.int la), .val (.int lb), .val (.int ca0), .val (.int ca1), .val (.int cb0), .val (.int cb1), .val (.ref r3), .val (.ref r9), .val (.int (own_sgn ((own_key ca1) - (own_key cb1)))), .unset, .unset] [(.ref r9), (.ref r3)])) rfl (by rw [hml]; rfl) (argsL := [(.ref r3), (.ref r9)]) (rest := []) (lenOf pd_28Ljava2flang2fString3bLjava2flang2fString3b29I rfl) rfl (by show 2 * 0 + _ ≤ _; exact Nat.le_of_eq rfl) (hb hby at_169) (fun _ _ => ⟨rfl, e28, (by decide : 8 + 0 ≤ _), (by decide : 24 + 0 ≤ _)⟩)
              dsimp only [Pt.U, Pt.locs, Pt.cells, Pt.slots] at X29 l29 y29 z29 st29 hQ29
              subst l29 y29 z29
              obtain ⟨rfl, N29q, e29⟩ := hQ29
              have N29 := Fr.app N28 N29q
              refine Wp.step st29 ?_
              show Wp p e below _ (T29.setTop (mkF m 172 #[.val (.int u0), .val (.int u1), .val (.int u2), .val (.int u3), .val (.int u4), .val (.int la), .val (.int lb), .val (.int ca0), .val (.int ca1), .val (.int cb0), .val (.int cb1), .val (.ref r3), .val (.ref r9), .val (.int (own_sgn ((own_key ca1) - (own_key cb1)))), .unset, .unset] [(.int (own_cs la lb (own_ch ca0 ca1) (own_ch cb0 cb1)))]))
              refine Wp.step (fun t k => XS.istore X29.here hx rfl (hb hby at_172) rfl (l' := #[.val (.int u0), .val (.int u1), .val (.int u2), .val (.int u3), .val (.int u4), .val (.int la), .val (.int lb), .val (.int ca0), .val (.int ca1), .val (.int cb0), .val (.int cb1), .val (.ref r3), .val (.ref r9), .val (.int (own_sgn ((own_key ca1) - (own_key cb1)))), .val (.int (own_cs la lb (own_ch ca0 ca1) (own_ch cb0 cb1))), .unset]) rfl k) ?_
              show Wp p e below _ (T29.setTop (mkF m 174 #[.val (.int u0), .val (.int u1), .val (.int u2), .val (.int u3), .val (.int u4), .val (.int la), .val (.int lb), .val (.int ca0), .val (.int ca1), .val (.int cb0), .val (.int cb1), .val (.ref r3), .val (.ref r9), .val (.int (own_sgn ((own_key ca1) - (own_key cb1)))), .val (.int (own_cs la lb (own_ch ca0 ca1) (own_ch cb0 cb1))), .unset] []))
              refine Wp.step (fun t k => XS.aload X29.here hx rfl (hb hby at_174) rfl rfl k) ?_
              show Wp p e below _ (T29.setTop (mkF m 176 #[.val (.int u0), .val (.int u1), .val (.int u2), .val (.int u3), .val (.int u4), .val (.int la), .val (.int lb), .val (.int ca0), .val (.int ca1), .val (.int cb0), .val (.int cb1), .val (.ref r3), .val (.ref r9), .val (.int (own_sgn ((own_key ca1) - (own_key cb1)))), .val (.int (own_cs la lb (own_ch ca0 ca1) (own_ch cb0 cb1))), .unset] [(.ref r9)]))
              refine Wp.step (fun t k => XS.aload X29.here hx rfl (hb hby at_176) rfl rfl k) ?_
              show Wp p e below _ (T29.setTop (mkF m 178 #[.val (.int u0), .val (.int u1), .val (.int u2), .val (.int u3), .val (.int u4), .val (.int la), .val (.int lb), .val (.int ca0), .val (.int ca1), .val (.int cb0), .val (.int cb1), .val (.ref r3), .val (.ref r9), .val (.int (own_sgn ((own_key ca1) - (own_key cb1)))), .val (.int (own_cs la lb (own_ch ca0 ca1) (own_ch cb0 cb1))), .unset] [(.ref r3), (.ref r9)]))
              obtain ⟨_, _, ⟨T30, L30, k30, n30⟩, -, X30, ⟨Lc30, hQ30, l30, y30, z30⟩, st30⟩ := Jvm.LawKit.callS X29 hx (y := (⟨"com/example/rank_merge/rankmerge/model/IdOrder", "compare", "(Ljava/lang/String;Ljava/lang/String;)I"⟩ : MethodName)) hown (mvT hZ (hw _ (List.mem_of_getElem? (i := 29) rfl))) (mvT hZ (hw _ (List.mem_of_getElem? (i := 30) rfl))) (mvT hZ (hw _ (List.mem_of_getElem? (i := 31) rfl))) (mvT hZ (hw _ (List.mem_of_getElem? (i := 32) rfl))) (by decide) (backOf (W := 0) (rm6 l Z a0 hw [] r9 r3 lb (own_ch cb0 cb1) la (own_ch ca0 ca1) cs fm h9 n0 (Nat.le_trans Z0 K9.1) c10 c11 c12 c13 c14 hcs hfm hS_9 hSa hD0 hD1 hC0 hC1) hZ (hw _ (List.mem_of_getElem? (i := 32) rfl)) (hw _ (List.mem_of_getElem? (i := 31) rfl)) (by decide) (by decide)) (g := (mkF m 178 #[.val (.int u0), .val (.int u1), .val (.int u2), .val (.int u3), .val (.int u4), .val (.int la), .val (.int lb), .val (.int ca0), .val (.int ca1), .val (.int cb0), .val (.int cb1), .val (.ref r3), .val (.ref r9), .val (.int (own_sgn ((own_key ca1) - (own_key cb1)))), .val (.int (own_cs la lb (own_ch ca0 ca1) (own_ch cb0 cb1))), .unset] [(.ref r3), (.ref r9)])) rfl (by rw [hml]; rfl) (argsL := [(.ref r9), (.ref r3)]) (rest := []) (lenOf pd_28Ljava2flang2fString3bLjava2flang2fString3b29I rfl) rfl (by show 2 * 0 + _ ≤ _; exact Nat.le_of_eq rfl) (hb hby at_178) (fun _ _ => ⟨rfl, e29, (by decide : 8 + 0 ≤ _), (by decide : 24 + 0 ≤ _)⟩)
              dsimp only [Pt.U, Pt.locs, Pt.cells, Pt.slots] at X30 l30 y30 z30 st30 hQ30
              subst l30 y30 z30
              obtain ⟨rfl, N30q, e30⟩ := hQ30
              have N30 := Fr.app N29 N30q
              refine Wp.step st30 ?_
              show Wp p e below _ (T30.setTop (mkF m 181 #[.val (.int u0), .val (.int u1), .val (.int u2), .val (.int u3), .val (.int u4), .val (.int la), .val (.int lb), .val (.int ca0), .val (.int ca1), .val (.int cb0), .val (.int cb1), .val (.ref r3), .val (.ref r9), .val (.int (own_sgn ((own_key ca1) - (own_key cb1)))), .val (.int (own_cs la lb (own_ch ca0 ca1) (own_ch cb0 cb1))), .unset] [(.int (own_cs lb la (own_ch cb0 cb1) (own_ch ca0 ca1)))]))
              refine Wp.step (fun t k => XS.istore X30.here hx rfl (hb hby at_181) rfl (l' := #[.val (.int u0), .val (.int u1), .val (.int u2), .val (.int u3), .val (.int u4), .val (.int la), .val (.int lb), .val (.int ca0), .val (.int ca1), .val (.int cb0), .val (.int cb1), .val (.ref r3), .val (.ref r9), .val (.int (own_sgn ((own_key ca1) - (own_key cb1)))), .val (.int (own_cs la lb (own_ch ca0 ca1) (own_ch cb0 cb1))), .val (.int (own_cs lb la (own_ch cb0 cb1) (own_ch ca0 ca1)))]) rfl k) ?_
              show Wp p e below _ (T30.setTop (mkF m 183 #[.val (.int u0), .val (.int u1), .val (.int u2), .val (.int u3), .val (.int u4), .val (.int la), .val (.int lb), .val (.int ca0), .val (.int ca1), .val (.int cb0), .val (.int cb1), .val (.ref r3), .val (.ref r9), .val (.int (own_sgn ((own_key ca1) - (own_key cb1)))), .val (.int (own_cs la lb (own_ch ca0 ca1) (own_ch cb0 cb1))), .val (.int (own_cs lb la (own_ch cb0 cb1) (own_ch ca0 ca1)))] []))
              refine Wp.step (fun t k => XS.iload X30.here hx rfl (hb hby at_183) rfl k) ?_
              show Wp p e below _ (T30.setTop (mkF m 185 #[.val (.int u0), .val (.int u1), .val (.int u2), .val (.int u3), .val (.int u4), .val (.int la), .val (.int lb), .val (.int ca0), .val (.int ca1), .val (.int cb0), .val (.int cb1), .val (.ref r3), .val (.ref r9), .val (.int (own_sgn ((own_key ca1) - (own_key cb1)))), .val (.int (own_cs la lb (own_ch ca0 ca1) (own_ch cb0 cb1))), .val (.int (own_cs lb la (own_ch cb0 cb1) (own_ch ca0 ca1)))] [(.int (own_cs la lb (own_ch ca0 ca1) (own_ch cb0 cb1)))]))
              obtain ⟨_, _, ⟨T31, L31, k31, n31⟩, -, X31, ⟨Lc31, hQ31, l31, y31, z31⟩, st31⟩ := Jvm.LawKit.callS X30 hx (y := (⟨"com/example/rank_merge/rankmerge/model/IdOrderComparePinLaw", "sign", "(I)I"⟩ : MethodName)) hown (mvT hZ (hw _ (List.mem_of_getElem? (i := 26) rfl))) (mvT hZ (hw _ (List.mem_of_getElem? (i := 27) rfl))) (mvT hZ (hw _ (List.mem_of_getElem? (i := 2) rfl))) (mvT hZ (hw _ (List.mem_of_getElem? (i := 28) rfl))) (by decide) (backOf (W := 0) (rm5 l Z a0 hw [] (own_cs la lb (own_ch ca0 ca1) (own_ch cb0 cb1))  h9 n0 (Nat.le_trans Z0 K9.1)  ) hZ (hw _ (List.mem_of_getElem? (i := 28) rfl)) (hw _ (List.mem_of_getElem? (i := 2) rfl)) (by decide) (by decide)) (g := (mkF m 185 #[.val (.int u0), .val (.int u1), .val (.int u2), .val (.int u3), .val (.int u4), .val (.int la), .val (.int lb), .val (.int ca0), .val (.int ca1), .val (.int cb0), .val (.int cb1), .val (.ref r3), .val (.ref r9), .val (.int (own_sgn ((own_key ca1) - (own_key cb1)))), .val (.int (own_cs la lb (own_ch ca0 ca1) (own_ch cb0 cb1))), .val (.int (own_cs lb la (own_ch cb0 cb1) (own_ch ca0 ca1)))] [(.int (own_cs la lb (own_ch ca0 ca1) (own_ch cb0 cb1)))])) rfl (by rw [hml]; rfl) (argsL := [(.int (own_cs la lb (own_ch ca0 ca1) (own_ch cb0 cb1)))]) (rest := []) (lenOf pd_28I29I rfl) rfl (by show 2 * 0 + _ ≤ _; exact Nat.le_of_eq rfl) (hb hby at_185) (fun _ _ => ⟨rfl, e30, (by decide : 8 + 0 ≤ _), (by decide : 24 + 0 ≤ _)⟩)
              dsimp only [Pt.U, Pt.locs, Pt.cells, Pt.slots] at X31 l31 y31 z31 st31 hQ31
              subst l31 y31 z31
              obtain ⟨rfl, N31q, e31⟩ := hQ31
              have N31 := Fr.app N30 N31q
              refine Wp.step st31 ?_
              show Wp p e below _ (T31.setTop (mkF m 188 #[.val (.int u0), .val (.int u1), .val (.int u2), .val (.int u3), .val (.int u4), .val (.int la), .val (.int lb), .val (.int ca0), .val (.int ca1), .val (.int cb0), .val (.int cb1), .val (.ref r3), .val (.ref r9), .val (.int (own_sgn ((own_key ca1) - (own_key cb1)))), .val (.int (own_cs la lb (own_ch ca0 ca1) (own_ch cb0 cb1))), .val (.int (own_cs lb la (own_ch cb0 cb1) (own_ch ca0 ca1)))] [(.int (own_sgn (own_cs la lb (own_ch ca0 ca1) (own_ch cb0 cb1))))]))
              refine Wp.step (fun t k => XS.iload X31.here hx rfl (hb hby at_188) rfl k) ?_
              show Wp p e below _ (T31.setTop (mkF m 190 #[.val (.int u0), .val (.int u1), .val (.int u2), .val (.int u3), .val (.int u4), .val (.int la), .val (.int lb), .val (.int ca0), .val (.int ca1), .val (.int cb0), .val (.int cb1), .val (.ref r3), .val (.ref r9), .val (.int (own_sgn ((own_key ca1) - (own_key cb1)))), .val (.int (own_cs la lb (own_ch ca0 ca1) (own_ch cb0 cb1))), .val (.int (own_cs lb la (own_ch cb0 cb1) (own_ch ca0 ca1)))] [(.int (own_sgn ((own_key ca1) - (own_key cb1)))), (.int (own_sgn (own_cs la lb (own_ch ca0 ca1) (own_ch cb0 cb1))))]))
              refine Wp.step (fun t k => XS.icmpNo X31.here hx rfl (hb hby at_190) rfl (teq (show (own_sgn (own_cs la lb (own_ch ca0 ca1) (own_ch cb0 cb1))) = (own_sgn ((own_key ca1) - (own_key cb1))) from (by rw [own_cs_sgn]; exact hEX))).2 k) ?_
              show Wp p e below _ (T31.setTop (mkF m 193 #[.val (.int u0), .val (.int u1), .val (.int u2), .val (.int u3), .val (.int u4), .val (.int la), .val (.int lb), .val (.int ca0), .val (.int ca1), .val (.int cb0), .val (.int cb1), .val (.ref r3), .val (.ref r9), .val (.int (own_sgn ((own_key ca1) - (own_key cb1)))), .val (.int (own_cs la lb (own_ch ca0 ca1) (own_ch cb0 cb1))), .val (.int (own_cs lb la (own_ch cb0 cb1) (own_ch ca0 ca1)))] []))
              refine Wp.step (fun t k => XS.iload X31.here hx rfl (hb hby at_193) rfl k) ?_
              show Wp p e below _ (T31.setTop (mkF m 195 #[.val (.int u0), .val (.int u1), .val (.int u2), .val (.int u3), .val (.int u4), .val (.int la), .val (.int lb), .val (.int ca0), .val (.int ca1), .val (.int cb0), .val (.int cb1), .val (.ref r3), .val (.ref r9), .val (.int (own_sgn ((own_key ca1) - (own_key cb1)))), .val (.int (own_cs la lb (own_ch ca0 ca1) (own_ch cb0 cb1))), .val (.int (own_cs lb la (own_ch cb0 cb1) (own_ch ca0 ca1)))] [(.int (own_cs lb la (own_ch cb0 cb1) (own_ch ca0 ca1)))]))
              obtain ⟨_, _, ⟨T33, L33, k33, n33⟩, -, X33, ⟨Lc33, hQ33, l33, y33, z33⟩, st33⟩ := Jvm.LawKit.callS X31 hx (y := (⟨"com/example/rank_merge/rankmerge/model/IdOrderComparePinLaw", "sign", "(I)I"⟩ : MethodName)) hown (mvT hZ (hw _ (List.mem_of_getElem? (i := 26) rfl))) (mvT hZ (hw _ (List.mem_of_getElem? (i := 27) rfl))) (mvT hZ (hw _ (List.mem_of_getElem? (i := 2) rfl))) (mvT hZ (hw _ (List.mem_of_getElem? (i := 28) rfl))) (by decide) (backOf (W := 0) (rm5 l Z a0 hw [] (own_cs lb la (own_ch cb0 cb1) (own_ch ca0 ca1))  h9 n0 (Nat.le_trans Z0 K9.1)  ) hZ (hw _ (List.mem_of_getElem? (i := 28) rfl)) (hw _ (List.mem_of_getElem? (i := 2) rfl)) (by decide) (by decide)) (g := (mkF m 195 #[.val (.int u0), .val (.int u1), .val (.int u2), .val (.int u3), .val (.int u4), .val (.int la), .val (.int lb), .val (.int ca0), .val (.int ca1), .val (.int cb0), .val (.int cb1), .val (.ref r3), .val (.ref r9), .val (.int (own_sgn ((own_key ca1) - (own_key cb1)))), .val (.int (own_cs la lb (own_ch ca0 ca1) (own_ch cb0 cb1))), .val (.int (own_cs lb la (own_ch cb0 cb1) (own_ch ca0 ca1)))] [(.int (own_cs lb la (own_ch cb0 cb1) (own_ch ca0 ca1)))])) rfl (by rw [hml]; rfl) (argsL := [(.int (own_cs lb la (own_ch cb0 cb1) (own_ch ca0 ca1)))]) (rest := []) (lenOf pd_28I29I rfl) rfl (by show 2 * 0 + _ ≤ _; exact Nat.le_of_eq rfl) (hb hby at_195) (fun _ _ => ⟨rfl, e31, (by decide : 8 + 0 ≤ _), (by decide : 24 + 0 ≤ _)⟩)
              dsimp only [Pt.U, Pt.locs, Pt.cells, Pt.slots] at X33 l33 y33 z33 st33 hQ33
              subst l33 y33 z33
              obtain ⟨rfl, N33q, e33⟩ := hQ33
              have N33 := Fr.app N31 N33q
              refine Wp.step st33 ?_
              show Wp p e below _ (T33.setTop (mkF m 198 #[.val (.int u0), .val (.int u1), .val (.int u2), .val (.int u3), .val (.int u4), .val (.int la), .val (.int lb), .val (.int ca0), .val (.int ca1), .val (.int cb0), .val (.int cb1), .val (.ref r3), .val (.ref r9), .val (.int (own_sgn ((own_key ca1) - (own_key cb1)))), .val (.int (own_cs la lb (own_ch ca0 ca1) (own_ch cb0 cb1))), .val (.int (own_cs lb la (own_ch cb0 cb1) (own_ch ca0 ca1)))] [(.int (own_sgn (own_cs lb la (own_ch cb0 cb1) (own_ch ca0 ca1))))]))
              refine Wp.step (fun t k => XS.iload X33.here hx rfl (hb hby at_198) rfl k) ?_
              show Wp p e below _ (T33.setTop (mkF m 200 #[.val (.int u0), .val (.int u1), .val (.int u2), .val (.int u3), .val (.int u4), .val (.int la), .val (.int lb), .val (.int ca0), .val (.int ca1), .val (.int cb0), .val (.int cb1), .val (.ref r3), .val (.ref r9), .val (.int (own_sgn ((own_key ca1) - (own_key cb1)))), .val (.int (own_cs la lb (own_ch ca0 ca1) (own_ch cb0 cb1))), .val (.int (own_cs lb la (own_ch cb0 cb1) (own_ch ca0 ca1)))] [(.int (own_sgn ((own_key ca1) - (own_key cb1)))), (.int (own_sgn (own_cs lb la (own_ch cb0 cb1) (own_ch ca0 ca1))))]))
              refine Wp.step (fun t k => XS.ineg X33.here hx rfl (hb hby at_200) rfl k) ?_
              show Wp p e below _ (T33.setTop (mkF m 201 #[.val (.int u0), .val (.int u1), .val (.int u2), .val (.int u3), .val (.int u4), .val (.int la), .val (.int lb), .val (.int ca0), .val (.int ca1), .val (.int cb0), .val (.int cb1), .val (.ref r3), .val (.ref r9), .val (.int (own_sgn ((own_key ca1) - (own_key cb1)))), .val (.int (own_cs la lb (own_ch ca0 ca1) (own_ch cb0 cb1))), .val (.int (own_cs lb la (own_ch cb0 cb1) (own_ch ca0 ca1)))] [(.int (-(own_sgn ((own_key ca1) - (own_key cb1))))), (.int (own_sgn (own_cs lb la (own_ch cb0 cb1) (own_ch ca0 ca1))))]))
              refine Wp.step (fun t k => XS.icmpNo X33.here hx rfl (hb hby at_201) rfl (teq (show (own_sgn (own_cs lb la (own_ch cb0 cb1) (own_ch ca0 ca1))) = (-(own_sgn ((own_key ca1) - (own_key cb1)))) from (by rw [own_cs_sgn, own_cs_swap, hEX]))).2 k) ?_
              show Wp p e below _ (T33.setTop (mkF m 204 #[.val (.int u0), .val (.int u1), .val (.int u2), .val (.int u3), .val (.int u4), .val (.int la), .val (.int lb), .val (.int ca0), .val (.int ca1), .val (.int cb0), .val (.int cb1), .val (.ref r3), .val (.ref r9), .val (.int (own_sgn ((own_key ca1) - (own_key cb1)))), .val (.int (own_cs la lb (own_ch ca0 ca1) (own_ch cb0 cb1))), .val (.int (own_cs lb la (own_ch cb0 cb1) (own_ch ca0 ca1)))] []))
              refine Wp.step (fun t k => XS.iconst X33.here hx rfl (hb hby at_204) k) ?_
              show Wp p e below _ (T33.setTop (mkF m 205 #[.val (.int u0), .val (.int u1), .val (.int u2), .val (.int u3), .val (.int u4), .val (.int la), .val (.int lb), .val (.int ca0), .val (.int ca1), .val (.int cb0), .val (.int cb1), .val (.ref r3), .val (.ref r9), .val (.int (own_sgn ((own_key ca1) - (own_key cb1)))), .val (.int (own_cs la lb (own_ch ca0 ca1) (own_ch cb0 cb1))), .val (.int (own_cs lb la (own_ch cb0 cb1) (own_ch ca0 ca1)))] [(.int (1 : Int32))]))
              refine Wp.step (fun t k => XS.goto X33.here hx rfl (pc0 := 205) (pc' := 209) rfl (hb hby at_205) (by decide) (by decide) k) ?_
              show Wp p e below _ (T33.setTop (mkF m 209 #[.val (.int u0), .val (.int u1), .val (.int u2), .val (.int u3), .val (.int u4), .val (.int la), .val (.int lb), .val (.int ca0), .val (.int ca1), .val (.int cb0), .val (.int cb1), .val (.ref r3), .val (.ref r9), .val (.int (own_sgn ((own_key ca1) - (own_key cb1)))), .val (.int (own_cs la lb (own_ch ca0 ca1) (own_ch cb0 cb1))), .val (.int (own_cs lb la (own_ch cb0 cb1) (own_ch ca0 ca1)))] [(.int (1 : Int32))]))
              refine Wp.retNX X33 hS (own_hk e33 hk) (by rw [e33]; exact hT) hx (t := .boolean) Bd.returns (by simp) (hb hby at_209) hlk ?_ (by decide) (by decide)
              show Q0 Z u0 u1 u2 u3 u4 cs fm h0 n0 (some (.int (nar .boolean (1 : Int32)))) T33.heap _
              rw [e33]
              exact ⟨rfl, N33⟩
          · refine Wp.step (fun t k => XS.icmpYes X9.here hx rfl (pc0 := 126) (pc' := 155) rfl (hb hby at_126) rfl (flt hc17).2.2.2 (by decide) (by decide) k) ?_
            show Wp p e below _ (T9.setTop (mkF m 155 #[.val (.int u0), .val (.int u1), .val (.int u2), .val (.int u3), .val (.int u4), .val (.int la), .val (.int lb), .val (.int ca0), .val (.int ca1), .val (.int cb0), .val (.int cb1), .val (.ref r3), .val (.ref r9), .unset, .unset, .unset] []))
            refine Wp.step (fun t k => XS.iload X9.here hx rfl (hb hby at_155) rfl k) ?_
            show Wp p e below _ (T9.setTop (mkF m 157 #[.val (.int u0), .val (.int u1), .val (.int u2), .val (.int u3), .val (.int u4), .val (.int la), .val (.int lb), .val (.int ca0), .val (.int ca1), .val (.int cb0), .val (.int cb1), .val (.ref r3), .val (.ref r9), .unset, .unset, .unset] [(.int la)]))
            refine Wp.step (fun t k => XS.iload X9.here hx rfl (hb hby at_157) rfl k) ?_
            show Wp p e below _ (T9.setTop (mkF m 159 #[.val (.int u0), .val (.int u1), .val (.int u2), .val (.int u3), .val (.int u4), .val (.int la), .val (.int lb), .val (.int ca0), .val (.int ca1), .val (.int cb0), .val (.int cb1), .val (.ref r3), .val (.ref r9), .unset, .unset, .unset] [(.int lb), (.int la)]))
            refine Wp.step (fun t k => XS.isub X9.here hx rfl (hb hby at_159) rfl k) ?_
            show Wp p e below _ (T9.setTop (mkF m 160 #[.val (.int u0), .val (.int u1), .val (.int u2), .val (.int u3), .val (.int u4), .val (.int la), .val (.int lb), .val (.int ca0), .val (.int ca1), .val (.int cb0), .val (.int cb1), .val (.ref r3), .val (.ref r9), .unset, .unset, .unset] [(.int (la - lb))]))
            obtain ⟨_, _, ⟨T35, L35, k35, n35⟩, -, X35, ⟨Lc35, hQ35, l35, y35, z35⟩, st35⟩ := Jvm.LawKit.callS X9 hx (y := (⟨"com/example/rank_merge/rankmerge/model/IdOrderComparePinLaw", "sign", "(I)I"⟩ : MethodName)) hown (mvT hZ (hw _ (List.mem_of_getElem? (i := 26) rfl))) (mvT hZ (hw _ (List.mem_of_getElem? (i := 27) rfl))) (mvT hZ (hw _ (List.mem_of_getElem? (i := 2) rfl))) (mvT hZ (hw _ (List.mem_of_getElem? (i := 28) rfl))) (by decide) (backOf (W := 0) (rm5 l Z a0 hw [] (la - lb)  h9 n0 (Nat.le_trans Z0 K9.1)  ) hZ (hw _ (List.mem_of_getElem? (i := 28) rfl)) (hw _ (List.mem_of_getElem? (i := 2) rfl)) (by decide) (by decide)) (g := (mkF m 160 #[.val (.int u0), .val (.int u1), .val (.int u2), .val (.int u3), .val (.int u4), .val (.int la), .val (.int lb), .val (.int ca0), .val (.int ca1), .val (.int cb0), .val (.int cb1), .val (.ref r3), .val (.ref r9), .unset, .unset, .unset] [(.int (la - lb))])) rfl (by rw [hml]; rfl) (argsL := [(.int (la - lb))]) (rest := []) (lenOf pd_28I29I rfl) rfl (by show 2 * 0 + _ ≤ _; exact Nat.le_of_eq rfl) (hb hby at_160) (fun _ _ => ⟨rfl, e9, (by decide : 8 + 0 ≤ _), (by decide : 24 + 0 ≤ _)⟩)
            dsimp only [Pt.U, Pt.locs, Pt.cells, Pt.slots] at X35 l35 y35 z35 st35 hQ35
            subst l35 y35 z35
            obtain ⟨rfl, N35q, e35⟩ := hQ35
            have N35 := Fr.app N9 N35q
            refine Wp.step st35 ?_
            show Wp p e below _ (T35.setTop (mkF m 163 #[.val (.int u0), .val (.int u1), .val (.int u2), .val (.int u3), .val (.int u4), .val (.int la), .val (.int lb), .val (.int ca0), .val (.int ca1), .val (.int cb0), .val (.int cb1), .val (.ref r3), .val (.ref r9), .unset, .unset, .unset] [(.int (own_sgn (la - lb)))]))
            refine Wp.step (fun t k => XS.istore X35.here hx rfl (hb hby at_163) rfl (l' := #[.val (.int u0), .val (.int u1), .val (.int u2), .val (.int u3), .val (.int u4), .val (.int la), .val (.int lb), .val (.int ca0), .val (.int ca1), .val (.int cb0), .val (.int cb1), .val (.ref r3), .val (.ref r9), .val (.int (own_sgn (la - lb))), .unset, .unset]) rfl k) ?_
            show Wp p e below _ (T35.setTop (mkF m 165 #[.val (.int u0), .val (.int u1), .val (.int u2), .val (.int u3), .val (.int u4), .val (.int la), .val (.int lb), .val (.int ca0), .val (.int ca1), .val (.int cb0), .val (.int cb1), .val (.ref r3), .val (.ref r9), .val (.int (own_sgn (la - lb))), .unset, .unset] []))
            have hEX : own_cs la lb (own_ch ca0 ca1) (own_ch cb0 cb1) = (own_sgn (la - lb)) := own_case2 hla hlb hN (fun q => hc17 q.2.1)
            refine Wp.step (fun t k => XS.aload X35.here hx rfl (hb hby at_165) rfl rfl k) ?_
            show Wp p e below _ (T35.setTop (mkF m 167 #[.val (.int u0), .val (.int u1), .val (.int u2), .val (.int u3), .val (.int u4), .val (.int la), .val (.int lb), .val (.int ca0), .val (.int ca1), .val (.int cb0), .val (.int cb1), .val (.ref r3), .val (.ref r9), .val (.int (own_sgn (la - lb))), .unset, .unset] [(.ref r3)]))
            refine Wp.step (fun t k => XS.aload X35.here hx rfl (hb hby at_167) rfl rfl k) ?_
            show Wp p e below _ (T35.setTop (mkF m 169 #[.val (.int u0), .val (.int u1), .val (.int u2), .val (.int u3), .val (.int u4), .val (.int la), .val (.int lb), .val (.int ca0), .val (.int ca1), .val (.int cb0), .val (.int cb1), .val (.ref r3), .val (.ref r9), .val (.int (own_sgn (la - lb))), .unset, .unset] [(.ref r9), (.ref r3)]))
            obtain ⟨_, _, ⟨T36, L36, k36, n36⟩, -, X36, ⟨Lc36, hQ36, l36, y36, z36⟩, st36⟩ := Jvm.LawKit.callS X35 hx (y := (⟨"com/example/rank_merge/rankmerge/model/IdOrder", "compare", "(Ljava/lang/String;Ljava/lang/String;)I"⟩ : MethodName)) hown (mvT hZ (hw _ (List.mem_of_getElem? (i := 29) rfl))) (mvT hZ (hw _ (List.mem_of_getElem? (i := 30) rfl))) (mvT hZ (hw _ (List.mem_of_getElem? (i := 31) rfl))) (mvT hZ (hw _ (List.mem_of_getElem? (i := 32) rfl))) (by decide) (backOf (W := 0) (rm6 l Z a0 hw [] r3 r9 la (own_ch ca0 ca1) lb (own_ch cb0 cb1) cs fm h9 n0 (Nat.le_trans Z0 K9.1) c10 c11 c12 c13 c14 hcs hfm hSa hS_9 hC0 hC1 hD0 hD1) hZ (hw _ (List.mem_of_getElem? (i := 32) rfl)) (hw _ (List.mem_of_getElem? (i := 31) rfl)) (by decide) (by decide)) (g := (mkF m 169 #[.val (.int u0), .val (.int u1), .val (.int u2), .val (.int u3), .val (.int u4), .val (.int la), .val (.int lb), .val (.int ca0), .val (.int ca1), .val (.int cb0), .val (.int cb1), .val (.ref r3), .val (.ref r9), .val (.int (own_sgn (la - lb))), .unset, .unset] [(.ref r9), (.ref r3)])) rfl (by rw [hml]; rfl) (argsL := [(.ref r3), (.ref r9)]) (rest := []) (lenOf pd_28Ljava2flang2fString3bLjava2flang2fString3b29I rfl) rfl (by show 2 * 0 + _ ≤ _; exact Nat.le_of_eq rfl) (hb hby at_169) (fun _ _ => ⟨rfl, e35, (by decide : 8 + 0 ≤ _), (by decide : 24 + 0 ≤ _)⟩)
            dsimp only [Pt.U, Pt.locs, Pt.cells, Pt.slots] at X36 l36 y36 z36 st36 hQ36
            subst l36 y36 z36
            obtain ⟨rfl, N36q, e36⟩ := hQ36
            have N36 := Fr.app N35 N36q
            refine Wp.step st36 ?_
            show Wp p e below _ (T36.setTop (mkF m 172 #[.val (.int u0), .val (.int u1), .val (.int u2), .val (.int u3), .val (.int u4), .val (.int la), .val (.int lb), .val (.int ca0), .val (.int ca1), .val (.int cb0), .val (.int cb1), .val (.ref r3), .val (.ref r9), .val (.int (own_sgn (la - lb))), .unset, .unset] [(.int (own_cs la lb (own_ch ca0 ca1) (own_ch cb0 cb1)))]))
            refine Wp.step (fun t k => XS.istore X36.here hx rfl (hb hby at_172) rfl (l' := #[.val (.int u0), .val (.int u1), .val (.int u2), .val (.int u3), .val (.int u4), .val (.int la), .val (.int lb), .val (.int ca0), .val (.int ca1), .val (.int cb0), .val (.int cb1), .val (.ref r3), .val (.ref r9), .val (.int (own_sgn (la - lb))), .val (.int (own_cs la lb (own_ch ca0 ca1) (own_ch cb0 cb1))), .unset]) rfl k) ?_
            show Wp p e below _ (T36.setTop (mkF m 174 #[.val (.int u0), .val (.int u1), .val (.int u2), .val (.int u3), .val (.int u4), .val (.int la), .val (.int lb), .val (.int ca0), .val (.int ca1), .val (.int cb0), .val (.int cb1), .val (.ref r3), .val (.ref r9), .val (.int (own_sgn (la - lb))), .val (.int (own_cs la lb (own_ch ca0 ca1) (own_ch cb0 cb1))), .unset] []))
            refine Wp.step (fun t k => XS.aload X36.here hx rfl (hb hby at_174) rfl rfl k) ?_
            show Wp p e below _ (T36.setTop (mkF m 176 #[.val (.int u0), .val (.int u1), .val (.int u2), .val (.int u3), .val (.int u4), .val (.int la), .val (.int lb), .val (.int ca0), .val (.int ca1), .val (.int cb0), .val (.int cb1), .val (.ref r3), .val (.ref r9), .val (.int (own_sgn (la - lb))), .val (.int (own_cs la lb (own_ch ca0 ca1) (own_ch cb0 cb1))), .unset] [(.ref r9)]))
            refine Wp.step (fun t k => XS.aload X36.here hx rfl (hb hby at_176) rfl rfl k) ?_
            show Wp p e below _ (T36.setTop (mkF m 178 #[.val (.int u0), .val (.int u1), .val (.int u2), .val (.int u3), .val (.int u4), .val (.int la), .val (.int lb), .val (.int ca0), .val (.int ca1), .val (.int cb0), .val (.int cb1), .val (.ref r3), .val (.ref r9), .val (.int (own_sgn (la - lb))), .val (.int (own_cs la lb (own_ch ca0 ca1) (own_ch cb0 cb1))), .unset] [(.ref r3), (.ref r9)]))
            obtain ⟨_, _, ⟨T37, L37, k37, n37⟩, -, X37, ⟨Lc37, hQ37, l37, y37, z37⟩, st37⟩ := Jvm.LawKit.callS X36 hx (y := (⟨"com/example/rank_merge/rankmerge/model/IdOrder", "compare", "(Ljava/lang/String;Ljava/lang/String;)I"⟩ : MethodName)) hown (mvT hZ (hw _ (List.mem_of_getElem? (i := 29) rfl))) (mvT hZ (hw _ (List.mem_of_getElem? (i := 30) rfl))) (mvT hZ (hw _ (List.mem_of_getElem? (i := 31) rfl))) (mvT hZ (hw _ (List.mem_of_getElem? (i := 32) rfl))) (by decide) (backOf (W := 0) (rm6 l Z a0 hw [] r9 r3 lb (own_ch cb0 cb1) la (own_ch ca0 ca1) cs fm h9 n0 (Nat.le_trans Z0 K9.1) c10 c11 c12 c13 c14 hcs hfm hS_9 hSa hD0 hD1 hC0 hC1) hZ (hw _ (List.mem_of_getElem? (i := 32) rfl)) (hw _ (List.mem_of_getElem? (i := 31) rfl)) (by decide) (by decide)) (g := (mkF m 178 #[.val (.int u0), .val (.int u1), .val (.int u2), .val (.int u3), .val (.int u4), .val (.int la), .val (.int lb), .val (.int ca0), .val (.int ca1), .val (.int cb0), .val (.int cb1), .val (.ref r3), .val (.ref r9), .val (.int (own_sgn (la - lb))), .val (.int (own_cs la lb (own_ch ca0 ca1) (own_ch cb0 cb1))), .unset] [(.ref r3), (.ref r9)])) rfl (by rw [hml]; rfl) (argsL := [(.ref r9), (.ref r3)]) (rest := []) (lenOf pd_28Ljava2flang2fString3bLjava2flang2fString3b29I rfl) rfl (by show 2 * 0 + _ ≤ _; exact Nat.le_of_eq rfl) (hb hby at_178) (fun _ _ => ⟨rfl, e36, (by decide : 8 + 0 ≤ _), (by decide : 24 + 0 ≤ _)⟩)
            dsimp only [Pt.U, Pt.locs, Pt.cells, Pt.slots] at X37 l37 y37 z37 st37 hQ37
            subst l37 y37 z37
            obtain ⟨rfl, N37q, e37⟩ := hQ37
            have N37 := Fr.app N36 N37q
            refine Wp.step st37 ?_
            show Wp p e below _ (T37.setTop (mkF m 181 #[.val (.int u0), .val (.int u1), .val (.int u2), .val (.int u3), .val (.int u4), .val (.int la), .val (.int lb), .val (.int ca0), .val (.int ca1), .val (.int cb0), .val (.int cb1), .val (.ref r3), .val (.ref r9), .val (.int (own_sgn (la - lb))), .val (.int (own_cs la lb (own_ch ca0 ca1) (own_ch cb0 cb1))), .unset] [(.int (own_cs lb la (own_ch cb0 cb1) (own_ch ca0 ca1)))]))
            refine Wp.step (fun t k => XS.istore X37.here hx rfl (hb hby at_181) rfl (l' := #[.val (.int u0), .val (.int u1), .val (.int u2), .val (.int u3), .val (.int u4), .val (.int la), .val (.int lb), .val (.int ca0), .val (.int ca1), .val (.int cb0), .val (.int cb1), .val (.ref r3), .val (.ref r9), .val (.int (own_sgn (la - lb))), .val (.int (own_cs la lb (own_ch ca0 ca1) (own_ch cb0 cb1))), .val (.int (own_cs lb la (own_ch cb0 cb1) (own_ch ca0 ca1)))]) rfl k) ?_
            show Wp p e below _ (T37.setTop (mkF m 183 #[.val (.int u0), .val (.int u1), .val (.int u2), .val (.int u3), .val (.int u4), .val (.int la), .val (.int lb), .val (.int ca0), .val (.int ca1), .val (.int cb0), .val (.int cb1), .val (.ref r3), .val (.ref r9), .val (.int (own_sgn (la - lb))), .val (.int (own_cs la lb (own_ch ca0 ca1) (own_ch cb0 cb1))), .val (.int (own_cs lb la (own_ch cb0 cb1) (own_ch ca0 ca1)))] []))
            refine Wp.step (fun t k => XS.iload X37.here hx rfl (hb hby at_183) rfl k) ?_
            show Wp p e below _ (T37.setTop (mkF m 185 #[.val (.int u0), .val (.int u1), .val (.int u2), .val (.int u3), .val (.int u4), .val (.int la), .val (.int lb), .val (.int ca0), .val (.int ca1), .val (.int cb0), .val (.int cb1), .val (.ref r3), .val (.ref r9), .val (.int (own_sgn (la - lb))), .val (.int (own_cs la lb (own_ch ca0 ca1) (own_ch cb0 cb1))), .val (.int (own_cs lb la (own_ch cb0 cb1) (own_ch ca0 ca1)))] [(.int (own_cs la lb (own_ch ca0 ca1) (own_ch cb0 cb1)))]))
            obtain ⟨_, _, ⟨T38, L38, k38, n38⟩, -, X38, ⟨Lc38, hQ38, l38, y38, z38⟩, st38⟩ := Jvm.LawKit.callS X37 hx (y := (⟨"com/example/rank_merge/rankmerge/model/IdOrderComparePinLaw", "sign", "(I)I"⟩ : MethodName)) hown (mvT hZ (hw _ (List.mem_of_getElem? (i := 26) rfl))) (mvT hZ (hw _ (List.mem_of_getElem? (i := 27) rfl))) (mvT hZ (hw _ (List.mem_of_getElem? (i := 2) rfl))) (mvT hZ (hw _ (List.mem_of_getElem? (i := 28) rfl))) (by decide) (backOf (W := 0) (rm5 l Z a0 hw [] (own_cs la lb (own_ch ca0 ca1) (own_ch cb0 cb1))  h9 n0 (Nat.le_trans Z0 K9.1)  ) hZ (hw _ (List.mem_of_getElem? (i := 28) rfl)) (hw _ (List.mem_of_getElem? (i := 2) rfl)) (by decide) (by decide)) (g := (mkF m 185 #[.val (.int u0), .val (.int u1), .val (.int u2), .val (.int u3), .val (.int u4), .val (.int la), .val (.int lb), .val (.int ca0), .val (.int ca1), .val (.int cb0), .val (.int cb1), .val (.ref r3), .val (.ref r9), .val (.int (own_sgn (la - lb))), .val (.int (own_cs la lb (own_ch ca0 ca1) (own_ch cb0 cb1))), .val (.int (own_cs lb la (own_ch cb0 cb1) (own_ch ca0 ca1)))] [(.int (own_cs la lb (own_ch ca0 ca1) (own_ch cb0 cb1)))])) rfl (by rw [hml]; rfl) (argsL := [(.int (own_cs la lb (own_ch ca0 ca1) (own_ch cb0 cb1)))]) (rest := []) (lenOf pd_28I29I rfl) rfl (by show 2 * 0 + _ ≤ _; exact Nat.le_of_eq rfl) (hb hby at_185) (fun _ _ => ⟨rfl, e37, (by decide : 8 + 0 ≤ _), (by decide : 24 + 0 ≤ _)⟩)
            dsimp only [Pt.U, Pt.locs, Pt.cells, Pt.slots] at X38 l38 y38 z38 st38 hQ38
            subst l38 y38 z38
            obtain ⟨rfl, N38q, e38⟩ := hQ38
            have N38 := Fr.app N37 N38q
            refine Wp.step st38 ?_
            show Wp p e below _ (T38.setTop (mkF m 188 #[.val (.int u0), .val (.int u1), .val (.int u2), .val (.int u3), .val (.int u4), .val (.int la), .val (.int lb), .val (.int ca0), .val (.int ca1), .val (.int cb0), .val (.int cb1), .val (.ref r3), .val (.ref r9), .val (.int (own_sgn (la - lb))), .val (.int (own_cs la lb (own_ch ca0 ca1) (own_ch cb0 cb1))), .val (.int (own_cs lb la (own_ch cb0 cb1) (own_ch ca0 ca1)))] [(.int (own_sgn (own_cs la lb (own_ch ca0 ca1) (own_ch cb0 cb1))))]))
            refine Wp.step (fun t k => XS.iload X38.here hx rfl (hb hby at_188) rfl k) ?_
            show Wp p e below _ (T38.setTop (mkF m 190 #[.val (.int u0), .val (.int u1), .val (.int u2), .val (.int u3), .val (.int u4), .val (.int la), .val (.int lb), .val (.int ca0), .val (.int ca1), .val (.int cb0), .val (.int cb1), .val (.ref r3), .val (.ref r9), .val (.int (own_sgn (la - lb))), .val (.int (own_cs la lb (own_ch ca0 ca1) (own_ch cb0 cb1))), .val (.int (own_cs lb la (own_ch cb0 cb1) (own_ch ca0 ca1)))] [(.int (own_sgn (la - lb))), (.int (own_sgn (own_cs la lb (own_ch ca0 ca1) (own_ch cb0 cb1))))]))
            refine Wp.step (fun t k => XS.icmpNo X38.here hx rfl (hb hby at_190) rfl (teq (show (own_sgn (own_cs la lb (own_ch ca0 ca1) (own_ch cb0 cb1))) = (own_sgn (la - lb)) from (by rw [own_cs_sgn]; exact hEX))).2 k) ?_
            show Wp p e below _ (T38.setTop (mkF m 193 #[.val (.int u0), .val (.int u1), .val (.int u2), .val (.int u3), .val (.int u4), .val (.int la), .val (.int lb), .val (.int ca0), .val (.int ca1), .val (.int cb0), .val (.int cb1), .val (.ref r3), .val (.ref r9), .val (.int (own_sgn (la - lb))), .val (.int (own_cs la lb (own_ch ca0 ca1) (own_ch cb0 cb1))), .val (.int (own_cs lb la (own_ch cb0 cb1) (own_ch ca0 ca1)))] []))
            refine Wp.step (fun t k => XS.iload X38.here hx rfl (hb hby at_193) rfl k) ?_
            show Wp p e below _ (T38.setTop (mkF m 195 #[.val (.int u0), .val (.int u1), .val (.int u2), .val (.int u3), .val (.int u4), .val (.int la), .val (.int lb), .val (.int ca0), .val (.int ca1), .val (.int cb0), .val (.int cb1), .val (.ref r3), .val (.ref r9), .val (.int (own_sgn (la - lb))), .val (.int (own_cs la lb (own_ch ca0 ca1) (own_ch cb0 cb1))), .val (.int (own_cs lb la (own_ch cb0 cb1) (own_ch ca0 ca1)))] [(.int (own_cs lb la (own_ch cb0 cb1) (own_ch ca0 ca1)))]))
            obtain ⟨_, _, ⟨T40, L40, k40, n40⟩, -, X40, ⟨Lc40, hQ40, l40, y40, z40⟩, st40⟩ := Jvm.LawKit.callS X38 hx (y := (⟨"com/example/rank_merge/rankmerge/model/IdOrderComparePinLaw", "sign", "(I)I"⟩ : MethodName)) hown (mvT hZ (hw _ (List.mem_of_getElem? (i := 26) rfl))) (mvT hZ (hw _ (List.mem_of_getElem? (i := 27) rfl))) (mvT hZ (hw _ (List.mem_of_getElem? (i := 2) rfl))) (mvT hZ (hw _ (List.mem_of_getElem? (i := 28) rfl))) (by decide) (backOf (W := 0) (rm5 l Z a0 hw [] (own_cs lb la (own_ch cb0 cb1) (own_ch ca0 ca1))  h9 n0 (Nat.le_trans Z0 K9.1)  ) hZ (hw _ (List.mem_of_getElem? (i := 28) rfl)) (hw _ (List.mem_of_getElem? (i := 2) rfl)) (by decide) (by decide)) (g := (mkF m 195 #[.val (.int u0), .val (.int u1), .val (.int u2), .val (.int u3), .val (.int u4), .val (.int la), .val (.int lb), .val (.int ca0), .val (.int ca1), .val (.int cb0), .val (.int cb1), .val (.ref r3), .val (.ref r9), .val (.int (own_sgn (la - lb))), .val (.int (own_cs la lb (own_ch ca0 ca1) (own_ch cb0 cb1))), .val (.int (own_cs lb la (own_ch cb0 cb1) (own_ch ca0 ca1)))] [(.int (own_cs lb la (own_ch cb0 cb1) (own_ch ca0 ca1)))])) rfl (by rw [hml]; rfl) (argsL := [(.int (own_cs lb la (own_ch cb0 cb1) (own_ch ca0 ca1)))]) (rest := []) (lenOf pd_28I29I rfl) rfl (by show 2 * 0 + _ ≤ _; exact Nat.le_of_eq rfl) (hb hby at_195) (fun _ _ => ⟨rfl, e38, (by decide : 8 + 0 ≤ _), (by decide : 24 + 0 ≤ _)⟩)
            dsimp only [Pt.U, Pt.locs, Pt.cells, Pt.slots] at X40 l40 y40 z40 st40 hQ40
            subst l40 y40 z40
            obtain ⟨rfl, N40q, e40⟩ := hQ40
            have N40 := Fr.app N38 N40q
            refine Wp.step st40 ?_
            show Wp p e below _ (T40.setTop (mkF m 198 #[.val (.int u0), .val (.int u1), .val (.int u2), .val (.int u3), .val (.int u4), .val (.int la), .val (.int lb), .val (.int ca0), .val (.int ca1), .val (.int cb0), .val (.int cb1), .val (.ref r3), .val (.ref r9), .val (.int (own_sgn (la - lb))), .val (.int (own_cs la lb (own_ch ca0 ca1) (own_ch cb0 cb1))), .val (.int (own_cs lb la (own_ch cb0 cb1) (own_ch ca0 ca1)))] [(.int (own_sgn (own_cs lb la (own_ch cb0 cb1) (own_ch ca0 ca1))))]))
            refine Wp.step (fun t k => XS.iload X40.here hx rfl (hb hby at_198) rfl k) ?_
            show Wp p e below _ (T40.setTop (mkF m 200 #[.val (.int u0), .val (.int u1), .val (.int u2), .val (.int u3), .val (.int u4), .val (.int la), .val (.int lb), .val (.int ca0), .val (.int ca1), .val (.int cb0), .val (.int cb1), .val (.ref r3), .val (.ref r9), .val (.int (own_sgn (la - lb))), .val (.int (own_cs la lb (own_ch ca0 ca1) (own_ch cb0 cb1))), .val (.int (own_cs lb la (own_ch cb0 cb1) (own_ch ca0 ca1)))] [(.int (own_sgn (la - lb))), (.int (own_sgn (own_cs lb la (own_ch cb0 cb1) (own_ch ca0 ca1))))]))
            refine Wp.step (fun t k => XS.ineg X40.here hx rfl (hb hby at_200) rfl k) ?_
            show Wp p e below _ (T40.setTop (mkF m 201 #[.val (.int u0), .val (.int u1), .val (.int u2), .val (.int u3), .val (.int u4), .val (.int la), .val (.int lb), .val (.int ca0), .val (.int ca1), .val (.int cb0), .val (.int cb1), .val (.ref r3), .val (.ref r9), .val (.int (own_sgn (la - lb))), .val (.int (own_cs la lb (own_ch ca0 ca1) (own_ch cb0 cb1))), .val (.int (own_cs lb la (own_ch cb0 cb1) (own_ch ca0 ca1)))] [(.int (-(own_sgn (la - lb)))), (.int (own_sgn (own_cs lb la (own_ch cb0 cb1) (own_ch ca0 ca1))))]))
            refine Wp.step (fun t k => XS.icmpNo X40.here hx rfl (hb hby at_201) rfl (teq (show (own_sgn (own_cs lb la (own_ch cb0 cb1) (own_ch ca0 ca1))) = (-(own_sgn (la - lb))) from (by rw [own_cs_sgn, own_cs_swap, hEX]))).2 k) ?_
            show Wp p e below _ (T40.setTop (mkF m 204 #[.val (.int u0), .val (.int u1), .val (.int u2), .val (.int u3), .val (.int u4), .val (.int la), .val (.int lb), .val (.int ca0), .val (.int ca1), .val (.int cb0), .val (.int cb1), .val (.ref r3), .val (.ref r9), .val (.int (own_sgn (la - lb))), .val (.int (own_cs la lb (own_ch ca0 ca1) (own_ch cb0 cb1))), .val (.int (own_cs lb la (own_ch cb0 cb1) (own_ch ca0 ca1)))] []))
            refine Wp.step (fun t k => XS.iconst X40.here hx rfl (hb hby at_204) k) ?_
            show Wp p e below _ (T40.setTop (mkF m 205 #[.val (.int u0), .val (.int u1), .val (.int u2), .val (.int u3), .val (.int u4), .val (.int la), .val (.int lb), .val (.int ca0), .val (.int ca1), .val (.int cb0), .val (.int cb1), .val (.ref r3), .val (.ref r9), .val (.int (own_sgn (la - lb))), .val (.int (own_cs la lb (own_ch ca0 ca1) (own_ch cb0 cb1))), .val (.int (own_cs lb la (own_ch cb0 cb1) (own_ch ca0 ca1)))] [(.int (1 : Int32))]))
            refine Wp.step (fun t k => XS.goto X40.here hx rfl (pc0 := 205) (pc' := 209) rfl (hb hby at_205) (by decide) (by decide) k) ?_
            show Wp p e below _ (T40.setTop (mkF m 209 #[.val (.int u0), .val (.int u1), .val (.int u2), .val (.int u3), .val (.int u4), .val (.int la), .val (.int lb), .val (.int ca0), .val (.int ca1), .val (.int cb0), .val (.int cb1), .val (.ref r3), .val (.ref r9), .val (.int (own_sgn (la - lb))), .val (.int (own_cs la lb (own_ch ca0 ca1) (own_ch cb0 cb1))), .val (.int (own_cs lb la (own_ch cb0 cb1) (own_ch ca0 ca1)))] [(.int (1 : Int32))]))
            refine Wp.retNX X40 hS (own_hk e40 hk) (by rw [e40]; exact hT) hx (t := .boolean) Bd.returns (by simp) (hb hby at_209) hlk ?_ (by decide) (by decide)
            show Q0 Z u0 u1 u2 u3 u4 cs fm h0 n0 (some (.int (nar .boolean (1 : Int32)))) T40.heap _
            rw [e40]
            exact ⟨rfl, N40⟩
        · refine Wp.step (fun t k => XS.icmpYes X9.here hx rfl (pc0 := 120) (pc' := 155) rfl (hb hby at_120) rfl (flt hc16).2.2.2 (by decide) (by decide) k) ?_
          show Wp p e below _ (T9.setTop (mkF m 155 #[.val (.int u0), .val (.int u1), .val (.int u2), .val (.int u3), .val (.int u4), .val (.int la), .val (.int lb), .val (.int ca0), .val (.int ca1), .val (.int cb0), .val (.int cb1), .val (.ref r3), .val (.ref r9), .unset, .unset, .unset] []))
          refine Wp.step (fun t k => XS.iload X9.here hx rfl (hb hby at_155) rfl k) ?_
          show Wp p e below _ (T9.setTop (mkF m 157 #[.val (.int u0), .val (.int u1), .val (.int u2), .val (.int u3), .val (.int u4), .val (.int la), .val (.int lb), .val (.int ca0), .val (.int ca1), .val (.int cb0), .val (.int cb1), .val (.ref r3), .val (.ref r9), .unset, .unset, .unset] [(.int la)]))
          refine Wp.step (fun t k => XS.iload X9.here hx rfl (hb hby at_157) rfl k) ?_
          show Wp p e below _ (T9.setTop (mkF m 159 #[.val (.int u0), .val (.int u1), .val (.int u2), .val (.int u3), .val (.int u4), .val (.int la), .val (.int lb), .val (.int ca0), .val (.int ca1), .val (.int cb0), .val (.int cb1), .val (.ref r3), .val (.ref r9), .unset, .unset, .unset] [(.int lb), (.int la)]))
          refine Wp.step (fun t k => XS.isub X9.here hx rfl (hb hby at_159) rfl k) ?_
          show Wp p e below _ (T9.setTop (mkF m 160 #[.val (.int u0), .val (.int u1), .val (.int u2), .val (.int u3), .val (.int u4), .val (.int la), .val (.int lb), .val (.int ca0), .val (.int ca1), .val (.int cb0), .val (.int cb1), .val (.ref r3), .val (.ref r9), .unset, .unset, .unset] [(.int (la - lb))]))
          obtain ⟨_, _, ⟨T42, L42, k42, n42⟩, -, X42, ⟨Lc42, hQ42, l42, y42, z42⟩, st42⟩ := Jvm.LawKit.callS X9 hx (y := (⟨"com/example/rank_merge/rankmerge/model/IdOrderComparePinLaw", "sign", "(I)I"⟩ : MethodName)) hown (mvT hZ (hw _ (List.mem_of_getElem? (i := 26) rfl))) (mvT hZ (hw _ (List.mem_of_getElem? (i := 27) rfl))) (mvT hZ (hw _ (List.mem_of_getElem? (i := 2) rfl))) (mvT hZ (hw _ (List.mem_of_getElem? (i := 28) rfl))) (by decide) (backOf (W := 0) (rm5 l Z a0 hw [] (la - lb)  h9 n0 (Nat.le_trans Z0 K9.1)  ) hZ (hw _ (List.mem_of_getElem? (i := 28) rfl)) (hw _ (List.mem_of_getElem? (i := 2) rfl)) (by decide) (by decide)) (g := (mkF m 160 #[.val (.int u0), .val (.int u1), .val (.int u2), .val (.int u3), .val (.int u4), .val (.int la), .val (.int lb), .val (.int ca0), .val (.int ca1), .val (.int cb0), .val (.int cb1), .val (.ref r3), .val (.ref r9), .unset, .unset, .unset] [(.int (la - lb))])) rfl (by rw [hml]; rfl) (argsL := [(.int (la - lb))]) (rest := []) (lenOf pd_28I29I rfl) rfl (by show 2 * 0 + _ ≤ _; exact Nat.le_of_eq rfl) (hb hby at_160) (fun _ _ => ⟨rfl, e9, (by decide : 8 + 0 ≤ _), (by decide : 24 + 0 ≤ _)⟩)
          dsimp only [Pt.U, Pt.locs, Pt.cells, Pt.slots] at X42 l42 y42 z42 st42 hQ42
          subst l42 y42 z42
          obtain ⟨rfl, N42q, e42⟩ := hQ42
          have N42 := Fr.app N9 N42q
          refine Wp.step st42 ?_
          show Wp p e below _ (T42.setTop (mkF m 163 #[.val (.int u0), .val (.int u1), .val (.int u2), .val (.int u3), .val (.int u4), .val (.int la), .val (.int lb), .val (.int ca0), .val (.int ca1), .val (.int cb0), .val (.int cb1), .val (.ref r3), .val (.ref r9), .unset, .unset, .unset] [(.int (own_sgn (la - lb)))]))
          refine Wp.step (fun t k => XS.istore X42.here hx rfl (hb hby at_163) rfl (l' := #[.val (.int u0), .val (.int u1), .val (.int u2), .val (.int u3), .val (.int u4), .val (.int la), .val (.int lb), .val (.int ca0), .val (.int ca1), .val (.int cb0), .val (.int cb1), .val (.ref r3), .val (.ref r9), .val (.int (own_sgn (la - lb))), .unset, .unset]) rfl k) ?_
          show Wp p e below _ (T42.setTop (mkF m 165 #[.val (.int u0), .val (.int u1), .val (.int u2), .val (.int u3), .val (.int u4), .val (.int la), .val (.int lb), .val (.int ca0), .val (.int ca1), .val (.int cb0), .val (.int cb1), .val (.ref r3), .val (.ref r9), .val (.int (own_sgn (la - lb))), .unset, .unset] []))
          have hEX : own_cs la lb (own_ch ca0 ca1) (own_ch cb0 cb1) = (own_sgn (la - lb)) := own_case2 hla hlb hN (fun q => hc16 q.1)
          refine Wp.step (fun t k => XS.aload X42.here hx rfl (hb hby at_165) rfl rfl k) ?_
          show Wp p e below _ (T42.setTop (mkF m 167 #[.val (.int u0), .val (.int u1), .val (.int u2), .val (.int u3), .val (.int u4), .val (.int la), .val (.int lb), .val (.int ca0), .val (.int ca1), .val (.int cb0), .val (.int cb1), .val (.ref r3), .val (.ref r9), .val (.int (own_sgn (la - lb))), .unset, .unset] [(.ref r3)]))
          refine Wp.step (fun t k => XS.aload X42.here hx rfl (hb hby at_167) rfl rfl k) ?_
          show Wp p e below _ (T42.setTop (mkF m 169 #[.val (.int u0), .val (.int u1), .val (.int u2), .val (.int u3), .val (.int u4), .val (.int la), .val (.int lb), .val (.int ca0), .val (.int ca1), .val (.int cb0), .val (.int cb1), .val (.ref r3), .val (.ref r9), .val (.int (own_sgn (la - lb))), .unset, .unset] [(.ref r9), (.ref r3)]))
          obtain ⟨_, _, ⟨T43, L43, k43, n43⟩, -, X43, ⟨Lc43, hQ43, l43, y43, z43⟩, st43⟩ := Jvm.LawKit.callS X42 hx (y := (⟨"com/example/rank_merge/rankmerge/model/IdOrder", "compare", "(Ljava/lang/String;Ljava/lang/String;)I"⟩ : MethodName)) hown (mvT hZ (hw _ (List.mem_of_getElem? (i := 29) rfl))) (mvT hZ (hw _ (List.mem_of_getElem? (i := 30) rfl))) (mvT hZ (hw _ (List.mem_of_getElem? (i := 31) rfl))) (mvT hZ (hw _ (List.mem_of_getElem? (i := 32) rfl))) (by decide) (backOf (W := 0) (rm6 l Z a0 hw [] r3 r9 la (own_ch ca0 ca1) lb (own_ch cb0 cb1) cs fm h9 n0 (Nat.le_trans Z0 K9.1) c10 c11 c12 c13 c14 hcs hfm hSa hS_9 hC0 hC1 hD0 hD1) hZ (hw _ (List.mem_of_getElem? (i := 32) rfl)) (hw _ (List.mem_of_getElem? (i := 31) rfl)) (by decide) (by decide)) (g := (mkF m 169 #[.val (.int u0), .val (.int u1), .val (.int u2), .val (.int u3), .val (.int u4), .val (.int la), .val (.int lb), .val (.int ca0), .val (.int ca1), .val (.int cb0), .val (.int cb1), .val (.ref r3), .val (.ref r9), .val (.int (own_sgn (la - lb))), .unset, .unset] [(.ref r9), (.ref r3)])) rfl (by rw [hml]; rfl) (argsL := [(.ref r3), (.ref r9)]) (rest := []) (lenOf pd_28Ljava2flang2fString3bLjava2flang2fString3b29I rfl) rfl (by show 2 * 0 + _ ≤ _; exact Nat.le_of_eq rfl) (hb hby at_169) (fun _ _ => ⟨rfl, e42, (by decide : 8 + 0 ≤ _), (by decide : 24 + 0 ≤ _)⟩)
          dsimp only [Pt.U, Pt.locs, Pt.cells, Pt.slots] at X43 l43 y43 z43 st43 hQ43
          subst l43 y43 z43
          obtain ⟨rfl, N43q, e43⟩ := hQ43
          have N43 := Fr.app N42 N43q
          refine Wp.step st43 ?_
          show Wp p e below _ (T43.setTop (mkF m 172 #[.val (.int u0), .val (.int u1), .val (.int u2), .val (.int u3), .val (.int u4), .val (.int la), .val (.int lb), .val (.int ca0), .val (.int ca1), .val (.int cb0), .val (.int cb1), .val (.ref r3), .val (.ref r9), .val (.int (own_sgn (la - lb))), .unset, .unset] [(.int (own_cs la lb (own_ch ca0 ca1) (own_ch cb0 cb1)))]))
          refine Wp.step (fun t k => XS.istore X43.here hx rfl (hb hby at_172) rfl (l' := #[.val (.int u0), .val (.int u1), .val (.int u2), .val (.int u3), .val (.int u4), .val (.int la), .val (.int lb), .val (.int ca0), .val (.int ca1), .val (.int cb0), .val (.int cb1), .val (.ref r3), .val (.ref r9), .val (.int (own_sgn (la - lb))), .val (.int (own_cs la lb (own_ch ca0 ca1) (own_ch cb0 cb1))), .unset]) rfl k) ?_
          show Wp p e below _ (T43.setTop (mkF m 174 #[.val (.int u0), .val (.int u1), .val (.int u2), .val (.int u3), .val (.int u4), .val (.int la), .val (.int lb), .val (.int ca0), .val (.int ca1), .val (.int cb0), .val (.int cb1), .val (.ref r3), .val (.ref r9), .val (.int (own_sgn (la - lb))), .val (.int (own_cs la lb (own_ch ca0 ca1) (own_ch cb0 cb1))), .unset] []))
          refine Wp.step (fun t k => XS.aload X43.here hx rfl (hb hby at_174) rfl rfl k) ?_
          show Wp p e below _ (T43.setTop (mkF m 176 #[.val (.int u0), .val (.int u1), .val (.int u2), .val (.int u3), .val (.int u4), .val (.int la), .val (.int lb), .val (.int ca0), .val (.int ca1), .val (.int cb0), .val (.int cb1), .val (.ref r3), .val (.ref r9), .val (.int (own_sgn (la - lb))), .val (.int (own_cs la lb (own_ch ca0 ca1) (own_ch cb0 cb1))), .unset] [(.ref r9)]))
          refine Wp.step (fun t k => XS.aload X43.here hx rfl (hb hby at_176) rfl rfl k) ?_
          show Wp p e below _ (T43.setTop (mkF m 178 #[.val (.int u0), .val (.int u1), .val (.int u2), .val (.int u3), .val (.int u4), .val (.int la), .val (.int lb), .val (.int ca0), .val (.int ca1), .val (.int cb0), .val (.int cb1), .val (.ref r3), .val (.ref r9), .val (.int (own_sgn (la - lb))), .val (.int (own_cs la lb (own_ch ca0 ca1) (own_ch cb0 cb1))), .unset] [(.ref r3), (.ref r9)]))
          obtain ⟨_, _, ⟨T44, L44, k44, n44⟩, -, X44, ⟨Lc44, hQ44, l44, y44, z44⟩, st44⟩ := Jvm.LawKit.callS X43 hx (y := (⟨"com/example/rank_merge/rankmerge/model/IdOrder", "compare", "(Ljava/lang/String;Ljava/lang/String;)I"⟩ : MethodName)) hown (mvT hZ (hw _ (List.mem_of_getElem? (i := 29) rfl))) (mvT hZ (hw _ (List.mem_of_getElem? (i := 30) rfl))) (mvT hZ (hw _ (List.mem_of_getElem? (i := 31) rfl))) (mvT hZ (hw _ (List.mem_of_getElem? (i := 32) rfl))) (by decide) (backOf (W := 0) (rm6 l Z a0 hw [] r9 r3 lb (own_ch cb0 cb1) la (own_ch ca0 ca1) cs fm h9 n0 (Nat.le_trans Z0 K9.1) c10 c11 c12 c13 c14 hcs hfm hS_9 hSa hD0 hD1 hC0 hC1) hZ (hw _ (List.mem_of_getElem? (i := 32) rfl)) (hw _ (List.mem_of_getElem? (i := 31) rfl)) (by decide) (by decide)) (g := (mkF m 178 #[.val (.int u0), .val (.int u1), .val (.int u2), .val (.int u3), .val (.int u4), .val (.int la), .val (.int lb), .val (.int ca0), .val (.int ca1), .val (.int cb0), .val (.int cb1), .val (.ref r3), .val (.ref r9), .val (.int (own_sgn (la - lb))), .val (.int (own_cs la lb (own_ch ca0 ca1) (own_ch cb0 cb1))), .unset] [(.ref r3), (.ref r9)])) rfl (by rw [hml]; rfl) (argsL := [(.ref r9), (.ref r3)]) (rest := []) (lenOf pd_28Ljava2flang2fString3bLjava2flang2fString3b29I rfl) rfl (by show 2 * 0 + _ ≤ _; exact Nat.le_of_eq rfl) (hb hby at_178) (fun _ _ => ⟨rfl, e43, (by decide : 8 + 0 ≤ _), (by decide : 24 + 0 ≤ _)⟩)
          dsimp only [Pt.U, Pt.locs, Pt.cells, Pt.slots] at X44 l44 y44 z44 st44 hQ44
          subst l44 y44 z44
          obtain ⟨rfl, N44q, e44⟩ := hQ44
          have N44 := Fr.app N43 N44q
          refine Wp.step st44 ?_
          show Wp p e below _ (T44.setTop (mkF m 181 #[.val (.int u0), .val (.int u1), .val (.int u2), .val (.int u3), .val (.int u4), .val (.int la), .val (.int lb), .val (.int ca0), .val (.int ca1), .val (.int cb0), .val (.int cb1), .val (.ref r3), .val (.ref r9), .val (.int (own_sgn (la - lb))), .val (.int (own_cs la lb (own_ch ca0 ca1) (own_ch cb0 cb1))), .unset] [(.int (own_cs lb la (own_ch cb0 cb1) (own_ch ca0 ca1)))]))
          refine Wp.step (fun t k => XS.istore X44.here hx rfl (hb hby at_181) rfl (l' := #[.val (.int u0), .val (.int u1), .val (.int u2), .val (.int u3), .val (.int u4), .val (.int la), .val (.int lb), .val (.int ca0), .val (.int ca1), .val (.int cb0), .val (.int cb1), .val (.ref r3), .val (.ref r9), .val (.int (own_sgn (la - lb))), .val (.int (own_cs la lb (own_ch ca0 ca1) (own_ch cb0 cb1))), .val (.int (own_cs lb la (own_ch cb0 cb1) (own_ch ca0 ca1)))]) rfl k) ?_
          show Wp p e below _ (T44.setTop (mkF m 183 #[.val (.int u0), .val (.int u1), .val (.int u2), .val (.int u3), .val (.int u4), .val (.int la), .val (.int lb), .val (.int ca0), .val (.int ca1), .val (.int cb0), .val (.int cb1), .val (.ref r3), .val (.ref r9), .val (.int (own_sgn (la - lb))), .val (.int (own_cs la lb (own_ch ca0 ca1) (own_ch cb0 cb1))), .val (.int (own_cs lb la (own_ch cb0 cb1) (own_ch ca0 ca1)))] []))
          refine Wp.step (fun t k => XS.iload X44.here hx rfl (hb hby at_183) rfl k) ?_
          show Wp p e below _ (T44.setTop (mkF m 185 #[.val (.int u0), .val (.int u1), .val (.int u2), .val (.int u3), .val (.int u4), .val (.int la), .val (.int lb), .val (.int ca0), .val (.int ca1), .val (.int cb0), .val (.int cb1), .val (.ref r3), .val (.ref r9), .val (.int (own_sgn (la - lb))), .val (.int (own_cs la lb (own_ch ca0 ca1) (own_ch cb0 cb1))), .val (.int (own_cs lb la (own_ch cb0 cb1) (own_ch ca0 ca1)))] [(.int (own_cs la lb (own_ch ca0 ca1) (own_ch cb0 cb1)))]))
          obtain ⟨_, _, ⟨T45, L45, k45, n45⟩, -, X45, ⟨Lc45, hQ45, l45, y45, z45⟩, st45⟩ := Jvm.LawKit.callS X44 hx (y := (⟨"com/example/rank_merge/rankmerge/model/IdOrderComparePinLaw", "sign", "(I)I"⟩ : MethodName)) hown (mvT hZ (hw _ (List.mem_of_getElem? (i := 26) rfl))) (mvT hZ (hw _ (List.mem_of_getElem? (i := 27) rfl))) (mvT hZ (hw _ (List.mem_of_getElem? (i := 2) rfl))) (mvT hZ (hw _ (List.mem_of_getElem? (i := 28) rfl))) (by decide) (backOf (W := 0) (rm5 l Z a0 hw [] (own_cs la lb (own_ch ca0 ca1) (own_ch cb0 cb1))  h9 n0 (Nat.le_trans Z0 K9.1)  ) hZ (hw _ (List.mem_of_getElem? (i := 28) rfl)) (hw _ (List.mem_of_getElem? (i := 2) rfl)) (by decide) (by decide)) (g := (mkF m 185 #[.val (.int u0), .val (.int u1), .val (.int u2), .val (.int u3), .val (.int u4), .val (.int la), .val (.int lb), .val (.int ca0), .val (.int ca1), .val (.int cb0), .val (.int cb1), .val (.ref r3), .val (.ref r9), .val (.int (own_sgn (la - lb))), .val (.int (own_cs la lb (own_ch ca0 ca1) (own_ch cb0 cb1))), .val (.int (own_cs lb la (own_ch cb0 cb1) (own_ch ca0 ca1)))] [(.int (own_cs la lb (own_ch ca0 ca1) (own_ch cb0 cb1)))])) rfl (by rw [hml]; rfl) (argsL := [(.int (own_cs la lb (own_ch ca0 ca1) (own_ch cb0 cb1)))]) (rest := []) (lenOf pd_28I29I rfl) rfl (by show 2 * 0 + _ ≤ _; exact Nat.le_of_eq rfl) (hb hby at_185) (fun _ _ => ⟨rfl, e44, (by decide : 8 + 0 ≤ _), (by decide : 24 + 0 ≤ _)⟩)
          dsimp only [Pt.U, Pt.locs, Pt.cells, Pt.slots] at X45 l45 y45 z45 st45 hQ45
          subst l45 y45 z45
          obtain ⟨rfl, N45q, e45⟩ := hQ45
          have N45 := Fr.app N44 N45q
          refine Wp.step st45 ?_
          show Wp p e below _ (T45.setTop (mkF m 188 #[.val (.int u0), .val (.int u1), .val (.int u2), .val (.int u3), .val (.int u4), .val (.int la), .val (.int lb), .val (.int ca0), .val (.int ca1), .val (.int cb0), .val (.int cb1), .val (.ref r3), .val (.ref r9), .val (.int (own_sgn (la - lb))), .val (.int (own_cs la lb (own_ch ca0 ca1) (own_ch cb0 cb1))), .val (.int (own_cs lb la (own_ch cb0 cb1) (own_ch ca0 ca1)))] [(.int (own_sgn (own_cs la lb (own_ch ca0 ca1) (own_ch cb0 cb1))))]))
          refine Wp.step (fun t k => XS.iload X45.here hx rfl (hb hby at_188) rfl k) ?_
          show Wp p e below _ (T45.setTop (mkF m 190 #[.val (.int u0), .val (.int u1), .val (.int u2), .val (.int u3), .val (.int u4), .val (.int la), .val (.int lb), .val (.int ca0), .val (.int ca1), .val (.int cb0), .val (.int cb1), .val (.ref r3), .val (.ref r9), .val (.int (own_sgn (la - lb))), .val (.int (own_cs la lb (own_ch ca0 ca1) (own_ch cb0 cb1))), .val (.int (own_cs lb la (own_ch cb0 cb1) (own_ch ca0 ca1)))] [(.int (own_sgn (la - lb))), (.int (own_sgn (own_cs la lb (own_ch ca0 ca1) (own_ch cb0 cb1))))]))
          refine Wp.step (fun t k => XS.icmpNo X45.here hx rfl (hb hby at_190) rfl (teq (show (own_sgn (own_cs la lb (own_ch ca0 ca1) (own_ch cb0 cb1))) = (own_sgn (la - lb)) from (by rw [own_cs_sgn]; exact hEX))).2 k) ?_
          show Wp p e below _ (T45.setTop (mkF m 193 #[.val (.int u0), .val (.int u1), .val (.int u2), .val (.int u3), .val (.int u4), .val (.int la), .val (.int lb), .val (.int ca0), .val (.int ca1), .val (.int cb0), .val (.int cb1), .val (.ref r3), .val (.ref r9), .val (.int (own_sgn (la - lb))), .val (.int (own_cs la lb (own_ch ca0 ca1) (own_ch cb0 cb1))), .val (.int (own_cs lb la (own_ch cb0 cb1) (own_ch ca0 ca1)))] []))
          refine Wp.step (fun t k => XS.iload X45.here hx rfl (hb hby at_193) rfl k) ?_
          show Wp p e below _ (T45.setTop (mkF m 195 #[.val (.int u0), .val (.int u1), .val (.int u2), .val (.int u3), .val (.int u4), .val (.int la), .val (.int lb), .val (.int ca0), .val (.int ca1), .val (.int cb0), .val (.int cb1), .val (.ref r3), .val (.ref r9), .val (.int (own_sgn (la - lb))), .val (.int (own_cs la lb (own_ch ca0 ca1) (own_ch cb0 cb1))), .val (.int (own_cs lb la (own_ch cb0 cb1) (own_ch ca0 ca1)))] [(.int (own_cs lb la (own_ch cb0 cb1) (own_ch ca0 ca1)))]))
          obtain ⟨_, _, ⟨T47, L47, k47, n47⟩, -, X47, ⟨Lc47, hQ47, l47, y47, z47⟩, st47⟩ := Jvm.LawKit.callS X45 hx (y := (⟨"com/example/rank_merge/rankmerge/model/IdOrderComparePinLaw", "sign", "(I)I"⟩ : MethodName)) hown (mvT hZ (hw _ (List.mem_of_getElem? (i := 26) rfl))) (mvT hZ (hw _ (List.mem_of_getElem? (i := 27) rfl))) (mvT hZ (hw _ (List.mem_of_getElem? (i := 2) rfl))) (mvT hZ (hw _ (List.mem_of_getElem? (i := 28) rfl))) (by decide) (backOf (W := 0) (rm5 l Z a0 hw [] (own_cs lb la (own_ch cb0 cb1) (own_ch ca0 ca1))  h9 n0 (Nat.le_trans Z0 K9.1)  ) hZ (hw _ (List.mem_of_getElem? (i := 28) rfl)) (hw _ (List.mem_of_getElem? (i := 2) rfl)) (by decide) (by decide)) (g := (mkF m 195 #[.val (.int u0), .val (.int u1), .val (.int u2), .val (.int u3), .val (.int u4), .val (.int la), .val (.int lb), .val (.int ca0), .val (.int ca1), .val (.int cb0), .val (.int cb1), .val (.ref r3), .val (.ref r9), .val (.int (own_sgn (la - lb))), .val (.int (own_cs la lb (own_ch ca0 ca1) (own_ch cb0 cb1))), .val (.int (own_cs lb la (own_ch cb0 cb1) (own_ch ca0 ca1)))] [(.int (own_cs lb la (own_ch cb0 cb1) (own_ch ca0 ca1)))])) rfl (by rw [hml]; rfl) (argsL := [(.int (own_cs lb la (own_ch cb0 cb1) (own_ch ca0 ca1)))]) (rest := []) (lenOf pd_28I29I rfl) rfl (by show 2 * 0 + _ ≤ _; exact Nat.le_of_eq rfl) (hb hby at_195) (fun _ _ => ⟨rfl, e45, (by decide : 8 + 0 ≤ _), (by decide : 24 + 0 ≤ _)⟩)
          dsimp only [Pt.U, Pt.locs, Pt.cells, Pt.slots] at X47 l47 y47 z47 st47 hQ47
          subst l47 y47 z47
          obtain ⟨rfl, N47q, e47⟩ := hQ47
          have N47 := Fr.app N45 N47q
          refine Wp.step st47 ?_
          show Wp p e below _ (T47.setTop (mkF m 198 #[.val (.int u0), .val (.int u1), .val (.int u2), .val (.int u3), .val (.int u4), .val (.int la), .val (.int lb), .val (.int ca0), .val (.int ca1), .val (.int cb0), .val (.int cb1), .val (.ref r3), .val (.ref r9), .val (.int (own_sgn (la - lb))), .val (.int (own_cs la lb (own_ch ca0 ca1) (own_ch cb0 cb1))), .val (.int (own_cs lb la (own_ch cb0 cb1) (own_ch ca0 ca1)))] [(.int (own_sgn (own_cs lb la (own_ch cb0 cb1) (own_ch ca0 ca1))))]))
          refine Wp.step (fun t k => XS.iload X47.here hx rfl (hb hby at_198) rfl k) ?_
          show Wp p e below _ (T47.setTop (mkF m 200 #[.val (.int u0), .val (.int u1), .val (.int u2), .val (.int u3), .val (.int u4), .val (.int la), .val (.int lb), .val (.int ca0), .val (.int ca1), .val (.int cb0), .val (.int cb1), .val (.ref r3), .val (.ref r9), .val (.int (own_sgn (la - lb))), .val (.int (own_cs la lb (own_ch ca0 ca1) (own_ch cb0 cb1))), .val (.int (own_cs lb la (own_ch cb0 cb1) (own_ch ca0 ca1)))] [(.int (own_sgn (la - lb))), (.int (own_sgn (own_cs lb la (own_ch cb0 cb1) (own_ch ca0 ca1))))]))
          refine Wp.step (fun t k => XS.ineg X47.here hx rfl (hb hby at_200) rfl k) ?_
          show Wp p e below _ (T47.setTop (mkF m 201 #[.val (.int u0), .val (.int u1), .val (.int u2), .val (.int u3), .val (.int u4), .val (.int la), .val (.int lb), .val (.int ca0), .val (.int ca1), .val (.int cb0), .val (.int cb1), .val (.ref r3), .val (.ref r9), .val (.int (own_sgn (la - lb))), .val (.int (own_cs la lb (own_ch ca0 ca1) (own_ch cb0 cb1))), .val (.int (own_cs lb la (own_ch cb0 cb1) (own_ch ca0 ca1)))] [(.int (-(own_sgn (la - lb)))), (.int (own_sgn (own_cs lb la (own_ch cb0 cb1) (own_ch ca0 ca1))))]))
          refine Wp.step (fun t k => XS.icmpNo X47.here hx rfl (hb hby at_201) rfl (teq (show (own_sgn (own_cs lb la (own_ch cb0 cb1) (own_ch ca0 ca1))) = (-(own_sgn (la - lb))) from (by rw [own_cs_sgn, own_cs_swap, hEX]))).2 k) ?_
          show Wp p e below _ (T47.setTop (mkF m 204 #[.val (.int u0), .val (.int u1), .val (.int u2), .val (.int u3), .val (.int u4), .val (.int la), .val (.int lb), .val (.int ca0), .val (.int ca1), .val (.int cb0), .val (.int cb1), .val (.ref r3), .val (.ref r9), .val (.int (own_sgn (la - lb))), .val (.int (own_cs la lb (own_ch ca0 ca1) (own_ch cb0 cb1))), .val (.int (own_cs lb la (own_ch cb0 cb1) (own_ch ca0 ca1)))] []))
          refine Wp.step (fun t k => XS.iconst X47.here hx rfl (hb hby at_204) k) ?_
          show Wp p e below _ (T47.setTop (mkF m 205 #[.val (.int u0), .val (.int u1), .val (.int u2), .val (.int u3), .val (.int u4), .val (.int la), .val (.int lb), .val (.int ca0), .val (.int ca1), .val (.int cb0), .val (.int cb1), .val (.ref r3), .val (.ref r9), .val (.int (own_sgn (la - lb))), .val (.int (own_cs la lb (own_ch ca0 ca1) (own_ch cb0 cb1))), .val (.int (own_cs lb la (own_ch cb0 cb1) (own_ch ca0 ca1)))] [(.int (1 : Int32))]))
          refine Wp.step (fun t k => XS.goto X47.here hx rfl (pc0 := 205) (pc' := 209) rfl (hb hby at_205) (by decide) (by decide) k) ?_
          show Wp p e below _ (T47.setTop (mkF m 209 #[.val (.int u0), .val (.int u1), .val (.int u2), .val (.int u3), .val (.int u4), .val (.int la), .val (.int lb), .val (.int ca0), .val (.int ca1), .val (.int cb0), .val (.int cb1), .val (.ref r3), .val (.ref r9), .val (.int (own_sgn (la - lb))), .val (.int (own_cs la lb (own_ch ca0 ca1) (own_ch cb0 cb1))), .val (.int (own_cs lb la (own_ch cb0 cb1) (own_ch ca0 ca1)))] [(.int (1 : Int32))]))
          refine Wp.retNX X47 hS (own_hk e47 hk) (by rw [e47]; exact hT) hx (t := .boolean) Bd.returns (by simp) (hb hby at_209) hlk ?_ (by decide) (by decide)
          show Q0 Z u0 u1 u2 u3 u4 cs fm h0 n0 (some (.int (nar .boolean (1 : Int32)))) T47.heap _
          rw [e47]
          exact ⟨rfl, N47⟩
      refine Wp.step (fun t k => XS.iload X9.here hx rfl (hb hby at_81) rfl k) ?_
      show Wp p e below _ (T9.setTop (mkF m 83 #[.val (.int u0), .val (.int u1), .val (.int u2), .val (.int u3), .val (.int u4), .val (.int la), .val (.int lb), .val (.int ca0), .val (.int ca1), .val (.int cb0), .val (.int cb1), .val (.ref r3), .val (.ref r9), .unset, .unset, .unset] [(.int la)]))
      by_cases hc49 : (0 : Int32) < la
      · refine Wp.step (fun t k => XS.ifNo X9.here hx rfl (hb hby at_83) rfl ((if0 _ _).trans (tlt hc49).2.2.2) k) ?_
        show Wp p e below _ (T9.setTop (mkF m 86 #[.val (.int u0), .val (.int u1), .val (.int u2), .val (.int u3), .val (.int u4), .val (.int la), .val (.int lb), .val (.int ca0), .val (.int ca1), .val (.int cb0), .val (.int cb1), .val (.ref r3), .val (.ref r9), .unset, .unset, .unset] []))
        refine Wp.step (fun t k => XS.iload X9.here hx rfl (hb hby at_86) rfl k) ?_
        show Wp p e below _ (T9.setTop (mkF m 88 #[.val (.int u0), .val (.int u1), .val (.int u2), .val (.int u3), .val (.int u4), .val (.int la), .val (.int lb), .val (.int ca0), .val (.int ca1), .val (.int cb0), .val (.int cb1), .val (.ref r3), .val (.ref r9), .unset, .unset, .unset] [(.int lb)]))
        by_cases hc50 : (0 : Int32) < lb
        · refine Wp.step (fun t k => XS.ifNo X9.here hx rfl (hb hby at_88) rfl ((if0 _ _).trans (tlt hc50).2.2.2) k) ?_
          show Wp p e below _ (T9.setTop (mkF m 91 #[.val (.int u0), .val (.int u1), .val (.int u2), .val (.int u3), .val (.int u4), .val (.int la), .val (.int lb), .val (.int ca0), .val (.int ca1), .val (.int cb0), .val (.int cb1), .val (.ref r3), .val (.ref r9), .unset, .unset, .unset] []))
          refine Wp.step (fun t k => XS.iload X9.here hx rfl (hb hby at_91) rfl k) ?_
          show Wp p e below _ (T9.setTop (mkF m 93 #[.val (.int u0), .val (.int u1), .val (.int u2), .val (.int u3), .val (.int u4), .val (.int la), .val (.int lb), .val (.int ca0), .val (.int ca1), .val (.int cb0), .val (.int cb1), .val (.ref r3), .val (.ref r9), .unset, .unset, .unset] [(.int ca0)]))
          refine Wp.step (fun t k => XS.iload X9.here hx rfl (hb hby at_93) rfl k) ?_
          show Wp p e below _ (T9.setTop (mkF m 95 #[.val (.int u0), .val (.int u1), .val (.int u2), .val (.int u3), .val (.int u4), .val (.int la), .val (.int lb), .val (.int ca0), .val (.int ca1), .val (.int cb0), .val (.int cb1), .val (.ref r3), .val (.ref r9), .unset, .unset, .unset] [(.int cb0), (.int ca0)]))
          by_cases hc51 : ca0 = cb0
          · refine Wp.step (fun t k => XS.icmpYes X9.here hx rfl (pc0 := 95) (pc' := 117) rfl (hb hby at_95) rfl (teq hc51).1 (by decide) (by decide) k) ?_
            show Wp p e below _ (T9.setTop (mkF m 117 #[.val (.int u0), .val (.int u1), .val (.int u2), .val (.int u3), .val (.int u4), .val (.int la), .val (.int lb), .val (.int ca0), .val (.int ca1), .val (.int cb0), .val (.int cb1), .val (.ref r3), .val (.ref r9), .unset, .unset, .unset] []))
            exact kont15 (fun q => q.2.2 hc51)
          · refine Wp.step (fun t k => XS.icmpNo X9.here hx rfl (hb hby at_95) rfl (feq hc51).1 k) ?_
            show Wp p e below _ (T9.setTop (mkF m 98 #[.val (.int u0), .val (.int u1), .val (.int u2), .val (.int u3), .val (.int u4), .val (.int la), .val (.int lb), .val (.int ca0), .val (.int ca1), .val (.int cb0), .val (.int cb1), .val (.ref r3), .val (.ref r9), .unset, .unset, .unset] []))
            refine Wp.step (fun t k => XS.iload X9.here hx rfl (hb hby at_98) rfl k) ?_
            show Wp p e below _ (T9.setTop (mkF m 100 #[.val (.int u0), .val (.int u1), .val (.int u2), .val (.int u3), .val (.int u4), .val (.int la), .val (.int lb), .val (.int ca0), .val (.int ca1), .val (.int cb0), .val (.int cb1), .val (.ref r3), .val (.ref r9), .unset, .unset, .unset] [(.int ca0)]))
            obtain ⟨_, _, ⟨T52, L52, k52, n52⟩, -, X52, ⟨Lc52, hQ52, l52, y52, z52⟩, st52⟩ := Jvm.LawKit.callS X9 hx (y := (⟨"com/example/rank_merge/rankmerge/model/IdOrderComparePinLaw", "key", "(C)I"⟩ : MethodName)) hown (mvT hZ (hw _ (List.mem_of_getElem? (i := 62) rfl))) (mvT hZ (hw _ (List.mem_of_getElem? (i := 63) rfl))) (mvT hZ (hw _ (List.mem_of_getElem? (i := 2) rfl))) (mvT hZ (hw _ (List.mem_of_getElem? (i := 64) rfl))) (by decide) (backOf (W := 0) (rm14 l Z a0 hw [] ca0  h9 n0 (Nat.le_trans Z0 K9.1)  ) hZ (hw _ (List.mem_of_getElem? (i := 64) rfl)) (hw _ (List.mem_of_getElem? (i := 2) rfl)) (by decide) (by decide)) (g := (mkF m 100 #[.val (.int u0), .val (.int u1), .val (.int u2), .val (.int u3), .val (.int u4), .val (.int la), .val (.int lb), .val (.int ca0), .val (.int ca1), .val (.int cb0), .val (.int cb1), .val (.ref r3), .val (.ref r9), .unset, .unset, .unset] [(.int ca0)])) rfl (by rw [hml]; rfl) (argsL := [(.int ca0)]) (rest := []) (lenOf pd_28C29I rfl) rfl (by show 2 * 0 + _ ≤ _; exact Nat.le_of_eq rfl) (hb hby at_100) (fun _ _ => ⟨rfl, e9, (by decide : 8 + 0 ≤ _), (by decide : 24 + 0 ≤ _)⟩)
            dsimp only [Pt.U, Pt.locs, Pt.cells, Pt.slots] at X52 l52 y52 z52 st52 hQ52
            subst l52 y52 z52
            obtain ⟨rfl, N52q, e52⟩ := hQ52
            have N52 := Fr.app N9 N52q
            refine Wp.step st52 ?_
            show Wp p e below _ (T52.setTop (mkF m 103 #[.val (.int u0), .val (.int u1), .val (.int u2), .val (.int u3), .val (.int u4), .val (.int la), .val (.int lb), .val (.int ca0), .val (.int ca1), .val (.int cb0), .val (.int cb1), .val (.ref r3), .val (.ref r9), .unset, .unset, .unset] [(.int (own_key ca0))]))
            refine Wp.step (fun t k => XS.iload X52.here hx rfl (hb hby at_103) rfl k) ?_
            show Wp p e below _ (T52.setTop (mkF m 105 #[.val (.int u0), .val (.int u1), .val (.int u2), .val (.int u3), .val (.int u4), .val (.int la), .val (.int lb), .val (.int ca0), .val (.int ca1), .val (.int cb0), .val (.int cb1), .val (.ref r3), .val (.ref r9), .unset, .unset, .unset] [(.int cb0), (.int (own_key ca0))]))
            obtain ⟨_, _, ⟨T53, L53, k53, n53⟩, -, X53, ⟨Lc53, hQ53, l53, y53, z53⟩, st53⟩ := Jvm.LawKit.callS X52 hx (y := (⟨"com/example/rank_merge/rankmerge/model/IdOrderComparePinLaw", "key", "(C)I"⟩ : MethodName)) hown (mvT hZ (hw _ (List.mem_of_getElem? (i := 62) rfl))) (mvT hZ (hw _ (List.mem_of_getElem? (i := 63) rfl))) (mvT hZ (hw _ (List.mem_of_getElem? (i := 2) rfl))) (mvT hZ (hw _ (List.mem_of_getElem? (i := 64) rfl))) (by decide) (backOf (W := 1) (rm14 l Z a0 hw [] cb0  h9 n0 (Nat.le_trans Z0 K9.1)  ) hZ (hw _ (List.mem_of_getElem? (i := 64) rfl)) (hw _ (List.mem_of_getElem? (i := 2) rfl)) (by decide) (by decide)) (g := (mkF m 105 #[.val (.int u0), .val (.int u1), .val (.int u2), .val (.int u3), .val (.int u4), .val (.int la), .val (.int lb), .val (.int ca0), .val (.int ca1), .val (.int cb0), .val (.int cb1), .val (.ref r3), .val (.ref r9), .unset, .unset, .unset] [(.int cb0), (.int (own_key ca0))])) rfl (by rw [hml]; rfl) (argsL := [(.int cb0)]) (rest := [(.int (own_key ca0))]) (lenOf pd_28C29I rfl) rfl (by show 2 * 0 + _ ≤ _; exact Nat.le_of_eq rfl) (hb hby at_105) (fun _ _ => ⟨rfl, e52, (by decide : 8 + 0 ≤ _), (by decide : 24 + 0 ≤ _)⟩)
            dsimp only [Pt.U, Pt.locs, Pt.cells, Pt.slots] at X53 l53 y53 z53 st53 hQ53
            subst l53 y53 z53
            obtain ⟨rfl, N53q, e53⟩ := hQ53
            have N53 := Fr.app N52 N53q
            refine Wp.step st53 ?_
            show Wp p e below _ (T53.setTop (mkF m 108 #[.val (.int u0), .val (.int u1), .val (.int u2), .val (.int u3), .val (.int u4), .val (.int la), .val (.int lb), .val (.int ca0), .val (.int ca1), .val (.int cb0), .val (.int cb1), .val (.ref r3), .val (.ref r9), .unset, .unset, .unset] [(.int (own_key cb0)), (.int (own_key ca0))]))
            refine Wp.step (fun t k => XS.isub X53.here hx rfl (hb hby at_108) rfl k) ?_
            show Wp p e below _ (T53.setTop (mkF m 109 #[.val (.int u0), .val (.int u1), .val (.int u2), .val (.int u3), .val (.int u4), .val (.int la), .val (.int lb), .val (.int ca0), .val (.int ca1), .val (.int cb0), .val (.int cb1), .val (.ref r3), .val (.ref r9), .unset, .unset, .unset] [(.int ((own_key ca0) - (own_key cb0)))]))
            obtain ⟨_, _, ⟨T54, L54, k54, n54⟩, -, X54, ⟨Lc54, hQ54, l54, y54, z54⟩, st54⟩ := Jvm.LawKit.callS X53 hx (y := (⟨"com/example/rank_merge/rankmerge/model/IdOrderComparePinLaw", "sign", "(I)I"⟩ : MethodName)) hown (mvT hZ (hw _ (List.mem_of_getElem? (i := 26) rfl))) (mvT hZ (hw _ (List.mem_of_getElem? (i := 27) rfl))) (mvT hZ (hw _ (List.mem_of_getElem? (i := 2) rfl))) (mvT hZ (hw _ (List.mem_of_getElem? (i := 28) rfl))) (by decide) (backOf (W := 0) (rm5 l Z a0 hw [] ((own_key ca0) - (own_key cb0))  h9 n0 (Nat.le_trans Z0 K9.1)  ) hZ (hw _ (List.mem_of_getElem? (i := 28) rfl)) (hw _ (List.mem_of_getElem? (i := 2) rfl)) (by decide) (by decide)) (g := (mkF m 109 #[.val (.int u0), .val (.int u1), .val (.int u2), .val (.int u3), .val (.int u4), .val (.int la), .val (.int lb), .val (.int ca0), .val (.int ca1), .val (.int cb0), .val (.int cb1), .val (.ref r3), .val (.ref r9), .unset, .unset, .unset] [(.int ((own_key ca0) - (own_key cb0)))])) rfl (by rw [hml]; rfl) (argsL := [(.int ((own_key ca0) - (own_key cb0)))]) (rest := []) (lenOf pd_28I29I rfl) rfl (by show 2 * 0 + _ ≤ _; exact Nat.le_of_eq rfl) (hb hby at_109) (fun _ _ => ⟨rfl, e53, (by decide : 8 + 0 ≤ _), (by decide : 24 + 0 ≤ _)⟩)
            dsimp only [Pt.U, Pt.locs, Pt.cells, Pt.slots] at X54 l54 y54 z54 st54 hQ54
            subst l54 y54 z54
            obtain ⟨rfl, N54q, e54⟩ := hQ54
            have N54 := Fr.app N53 N54q
            refine Wp.step st54 ?_
            show Wp p e below _ (T54.setTop (mkF m 112 #[.val (.int u0), .val (.int u1), .val (.int u2), .val (.int u3), .val (.int u4), .val (.int la), .val (.int lb), .val (.int ca0), .val (.int ca1), .val (.int cb0), .val (.int cb1), .val (.ref r3), .val (.ref r9), .unset, .unset, .unset] [(.int (own_sgn ((own_key ca0) - (own_key cb0))))]))
            refine Wp.step (fun t k => XS.istore X54.here hx rfl (hb hby at_112) rfl (l' := #[.val (.int u0), .val (.int u1), .val (.int u2), .val (.int u3), .val (.int u4), .val (.int la), .val (.int lb), .val (.int ca0), .val (.int ca1), .val (.int cb0), .val (.int cb1), .val (.ref r3), .val (.ref r9), .val (.int (own_sgn ((own_key ca0) - (own_key cb0)))), .unset, .unset]) rfl k) ?_
            show Wp p e below _ (T54.setTop (mkF m 114 #[.val (.int u0), .val (.int u1), .val (.int u2), .val (.int u3), .val (.int u4), .val (.int la), .val (.int lb), .val (.int ca0), .val (.int ca1), .val (.int cb0), .val (.int cb1), .val (.ref r3), .val (.ref r9), .val (.int (own_sgn ((own_key ca0) - (own_key cb0)))), .unset, .unset] []))
            refine Wp.step (fun t k => XS.goto X54.here hx rfl (pc0 := 114) (pc' := 165) rfl (hb hby at_114) (by decide) (by decide) k) ?_
            show Wp p e below _ (T54.setTop (mkF m 165 #[.val (.int u0), .val (.int u1), .val (.int u2), .val (.int u3), .val (.int u4), .val (.int la), .val (.int lb), .val (.int ca0), .val (.int ca1), .val (.int cb0), .val (.int cb1), .val (.ref r3), .val (.ref r9), .val (.int (own_sgn ((own_key ca0) - (own_key cb0)))), .unset, .unset] []))
            have hEX : own_cs la lb (own_ch ca0 ca1) (own_ch cb0 cb1) = (own_sgn ((own_key ca0) - (own_key cb0))) := own_case0 hC0 hD0 hc49 hc50 hc51
            refine Wp.step (fun t k => XS.aload X54.here hx rfl (hb hby at_165) rfl rfl k) ?_
            show Wp p e below _ (T54.setTop (mkF m 167 #[.val (.int u0), .val (.int u1), .val (.int u2), .val (.int u3), .val (.int u4), .val (.int la), .val (.int lb), .val (.int ca0), .val (.int ca1), .val (.int cb0), .val (.int cb1), .val (.ref r3), .val (.ref r9), .val (.int (own_sgn ((own_key ca0) - (own_key cb0)))), .unset, .unset] [(.ref r3)]))
            refine Wp.step (fun t k => XS.aload X54.here hx rfl (hb hby at_167) rfl rfl k) ?_
            show Wp p e below _ (T54.setTop (mkF m 169 #[.val (.int u0), .val (.int u1), .val (.int u2), .val (.int u3), .val (.int u4), .val (.int la), .val (.int lb), .val (.int ca0), .val (.int ca1), .val (.int cb0), .val (.int cb1), .val (.ref r3), .val (.ref r9), .val (.int (own_sgn ((own_key ca0) - (own_key cb0)))), .unset, .unset] [(.ref r9), (.ref r3)]))
            obtain ⟨_, _, ⟨T55, L55, k55, n55⟩, -, X55, ⟨Lc55, hQ55, l55, y55, z55⟩, st55⟩ := Jvm.LawKit.callS X54 hx (y := (⟨"com/example/rank_merge/rankmerge/model/IdOrder", "compare", "(Ljava/lang/String;Ljava/lang/String;)I"⟩ : MethodName)) hown (mvT hZ (hw _ (List.mem_of_getElem? (i := 29) rfl))) (mvT hZ (hw _ (List.mem_of_getElem? (i := 30) rfl))) (mvT hZ (hw _ (List.mem_of_getElem? (i := 31) rfl))) (mvT hZ (hw _ (List.mem_of_getElem? (i := 32) rfl))) (by decide) (backOf (W := 0) (rm6 l Z a0 hw [] r3 r9 la (own_ch ca0 ca1) lb (own_ch cb0 cb1) cs fm h9 n0 (Nat.le_trans Z0 K9.1) c10 c11 c12 c13 c14 hcs hfm hSa hS_9 hC0 hC1 hD0 hD1) hZ (hw _ (List.mem_of_getElem? (i := 32) rfl)) (hw _ (List.mem_of_getElem? (i := 31) rfl)) (by decide) (by decide)) (g := (mkF m 169 #[.val (.int u0), .val (.int u1), .val (.int u2), .val (.int u3), .val (.int u4), .val (.int la), .val (.int lb), .val (.int ca0), .val (.int ca1), .val (.int cb0), .val (.int cb1), .val (.ref r3), .val (.ref r9), .val (.int (own_sgn ((own_key ca0) - (own_key cb0)))), .unset, .unset] [(.ref r9), (.ref r3)])) rfl (by rw [hml]; rfl) (argsL := [(.ref r3), (.ref r9)]) (rest := []) (lenOf pd_28Ljava2flang2fString3bLjava2flang2fString3b29I rfl) rfl (by show 2 * 0 + _ ≤ _; exact Nat.le_of_eq rfl) (hb hby at_169) (fun _ _ => ⟨rfl, e54, (by decide : 8 + 0 ≤ _), (by decide : 24 + 0 ≤ _)⟩)
            dsimp only [Pt.U, Pt.locs, Pt.cells, Pt.slots] at X55 l55 y55 z55 st55 hQ55
            subst l55 y55 z55
            obtain ⟨rfl, N55q, e55⟩ := hQ55
            have N55 := Fr.app N54 N55q
            refine Wp.step st55 ?_
            show Wp p e below _ (T55.setTop (mkF m 172 #[.val (.int u0), .val (.int u1), .val (.int u2), .val (.int u3), .val (.int u4), .val (.int la), .val (.int lb), .val (.int ca0), .val (.int ca1), .val (.int cb0), .val (.int cb1), .val (.ref r3), .val (.ref r9), .val (.int (own_sgn ((own_key ca0) - (own_key cb0)))), .unset, .unset] [(.int (own_cs la lb (own_ch ca0 ca1) (own_ch cb0 cb1)))]))
            refine Wp.step (fun t k => XS.istore X55.here hx rfl (hb hby at_172) rfl (l' := #[.val (.int u0), .val (.int u1), .val (.int u2), .val (.int u3), .val (.int u4), .val (.int la), .val (.int lb), .val (.int ca0), .val (.int ca1), .val (.int cb0), .val (.int cb1), .val (.ref r3), .val (.ref r9), .val (.int (own_sgn ((own_key ca0) - (own_key cb0)))), .val (.int (own_cs la lb (own_ch ca0 ca1) (own_ch cb0 cb1))), .unset]) rfl k) ?_
            show Wp p e below _ (T55.setTop (mkF m 174 #[.val (.int u0), .val (.int u1), .val (.int u2), .val (.int u3), .val (.int u4), .val (.int la), .val (.int lb), .val (.int ca0), .val (.int ca1), .val (.int cb0), .val (.int cb1), .val (.ref r3), .val (.ref r9), .val (.int (own_sgn ((own_key ca0) - (own_key cb0)))), .val (.int (own_cs la lb (own_ch ca0 ca1) (own_ch cb0 cb1))), .unset] []))
            refine Wp.step (fun t k => XS.aload X55.here hx rfl (hb hby at_174) rfl rfl k) ?_
            show Wp p e below _ (T55.setTop (mkF m 176 #[.val (.int u0), .val (.int u1), .val (.int u2), .val (.int u3), .val (.int u4), .val (.int la), .val (.int lb), .val (.int ca0), .val (.int ca1), .val (.int cb0), .val (.int cb1), .val (.ref r3), .val (.ref r9), .val (.int (own_sgn ((own_key ca0) - (own_key cb0)))), .val (.int (own_cs la lb (own_ch ca0 ca1) (own_ch cb0 cb1))), .unset] [(.ref r9)]))
            refine Wp.step (fun t k => XS.aload X55.here hx rfl (hb hby at_176) rfl rfl k) ?_
            show Wp p e below _ (T55.setTop (mkF m 178 #[.val (.int u0), .val (.int u1), .val (.int u2), .val (.int u3), .val (.int u4), .val (.int la), .val (.int lb), .val (.int ca0), .val (.int ca1), .val (.int cb0), .val (.int cb1), .val (.ref r3), .val (.ref r9), .val (.int (own_sgn ((own_key ca0) - (own_key cb0)))), .val (.int (own_cs la lb (own_ch ca0 ca1) (own_ch cb0 cb1))), .unset] [(.ref r3), (.ref r9)]))
            obtain ⟨_, _, ⟨T56, L56, k56, n56⟩, -, X56, ⟨Lc56, hQ56, l56, y56, z56⟩, st56⟩ := Jvm.LawKit.callS X55 hx (y := (⟨"com/example/rank_merge/rankmerge/model/IdOrder", "compare", "(Ljava/lang/String;Ljava/lang/String;)I"⟩ : MethodName)) hown (mvT hZ (hw _ (List.mem_of_getElem? (i := 29) rfl))) (mvT hZ (hw _ (List.mem_of_getElem? (i := 30) rfl))) (mvT hZ (hw _ (List.mem_of_getElem? (i := 31) rfl))) (mvT hZ (hw _ (List.mem_of_getElem? (i := 32) rfl))) (by decide) (backOf (W := 0) (rm6 l Z a0 hw [] r9 r3 lb (own_ch cb0 cb1) la (own_ch ca0 ca1) cs fm h9 n0 (Nat.le_trans Z0 K9.1) c10 c11 c12 c13 c14 hcs hfm hS_9 hSa hD0 hD1 hC0 hC1) hZ (hw _ (List.mem_of_getElem? (i := 32) rfl)) (hw _ (List.mem_of_getElem? (i := 31) rfl)) (by decide) (by decide)) (g := (mkF m 178 #[.val (.int u0), .val (.int u1), .val (.int u2), .val (.int u3), .val (.int u4), .val (.int la), .val (.int lb), .val (.int ca0), .val (.int ca1), .val (.int cb0), .val (.int cb1), .val (.ref r3), .val (.ref r9), .val (.int (own_sgn ((own_key ca0) - (own_key cb0)))), .val (.int (own_cs la lb (own_ch ca0 ca1) (own_ch cb0 cb1))), .unset] [(.ref r3), (.ref r9)])) rfl (by rw [hml]; rfl) (argsL := [(.ref r9), (.ref r3)]) (rest := []) (lenOf pd_28Ljava2flang2fString3bLjava2flang2fString3b29I rfl) rfl (by show 2 * 0 + _ ≤ _; exact Nat.le_of_eq rfl) (hb hby at_178) (fun _ _ => ⟨rfl, e55, (by decide : 8 + 0 ≤ _), (by decide : 24 + 0 ≤ _)⟩)
            dsimp only [Pt.U, Pt.locs, Pt.cells, Pt.slots] at X56 l56 y56 z56 st56 hQ56
            subst l56 y56 z56
            obtain ⟨rfl, N56q, e56⟩ := hQ56
            have N56 := Fr.app N55 N56q
            refine Wp.step st56 ?_
            show Wp p e below _ (T56.setTop (mkF m 181 #[.val (.int u0), .val (.int u1), .val (.int u2), .val (.int u3), .val (.int u4), .val (.int la), .val (.int lb), .val (.int ca0), .val (.int ca1), .val (.int cb0), .val (.int cb1), .val (.ref r3), .val (.ref r9), .val (.int (own_sgn ((own_key ca0) - (own_key cb0)))), .val (.int (own_cs la lb (own_ch ca0 ca1) (own_ch cb0 cb1))), .unset] [(.int (own_cs lb la (own_ch cb0 cb1) (own_ch ca0 ca1)))]))
            refine Wp.step (fun t k => XS.istore X56.here hx rfl (hb hby at_181) rfl (l' := #[.val (.int u0), .val (.int u1), .val (.int u2), .val (.int u3), .val (.int u4), .val (.int la), .val (.int lb), .val (.int ca0), .val (.int ca1), .val (.int cb0), .val (.int cb1), .val (.ref r3), .val (.ref r9), .val (.int (own_sgn ((own_key ca0) - (own_key cb0)))), .val (.int (own_cs la lb (own_ch ca0 ca1) (own_ch cb0 cb1))), .val (.int (own_cs lb la (own_ch cb0 cb1) (own_ch ca0 ca1)))]) rfl k) ?_
            show Wp p e below _ (T56.setTop (mkF m 183 #[.val (.int u0), .val (.int u1), .val (.int u2), .val (.int u3), .val (.int u4), .val (.int la), .val (.int lb), .val (.int ca0), .val (.int ca1), .val (.int cb0), .val (.int cb1), .val (.ref r3), .val (.ref r9), .val (.int (own_sgn ((own_key ca0) - (own_key cb0)))), .val (.int (own_cs la lb (own_ch ca0 ca1) (own_ch cb0 cb1))), .val (.int (own_cs lb la (own_ch cb0 cb1) (own_ch ca0 ca1)))] []))
            refine Wp.step (fun t k => XS.iload X56.here hx rfl (hb hby at_183) rfl k) ?_
            show Wp p e below _ (T56.setTop (mkF m 185 #[.val (.int u0), .val (.int u1), .val (.int u2), .val (.int u3), .val (.int u4), .val (.int la), .val (.int lb), .val (.int ca0), .val (.int ca1), .val (.int cb0), .val (.int cb1), .val (.ref r3), .val (.ref r9), .val (.int (own_sgn ((own_key ca0) - (own_key cb0)))), .val (.int (own_cs la lb (own_ch ca0 ca1) (own_ch cb0 cb1))), .val (.int (own_cs lb la (own_ch cb0 cb1) (own_ch ca0 ca1)))] [(.int (own_cs la lb (own_ch ca0 ca1) (own_ch cb0 cb1)))]))
            obtain ⟨_, _, ⟨T57, L57, k57, n57⟩, -, X57, ⟨Lc57, hQ57, l57, y57, z57⟩, st57⟩ := Jvm.LawKit.callS X56 hx (y := (⟨"com/example/rank_merge/rankmerge/model/IdOrderComparePinLaw", "sign", "(I)I"⟩ : MethodName)) hown (mvT hZ (hw _ (List.mem_of_getElem? (i := 26) rfl))) (mvT hZ (hw _ (List.mem_of_getElem? (i := 27) rfl))) (mvT hZ (hw _ (List.mem_of_getElem? (i := 2) rfl))) (mvT hZ (hw _ (List.mem_of_getElem? (i := 28) rfl))) (by decide) (backOf (W := 0) (rm5 l Z a0 hw [] (own_cs la lb (own_ch ca0 ca1) (own_ch cb0 cb1))  h9 n0 (Nat.le_trans Z0 K9.1)  ) hZ (hw _ (List.mem_of_getElem? (i := 28) rfl)) (hw _ (List.mem_of_getElem? (i := 2) rfl)) (by decide) (by decide)) (g := (mkF m 185 #[.val (.int u0), .val (.int u1), .val (.int u2), .val (.int u3), .val (.int u4), .val (.int la), .val (.int lb), .val (.int ca0), .val (.int ca1), .val (.int cb0), .val (.int cb1), .val (.ref r3), .val (.ref r9), .val (.int (own_sgn ((own_key ca0) - (own_key cb0)))), .val (.int (own_cs la lb (own_ch ca0 ca1) (own_ch cb0 cb1))), .val (.int (own_cs lb la (own_ch cb0 cb1) (own_ch ca0 ca1)))] [(.int (own_cs la lb (own_ch ca0 ca1) (own_ch cb0 cb1)))])) rfl (by rw [hml]; rfl) (argsL := [(.int (own_cs la lb (own_ch ca0 ca1) (own_ch cb0 cb1)))]) (rest := []) (lenOf pd_28I29I rfl) rfl (by show 2 * 0 + _ ≤ _; exact Nat.le_of_eq rfl) (hb hby at_185) (fun _ _ => ⟨rfl, e56, (by decide : 8 + 0 ≤ _), (by decide : 24 + 0 ≤ _)⟩)
            dsimp only [Pt.U, Pt.locs, Pt.cells, Pt.slots] at X57 l57 y57 z57 st57 hQ57
            subst l57 y57 z57
            obtain ⟨rfl, N57q, e57⟩ := hQ57
            have N57 := Fr.app N56 N57q
            refine Wp.step st57 ?_
            show Wp p e below _ (T57.setTop (mkF m 188 #[.val (.int u0), .val (.int u1), .val (.int u2), .val (.int u3), .val (.int u4), .val (.int la), .val (.int lb), .val (.int ca0), .val (.int ca1), .val (.int cb0), .val (.int cb1), .val (.ref r3), .val (.ref r9), .val (.int (own_sgn ((own_key ca0) - (own_key cb0)))), .val (.int (own_cs la lb (own_ch ca0 ca1) (own_ch cb0 cb1))), .val (.int (own_cs lb la (own_ch cb0 cb1) (own_ch ca0 ca1)))] [(.int (own_sgn (own_cs la lb (own_ch ca0 ca1) (own_ch cb0 cb1))))]))
            refine Wp.step (fun t k => XS.iload X57.here hx rfl (hb hby at_188) rfl k) ?_
            show Wp p e below _ (T57.setTop (mkF m 190 #[.val (.int u0), .val (.int u1), .val (.int u2), .val (.int u3), .val (.int u4), .val (.int la), .val (.int lb), .val (.int ca0), .val (.int ca1), .val (.int cb0), .val (.int cb1), .val (.ref r3), .val (.ref r9), .val (.int (own_sgn ((own_key ca0) - (own_key cb0)))), .val (.int (own_cs la lb (own_ch ca0 ca1) (own_ch cb0 cb1))), .val (.int (own_cs lb la (own_ch cb0 cb1) (own_ch ca0 ca1)))] [(.int (own_sgn ((own_key ca0) - (own_key cb0)))), (.int (own_sgn (own_cs la lb (own_ch ca0 ca1) (own_ch cb0 cb1))))]))
            refine Wp.step (fun t k => XS.icmpNo X57.here hx rfl (hb hby at_190) rfl (teq (show (own_sgn (own_cs la lb (own_ch ca0 ca1) (own_ch cb0 cb1))) = (own_sgn ((own_key ca0) - (own_key cb0))) from (by rw [own_cs_sgn]; exact hEX))).2 k) ?_
            show Wp p e below _ (T57.setTop (mkF m 193 #[.val (.int u0), .val (.int u1), .val (.int u2), .val (.int u3), .val (.int u4), .val (.int la), .val (.int lb), .val (.int ca0), .val (.int ca1), .val (.int cb0), .val (.int cb1), .val (.ref r3), .val (.ref r9), .val (.int (own_sgn ((own_key ca0) - (own_key cb0)))), .val (.int (own_cs la lb (own_ch ca0 ca1) (own_ch cb0 cb1))), .val (.int (own_cs lb la (own_ch cb0 cb1) (own_ch ca0 ca1)))] []))
            refine Wp.step (fun t k => XS.iload X57.here hx rfl (hb hby at_193) rfl k) ?_
            show Wp p e below _ (T57.setTop (mkF m 195 #[.val (.int u0), .val (.int u1), .val (.int u2), .val (.int u3), .val (.int u4), .val (.int la), .val (.int lb), .val (.int ca0), .val (.int ca1), .val (.int cb0), .val (.int cb1), .val (.ref r3), .val (.ref r9), .val (.int (own_sgn ((own_key ca0) - (own_key cb0)))), .val (.int (own_cs la lb (own_ch ca0 ca1) (own_ch cb0 cb1))), .val (.int (own_cs lb la (own_ch cb0 cb1) (own_ch ca0 ca1)))] [(.int (own_cs lb la (own_ch cb0 cb1) (own_ch ca0 ca1)))]))
            obtain ⟨_, _, ⟨T59, L59, k59, n59⟩, -, X59, ⟨Lc59, hQ59, l59, y59, z59⟩, st59⟩ := Jvm.LawKit.callS X57 hx (y := (⟨"com/example/rank_merge/rankmerge/model/IdOrderComparePinLaw", "sign", "(I)I"⟩ : MethodName)) hown (mvT hZ (hw _ (List.mem_of_getElem? (i := 26) rfl))) (mvT hZ (hw _ (List.mem_of_getElem? (i := 27) rfl))) (mvT hZ (hw _ (List.mem_of_getElem? (i := 2) rfl))) (mvT hZ (hw _ (List.mem_of_getElem? (i := 28) rfl))) (by decide) (backOf (W := 0) (rm5 l Z a0 hw [] (own_cs lb la (own_ch cb0 cb1) (own_ch ca0 ca1))  h9 n0 (Nat.le_trans Z0 K9.1)  ) hZ (hw _ (List.mem_of_getElem? (i := 28) rfl)) (hw _ (List.mem_of_getElem? (i := 2) rfl)) (by decide) (by decide)) (g := (mkF m 195 #[.val (.int u0), .val (.int u1), .val (.int u2), .val (.int u3), .val (.int u4), .val (.int la), .val (.int lb), .val (.int ca0), .val (.int ca1), .val (.int cb0), .val (.int cb1), .val (.ref r3), .val (.ref r9), .val (.int (own_sgn ((own_key ca0) - (own_key cb0)))), .val (.int (own_cs la lb (own_ch ca0 ca1) (own_ch cb0 cb1))), .val (.int (own_cs lb la (own_ch cb0 cb1) (own_ch ca0 ca1)))] [(.int (own_cs lb la (own_ch cb0 cb1) (own_ch ca0 ca1)))])) rfl (by rw [hml]; rfl) (argsL := [(.int (own_cs lb la (own_ch cb0 cb1) (own_ch ca0 ca1)))]) (rest := []) (lenOf pd_28I29I rfl) rfl (by show 2 * 0 + _ ≤ _; exact Nat.le_of_eq rfl) (hb hby at_195) (fun _ _ => ⟨rfl, e57, (by decide : 8 + 0 ≤ _), (by decide : 24 + 0 ≤ _)⟩)
            dsimp only [Pt.U, Pt.locs, Pt.cells, Pt.slots] at X59 l59 y59 z59 st59 hQ59
            subst l59 y59 z59
            obtain ⟨rfl, N59q, e59⟩ := hQ59
            have N59 := Fr.app N57 N59q
            refine Wp.step st59 ?_
            show Wp p e below _ (T59.setTop (mkF m 198 #[.val (.int u0), .val (.int u1), .val (.int u2), .val (.int u3), .val (.int u4), .val (.int la), .val (.int lb), .val (.int ca0), .val (.int ca1), .val (.int cb0), .val (.int cb1), .val (.ref r3), .val (.ref r9), .val (.int (own_sgn ((own_key ca0) - (own_key cb0)))), .val (.int (own_cs la lb (own_ch ca0 ca1) (own_ch cb0 cb1))), .val (.int (own_cs lb la (own_ch cb0 cb1) (own_ch ca0 ca1)))] [(.int (own_sgn (own_cs lb la (own_ch cb0 cb1) (own_ch ca0 ca1))))]))
            refine Wp.step (fun t k => XS.iload X59.here hx rfl (hb hby at_198) rfl k) ?_
            show Wp p e below _ (T59.setTop (mkF m 200 #[.val (.int u0), .val (.int u1), .val (.int u2), .val (.int u3), .val (.int u4), .val (.int la), .val (.int lb), .val (.int ca0), .val (.int ca1), .val (.int cb0), .val (.int cb1), .val (.ref r3), .val (.ref r9), .val (.int (own_sgn ((own_key ca0) - (own_key cb0)))), .val (.int (own_cs la lb (own_ch ca0 ca1) (own_ch cb0 cb1))), .val (.int (own_cs lb la (own_ch cb0 cb1) (own_ch ca0 ca1)))] [(.int (own_sgn ((own_key ca0) - (own_key cb0)))), (.int (own_sgn (own_cs lb la (own_ch cb0 cb1) (own_ch ca0 ca1))))]))
            refine Wp.step (fun t k => XS.ineg X59.here hx rfl (hb hby at_200) rfl k) ?_
            show Wp p e below _ (T59.setTop (mkF m 201 #[.val (.int u0), .val (.int u1), .val (.int u2), .val (.int u3), .val (.int u4), .val (.int la), .val (.int lb), .val (.int ca0), .val (.int ca1), .val (.int cb0), .val (.int cb1), .val (.ref r3), .val (.ref r9), .val (.int (own_sgn ((own_key ca0) - (own_key cb0)))), .val (.int (own_cs la lb (own_ch ca0 ca1) (own_ch cb0 cb1))), .val (.int (own_cs lb la (own_ch cb0 cb1) (own_ch ca0 ca1)))] [(.int (-(own_sgn ((own_key ca0) - (own_key cb0))))), (.int (own_sgn (own_cs lb la (own_ch cb0 cb1) (own_ch ca0 ca1))))]))
            refine Wp.step (fun t k => XS.icmpNo X59.here hx rfl (hb hby at_201) rfl (teq (show (own_sgn (own_cs lb la (own_ch cb0 cb1) (own_ch ca0 ca1))) = (-(own_sgn ((own_key ca0) - (own_key cb0)))) from (by rw [own_cs_sgn, own_cs_swap, hEX]))).2 k) ?_
            show Wp p e below _ (T59.setTop (mkF m 204 #[.val (.int u0), .val (.int u1), .val (.int u2), .val (.int u3), .val (.int u4), .val (.int la), .val (.int lb), .val (.int ca0), .val (.int ca1), .val (.int cb0), .val (.int cb1), .val (.ref r3), .val (.ref r9), .val (.int (own_sgn ((own_key ca0) - (own_key cb0)))), .val (.int (own_cs la lb (own_ch ca0 ca1) (own_ch cb0 cb1))), .val (.int (own_cs lb la (own_ch cb0 cb1) (own_ch ca0 ca1)))] []))
            refine Wp.step (fun t k => XS.iconst X59.here hx rfl (hb hby at_204) k) ?_
            show Wp p e below _ (T59.setTop (mkF m 205 #[.val (.int u0), .val (.int u1), .val (.int u2), .val (.int u3), .val (.int u4), .val (.int la), .val (.int lb), .val (.int ca0), .val (.int ca1), .val (.int cb0), .val (.int cb1), .val (.ref r3), .val (.ref r9), .val (.int (own_sgn ((own_key ca0) - (own_key cb0)))), .val (.int (own_cs la lb (own_ch ca0 ca1) (own_ch cb0 cb1))), .val (.int (own_cs lb la (own_ch cb0 cb1) (own_ch ca0 ca1)))] [(.int (1 : Int32))]))
            refine Wp.step (fun t k => XS.goto X59.here hx rfl (pc0 := 205) (pc' := 209) rfl (hb hby at_205) (by decide) (by decide) k) ?_
            show Wp p e below _ (T59.setTop (mkF m 209 #[.val (.int u0), .val (.int u1), .val (.int u2), .val (.int u3), .val (.int u4), .val (.int la), .val (.int lb), .val (.int ca0), .val (.int ca1), .val (.int cb0), .val (.int cb1), .val (.ref r3), .val (.ref r9), .val (.int (own_sgn ((own_key ca0) - (own_key cb0)))), .val (.int (own_cs la lb (own_ch ca0 ca1) (own_ch cb0 cb1))), .val (.int (own_cs lb la (own_ch cb0 cb1) (own_ch ca0 ca1)))] [(.int (1 : Int32))]))
            refine Wp.retNX X59 hS (own_hk e59 hk) (by rw [e59]; exact hT) hx (t := .boolean) Bd.returns (by simp) (hb hby at_209) hlk ?_ (by decide) (by decide)
            show Q0 Z u0 u1 u2 u3 u4 cs fm h0 n0 (some (.int (nar .boolean (1 : Int32)))) T59.heap _
            rw [e59]
            exact ⟨rfl, N59⟩
        · refine Wp.step (fun t k => XS.ifYes X9.here hx rfl (pc0 := 88) (pc' := 117) rfl (hb hby at_88) rfl ((if0 _ _).trans (flt hc50).2.2.2) (by decide) (by decide) k) ?_
          show Wp p e below _ (T9.setTop (mkF m 117 #[.val (.int u0), .val (.int u1), .val (.int u2), .val (.int u3), .val (.int u4), .val (.int la), .val (.int lb), .val (.int ca0), .val (.int ca1), .val (.int cb0), .val (.int cb1), .val (.ref r3), .val (.ref r9), .unset, .unset, .unset] []))
          exact kont15 (fun q => hc50 q.2.1)
      · refine Wp.step (fun t k => XS.ifYes X9.here hx rfl (pc0 := 83) (pc' := 117) rfl (hb hby at_83) rfl ((if0 _ _).trans (flt hc49).2.2.2) (by decide) (by decide) k) ?_
        show Wp p e below _ (T9.setTop (mkF m 117 #[.val (.int u0), .val (.int u1), .val (.int u2), .val (.int u3), .val (.int u4), .val (.int la), .val (.int lb), .val (.int ca0), .val (.int ca1), .val (.int cb0), .val (.int cb1), .val (.ref r3), .val (.ref r9), .unset, .unset, .unset] []))
        exact kont15 (fun q => hc49 q.1)
    by_cases hc61 : (u4 &&& (8 : Int32)) = (0 : Int32)
    · refine Wp.step (fun t k => XS.ifYes X0.here hx rfl (pc0 := 47) (pc' := 55) rfl (hb hby at_47) rfl ((if0 _ _).trans (teq hc61).1) (by decide) (by decide) k) ?_
      show Wp p e below _ (s₁.setTop (mkF m 55 #[.val (.int u0), .val (.int u1), .val (.int u2), .val (.int u3), .val (.int u4), .val (.int la), .val (.int lb), .val (.int ca0), .val (.int ca1), .val (.int cb0), .unset, .unset, .unset, .unset, .unset, .unset] []))
      refine Wp.step (fun t k => XS.iloadN X0.here hx rfl (hb hby at_55) rfl k) ?_
      show Wp p e below _ (s₁.setTop (mkF m 56 #[.val (.int u0), .val (.int u1), .val (.int u2), .val (.int u3), .val (.int u4), .val (.int la), .val (.int lb), .val (.int ca0), .val (.int ca1), .val (.int cb0), .unset, .unset, .unset, .unset, .unset, .unset] [(.int u3)]))
      refine Wp.step (fun t k => XS.i2c X0.here hx rfl (hb hby at_56) rfl k) ?_
      show Wp p e below _ (s₁.setTop (mkF m 57 #[.val (.int u0), .val (.int u1), .val (.int u2), .val (.int u3), .val (.int u4), .val (.int la), .val (.int lb), .val (.int ca0), .val (.int ca1), .val (.int cb0), .unset, .unset, .unset, .unset, .unset, .unset] [(.int (u3.toUInt32.toUInt16.toUInt32.toInt32))]))
      exact kont2 (u3.toUInt32.toUInt16.toUInt32.toInt32) (own_i2c_isC _)
    · refine Wp.step (fun t k => XS.ifNo X0.here hx rfl (hb hby at_47) rfl ((if0 _ _).trans (feq hc61).1) k) ?_
      show Wp p e below _ (s₁.setTop (mkF m 50 #[.val (.int u0), .val (.int u1), .val (.int u2), .val (.int u3), .val (.int u4), .val (.int la), .val (.int lb), .val (.int ca0), .val (.int ca1), .val (.int cb0), .unset, .unset, .unset, .unset, .unset, .unset] []))
      refine Wp.step (fun t k => XS.iload X0.here hx rfl (hb hby at_50) rfl k) ?_
      show Wp p e below _ (s₁.setTop (mkF m 52 #[.val (.int u0), .val (.int u1), .val (.int u2), .val (.int u3), .val (.int u4), .val (.int la), .val (.int lb), .val (.int ca0), .val (.int ca1), .val (.int cb0), .unset, .unset, .unset, .unset, .unset, .unset] [(.int ca1)]))
      refine Wp.step (fun t k => XS.goto X0.here hx rfl (pc0 := 52) (pc' := 57) rfl (hb hby at_52) (by decide) (by decide) k) ?_
      show Wp p e below _ (s₁.setTop (mkF m 57 #[.val (.int u0), .val (.int u1), .val (.int u2), .val (.int u3), .val (.int u4), .val (.int la), .val (.int lb), .val (.int ca0), .val (.int ca1), .val (.int cb0), .unset, .unset, .unset, .unset, .unset, .unset] [(.int ca1)]))
      exact kont2 ca1 hC1
  by_cases hc62 : (u4 &&& (4 : Int32)) = (0 : Int32)
  · refine Wp.step (fun t k => XS.ifYes X0.here hx rfl (pc0 := 30) (pc' := 38) rfl (hb hby at_30) rfl ((if0 _ _).trans (teq hc62).1) (by decide) (by decide) k) ?_
    show Wp p e below _ (s₁.setTop (mkF m 38 #[.val (.int u0), .val (.int u1), .val (.int u2), .val (.int u3), .val (.int u4), .val (.int la), .val (.int lb), .val (.int ca0), .val (.int ca1), .unset, .unset, .unset, .unset, .unset, .unset, .unset] []))
    refine Wp.step (fun t k => XS.iloadN X0.here hx rfl (hb hby at_38) rfl k) ?_
    show Wp p e below _ (s₁.setTop (mkF m 39 #[.val (.int u0), .val (.int u1), .val (.int u2), .val (.int u3), .val (.int u4), .val (.int la), .val (.int lb), .val (.int ca0), .val (.int ca1), .unset, .unset, .unset, .unset, .unset, .unset, .unset] [(.int u2)]))
    refine Wp.step (fun t k => XS.i2c X0.here hx rfl (hb hby at_39) rfl k) ?_
    show Wp p e below _ (s₁.setTop (mkF m 40 #[.val (.int u0), .val (.int u1), .val (.int u2), .val (.int u3), .val (.int u4), .val (.int la), .val (.int lb), .val (.int ca0), .val (.int ca1), .unset, .unset, .unset, .unset, .unset, .unset, .unset] [(.int (u2.toUInt32.toUInt16.toUInt32.toInt32))]))
    exact kont1 (u2.toUInt32.toUInt16.toUInt32.toInt32) (own_i2c_isC _)
  · refine Wp.step (fun t k => XS.ifNo X0.here hx rfl (hb hby at_30) rfl ((if0 _ _).trans (feq hc62).1) k) ?_
    show Wp p e below _ (s₁.setTop (mkF m 33 #[.val (.int u0), .val (.int u1), .val (.int u2), .val (.int u3), .val (.int u4), .val (.int la), .val (.int lb), .val (.int ca0), .val (.int ca1), .unset, .unset, .unset, .unset, .unset, .unset, .unset] []))
    refine Wp.step (fun t k => XS.iload X0.here hx rfl (hb hby at_33) rfl k) ?_
    show Wp p e below _ (s₁.setTop (mkF m 35 #[.val (.int u0), .val (.int u1), .val (.int u2), .val (.int u3), .val (.int u4), .val (.int la), .val (.int lb), .val (.int ca0), .val (.int ca1), .unset, .unset, .unset, .unset, .unset, .unset, .unset] [(.int ca0)]))
    refine Wp.step (fun t k => XS.goto X0.here hx rfl (pc0 := 35) (pc' := 40) rfl (hb hby at_35) (by decide) (by decide) k) ?_
    show Wp p e below _ (s₁.setTop (mkF m 40 #[.val (.int u0), .val (.int u1), .val (.int u2), .val (.int u3), .val (.int u4), .val (.int la), .val (.int lb), .val (.int ca0), .val (.int ca1), .unset, .unset, .unset, .unset, .unset, .unset, .unset] [(.int ca0)]))
    exact kont1 ca0 hC0
theorem own_staI {s : State} {args : Array Value} {C n d : String} {k : Int32} (h : (Jvm.Cond.eq (Term.static C n d) (Term.int k)).before args s = true) (hi : (Jvm.Cond.initializedFor C n d).before args s = true) : Sta s s.heap C n d (.int k) := by
  refine Sta.start ?_ (Or.inl hi)
  have h := Cond.before_iff.mp h
  obtain ⟨x, y, h1, h2, h3, h4⟩ := cmp_v (Or.inl h)
  cases h2
  obtain ⟨z, rfl⟩ := h4
  rw [h1]
  have q : (Jvm.Cond.eq (Term.static C n d) (Term.int k)).value args s none s [] = some (decide (z = k)) := by
    have h2 : (Term.int k).eval args s none [] s = some (.int k) := rfl
    simp only [Jvm.Cond.value, h1, h2]
  rw [gotT q h]
theorem own_not0 {s : State} {args : Array Value} {C n d : String} {k : Int32} (h : (Jvm.Cond.not (Jvm.Cond.eq (Term.static C n d) (Term.int 0))).before args s = true) (ev : (Term.static C n d).eval args s none [] s = some (.int k)) : ¬ k = 0 := fun z => by
  subst z
  have h := Cond.before_iff.mp h
  have h2 : (Term.int 0).eval args s none [] s = some (.int 0) := rfl
  simp only [Jvm.Cond.value, ev, h2] at h
  simp at h
set_option maxRecDepth 65536 in
set_option maxHeartbeats 40000000 in
theorem comes_1 {Post : Tables → Env → Array Value → State → Outcome → State → Prop} (hpost : ∀ tb e args s v u, (limb_1_1.after args s (.returned v) u = true ∧ limb_1_2.after args s (.returned v) u = true ∧ True) → ReturnedEndW s (.returned v) u (Jvm.fieldLocs frame_1_writes args s ++ Jvm.arrayLocs frame_1_arrays args s ++ Jvm.staticLocs frame_1_statics s) 32 1152 → Post tb e args s (.returned v) u) :
    ArmFor flags0 classFile x code maxLocals ret World_1 tables_1 room_1 Calls_1 rest_1 Pre_1 Post := by
  intro l hfl _ _ p e ha hc hk s m args below hf hA hF happ hP
  obtain ⟨hcalls, hrest, hpre⟩ := hP
  obtain ⟨-, -, -, hnamed, -, -, -, hat⟩ := (Spec.applies_iff hf).mp happ
  obtain ⟨hg, hn⟩ := and_e (Cond.before_iff.mp (show (Jvm.Cond.and given_1 narrow_1).before args s = true from hpre))
  obtain ⟨hcnt, hr0⟩ := and_e hg
  obtain ⟨hi0, hr1⟩ := and_e hr0
  obtain ⟨hi1, hr2⟩ := and_e hr1
  obtain ⟨hi2, hr3⟩ := and_e hr2
  obtain ⟨hi3, hi4⟩ := and_e hr3
  obtain ⟨w0, w1, w2, w3, w4, rfl⟩ : ∃ w0 w1 w2 w3 w4 : Value, args = #[w0, w1, w2, w3, w4] := by
    have hs : args.size = 5 := by simpa [Cond.value, given_1] using hcnt
    obtain ⟨L⟩ := args
    match L, hs with
    | [w0, w1, w2, w3, w4], _ => exact ⟨w0, w1, w2, w3, w4, rfl⟩
  have hw := fun d (hd : d ∈ tables_1) => atoms_spec (ws := Jvm.Cond.code x code maxLocals ret :: tables_1) hat d (List.mem_cons_of_mem _ hd)
  have hfit : Fit s := fun {y c} hc i hi => by
    obtain ⟨ha, rfl⟩ := Array.getElem?_eq_some_iff.mp hc
    have q := List.all_eq_true.mp ((Array.all_eq_true_iff_forall_mem.mp hF) _ (Array.getElem_mem ha)) i (List.mem_range.mpr hi)
    simpa [Array.getElem?_eq_getElem hi] using q
  obtain ⟨hsets, hown0⟩ := atoms_of _ (rest_1_c_eq ▸ (show rest_1_c.before _ s = true from hrest))
  have hrr := Cond.before_iff.mp hown0
  obtain ⟨i0, ei0⟩ := is_v hi0
  obtain rfl : w0 = (.int i0) := Option.some.inj ei0
  obtain ⟨i1, ei1⟩ := is_v hi1
  obtain rfl : w1 = (.int i1) := Option.some.inj ei1
  obtain ⟨i2, ei2⟩ := is_v hi2
  obtain rfl : w2 = (.int i2) := Option.some.inj ei2
  obtain ⟨i3, ei3⟩ := is_v hi3
  obtain rfl : w3 = (.int i3) := Option.some.inj ei3
  obtain ⟨i4, ei4⟩ := is_v hi4
  obtain rfl : w4 = (.int i4) := Option.some.inj ei4
  obtain ⟨cs, ecs⟩ := is_v (Cond.before_iff.mp (hsets _ (List.mem_of_getElem? (i := 1) rfl)))
  have hcw := (hsets _ (List.mem_of_getElem? (i := 2) rfl))
  have hcs : ¬ cs = 0 := own_not0 hcw ecs
  have S_COMPACT_STRINGS_cs := Sta.start ecs (Or.inl (hsets _ (List.mem_of_getElem? (i := 0) rfl)))
  obtain ⟨fm, efm, rfm⟩ := isR_v (Cond.before_iff.mp (hsets _ (List.mem_of_getElem? (i := 8) rfl)))
  have hfm := ref_cases rfm
  have S_SIOOBE_FORMATTER_fm := Sta.start efm (Or.inl (hsets _ (List.mem_of_getElem? (i := 7) rfl)))
  have S_assertionsDisabled_1Int32 := own_staI (hsets _ (List.mem_of_getElem? (i := 12) rfl)) (hsets _ (List.mem_of_getElem? (i := 11) rfl))
  have S_HI_BYTE_SHIFT_0Int32 := own_staI (hsets _ (List.mem_of_getElem? (i := 15) rfl)) (hsets _ (List.mem_of_getElem? (i := 14) rfl))
  have S_LO_BYTE_SHIFT_8Int32 := own_staI (hsets _ (List.mem_of_getElem? (i := 18) rfl)) (hsets _ (List.mem_of_getElem? (i := 17) rfl))
  have hCH : Jvm.Lit.constHeld s "java/lang/String" 7 := hcalls.1 ("java/lang/String", 7) (List.mem_of_getElem? (i := 0) rfl)
  obtain ⟨n, o, h1, h2, h3, _, L, rfl, ⟨⟨rfl, N⟩, -⟩, hq⟩ := rm0 l s _ hw tables_1 i0 i1 i2 i3 i4 cs fm s.heap s.heap.size (Nat.le_refl _) S_COMPACT_STRINGS_cs S_SIOOBE_FORMATTER_fm S_assertionsDisabled_1Int32 S_HI_BYTE_SHIFT_0Int32 S_LO_BYTE_SHIFT_8Int32 hcs hfm hCH hcw p e ha hc hk s m _ below hf ((Spec.applies_iff_loose hf).mp happ).1 ⟨rfl, ⟨State.Warmed39.refl s, Or.inl ⟨IB.start, fun _ _ q => q⟩⟩, rfl⟩ trivial
  refine ⟨n, _, h1, h2, h3, hpost _ _ _ _ _ _ ⟨Cond.after_iff.mpr rfl, Cond.after_iff.mpr (eq_i res_at (Term.int_eval (1)) rfl), trivial⟩ ⟨hq.1, hq.2.1, hq.2.2.1, (hq.2.2.2.sift fun y hy => Or.inr (N y hy)).mono (by decide) (by decide)⟩⟩
theorem main_1_1 : Claimed_1_1 := comes_1 fun _ _ _ _ _ _ h hF => ⟨h.1, hF⟩
theorem main_1_2 : Claimed_1_2 := comes_1 fun _ _ _ _ _ _ h hF => ⟨h.2.1, hF⟩
end Jvm.Pilot.@@N@@
namespace Jvm.Pilot.@@N@@
open Jvm Jvm.ClassFile Sem Op Lib Jvm.Free Jvm.Stand Jvm.Pilot.@@N@@.Jvm.D
/-! MADE BY PROGRAM (witnessworld.py) out of the Statement's table words and the real class files: 23 classes; the members and pool entries that the words name. The judged class is class 1, her method 1. -/
namespace start1
open Jvm.ClassFile
def u (s : String) : CpInfo := .utf8 (stringToUtf16 s)
/-- a pool by its gaps: so many unusable entries, then the entry; so many at the end -/
def gap : Nat → List CpInfo → List CpInfo
  | 0, r => r
  | n + 1, r => .unusable :: gap n r
def poolList (es : List (Nat × CpInfo)) (last : Nat) : List CpInfo := es.foldr (fun e r => gap e.1 (e.2 :: r)) (gap last [])
def pool (es : List (Nat × CpInfo)) (last : Nat) : Array CpInfo := ⟨poolList es last⟩
def fileOf (pool : Array CpInfo) (this : Nat) (attrs : Array Attribute := #[]) (ms : Array MethodInfo := #[]) (fl : Nat := 33) (sup : Nat := 0) (ifs : Array Nat := #[]) (fds : Array FieldInfo := #[]) : ClassFile where
  minorVersion := 0
  majorVersion := 65
  constantPool := pool
  accessFlags := fl
  thisClass := this
  superClass := sup
  interfaces := ifs
  fields := fds
  methods := ms
  attributes := attrs
def plain (name : String) (sup : Option ClassId) : Class where
  name := name
  kind := .ordinary
  loader := none
  accessFlags := 33
  super := sup
  interfaces := #[]
  cf := none
  fields := #[]
  methods := #[]
  instanceTypes := #[]
  staticTypes := #[]
  resolved := #[]
  callSites := []
  init := .initialized
  statics := none
  mirror := none

def pool0 : Array CpInfo := pool [(5, u "<init>"), (0, u "()V"), (1, .class_ 10), (1, u "java/lang/Object")] 113

def k0c0 : Code := { maxStack := 0, maxLocals := 1, code := object_method_1_code, exceptionTable := #[], attributes := #[] }
def k0m0 : Method := { name := "<init>", desc := "()V", sig := { parameters := [], returnType := none }, accessFlags := 1, code := some k0c0 }
/-- java/lang/Object -/
def k0 : Class := { plain "java/lang/Object" none with
  accessFlags := 33
  interfaces := #[]
  cf := some (fileOf pool0 8 #[] #[{ accessFlags := 1, nameIndex := 5, descriptorIndex := 6, attributes := #[] }] 33 0 #[] #[])
  fields := #[]
  methods := #[k0m0]
  instanceTypes := #[]
  staticTypes := #[]
  resolved := Array.replicate 124 none
  statics := none }

def pool1 : Array CpInfo := pool [(2, .class_ 4), (1, u "java/lang/Object"), (0, u "<init>"), (0, u "()V"), (0, .methodref 8 9), (0, .class_ 10), (0, .nameAndType 11 12), (0, u "com/example/rank_merge/rankmerge/model/IdOrderComparePinLaw"), (0, u "make"), (0, u "(ICC)Ljava/lang/String;"), (0, .methodref 8 14), (0, .nameAndType 15 16), (0, u "key"), (0, u "(C)I"), (0, .methodref 8 18), (0, .nameAndType 19 20), (0, u "sign"), (0, u "(I)I"), (0, .methodref 22 23), (0, .class_ 24), (0, .nameAndType 25 26), (0, u "com/example/rank_merge/rankmerge/model/IdOrder"), (0, u "compare"), (0, u "(Ljava/lang/String;Ljava/lang/String;)I"), (0, .class_ 28), (0, u "java/lang/String"), (0, .methodref 27 30), (0, .nameAndType 5 31), (0, u "([C)V"), (0, .integer 55296), (0, .integer 57343), (0, .integer 65536), (2, u "law"), (0, u "(IIIII)Z")] 3

def k1m0 : Method := { name := "<init>", desc := "()V", sig := { parameters := [], returnType := none }, accessFlags := 2, code := none }
def k1c1 : Code := { maxStack := 3, maxLocals := 16, code := code, exceptionTable := #[], attributes := #[] }
def k1m1 : Method := { name := "law", desc := "(IIIII)Z", sig := { parameters := [.int, .int, .int, .int, .int], returnType := some .boolean }, accessFlags := 9, code := some k1c1 }
def k1c2 : Code := { maxStack := 6, maxLocals := 3, code := method_3_code, exceptionTable := #[], attributes := #[] }
def k1m2 : Method := { name := "make", desc := "(ICC)Ljava/lang/String;", sig := { parameters := [.int, .char, .char], returnType := some (.object "java/lang/String") }, accessFlags := 10, code := some k1c2 }
def k1c3 : Code := { maxStack := 2, maxLocals := 2, code := method_4_code, exceptionTable := #[], attributes := #[] }
def k1m3 : Method := { name := "key", desc := "(C)I", sig := { parameters := [.char], returnType := some .int }, accessFlags := 10, code := some k1c3 }
def k1c4 : Code := { maxStack := 1, maxLocals := 1, code := method_5_code, exceptionTable := #[], attributes := #[] }
def k1m4 : Method := { name := "sign", desc := "(I)I", sig := { parameters := [.int], returnType := some .int }, accessFlags := 10, code := some k1c4 }
/-- com/example/rank_merge/rankmerge/model/IdOrderComparePinLaw -/
def k1 : Class := { plain "com/example/rank_merge/rankmerge/model/IdOrderComparePinLaw" (some 0) with
  accessFlags := 49
  interfaces := #[]
  cf := some (fileOf pool1 8 #[] #[{ accessFlags := 2, nameIndex := 5, descriptorIndex := 6, attributes := #[] }, { accessFlags := 9, nameIndex := 37, descriptorIndex := 38, attributes := #[] }, { accessFlags := 10, nameIndex := 11, descriptorIndex := 12, attributes := #[] }, { accessFlags := 10, nameIndex := 15, descriptorIndex := 16, attributes := #[] }, { accessFlags := 10, nameIndex := 19, descriptorIndex := 20, attributes := #[] }] 49 2 #[] #[])
  fields := #[]
  methods := #[k1m0, k1m1, k1m2, k1m3, k1m4]
  instanceTypes := #[]
  staticTypes := #[]
  resolved := Array.replicate 42 none
  statics := none }

def pool2 : Array CpInfo := pool [(1, .class_ 2), (0, u "java/io/Serializable"), (0, .class_ 4), (0, u "java/lang/Object")] 2

/-- java/io/Serializable -/
def k2 : Class := { plain "java/io/Serializable" (some 0) with
  accessFlags := 1537
  interfaces := #[]
  cf := some (fileOf pool2 1 #[] #[] 1537 3 #[] #[])
  fields := #[]
  methods := #[]
  instanceTypes := #[]
  staticTypes := #[]
  resolved := Array.replicate 7 none
  statics := none }

def pool3 : Array CpInfo := pool [(1, .class_ 2), (0, u "java/lang/Comparable"), (0, .class_ 4), (0, u "java/lang/Object")] 7

/-- java/lang/Comparable -/
def k3 : Class := { plain "java/lang/Comparable" (some 0) with
  accessFlags := 1537
  interfaces := #[]
  cf := some (fileOf pool3 1 #[] #[] 1537 3 #[] #[])
  fields := #[]
  methods := #[]
  instanceTypes := #[]
  staticTypes := #[]
  resolved := Array.replicate 12 none
  statics := none }

def pool4 : Array CpInfo := pool [(2, .class_ 4), (1, u "java/lang/CharSequence"), (42, .class_ 48), (0, u "java/lang/CharSequence$1CodePointIterator"), (10, .class_ 60), (0, u "java/lang/CharSequence$1CharIterator"), (5, .class_ 67), (0, u "java/lang/Object")] 63

/-- java/lang/CharSequence -/
def k4 : Class := { plain "java/lang/CharSequence" (some 0) with
  accessFlags := 1537
  interfaces := #[]
  cf := some (fileOf pool4 2 #[.nestMembers #[47, 59]] #[] 1537 66 #[] #[])
  fields := #[]
  methods := #[]
  instanceTypes := #[]
  staticTypes := #[]
  resolved := Array.replicate 131 none
  statics := none }

def pool5 : Array CpInfo := pool [(1, .class_ 2), (0, u "java/lang/constant/Constable"), (0, .class_ 4), (0, u "java/lang/Object")] 6

/-- java/lang/constant/Constable -/
def k5 : Class := { plain "java/lang/constant/Constable" (some 0) with
  accessFlags := 1537
  interfaces := #[]
  cf := some (fileOf pool5 1 #[] #[] 1537 3 #[] #[])
  fields := #[]
  methods := #[]
  instanceTypes := #[]
  staticTypes := #[]
  resolved := Array.replicate 11 none
  statics := none }

def pool6 : Array CpInfo := pool [(1, .class_ 2), (0, u "java/lang/constant/ConstantDesc"), (0, .class_ 4), (0, u "java/lang/Object")] 32

/-- java/lang/constant/ConstantDesc -/
def k6 : Class := { plain "java/lang/constant/ConstantDesc" (some 0) with
  accessFlags := 1537
  interfaces := #[]
  cf := some (fileOf pool6 1 #[] #[] 1537 3 #[] #[])
  fields := #[]
  methods := #[]
  instanceTypes := #[]
  staticTypes := #[]
  resolved := Array.replicate 37 none
  statics := none }

def pool7 : Array CpInfo := pool [(1, .methodref 2 3), (0, .class_ 4), (0, .nameAndType 5 6), (0, u "java/lang/Object"), (0, u "<init>"), (0, u "()V"), (0, .string 8), (0, u ""), (0, .fieldref 10 11), (0, .class_ 12), (0, .nameAndType 13 14), (0, u "java/lang/String"), (0, u "value"), (0, u "[B"), (0, .fieldref 10 16), (0, .nameAndType 17 18), (0, u "coder"), (0, u "B"), (2, u "hash"), (0, u "I"), (2, u "hashIsZero"), (0, u "Z"), (0, .methodref 10 28), (0, .nameAndType 5 29), (0, u "([CIILjava/lang/Void;)V"), (8, .fieldref 10 39), (0, .nameAndType 40 26), (0, u "COMPACT_STRINGS"), (1, .class_ 44), (1, u "java/lang/StringUTF16"), (0, u "compress"), (1, .methodref 42 48), (0, .nameAndType 49 50), (0, u "coderFromArrayLen"), (0, u "([BI)B"), (56, .class_ 109), (1, u "java/lang/StringLatin1"), (32, u "()Z"), (34, .methodref 42 178), (0, .nameAndType 45 179), (0, u "([CII)[B"), (154, u "()I"), (0, .methodref 10 336), (0, .nameAndType 17 337), (0, u "()B"), (25, u "([BI)C"), (27, u "(II)V"), (35, u "(I)C"), (64, .methodref 10 493), (0, .nameAndType 494 142), (0, u "isLatin1"), (0, .methodref 107 496), (0, .nameAndType 497 363), (0, u "charAt"), (0, .methodref 42 496), (2, u "checkIndex"), (5, u "length"), (67, .class_ 576), (0, u "java/lang/CharSequence"), (22, u "CASE_INSENSITIVE_ORDER"), (0, u "Ljava/util/Comparator;"), (409, u "([C)V"), (42, .fieldref 1054 1055), (0, .class_ 1056), (0, .nameAndType 1057 1058), (0, u "jdk/internal/util/Preconditions"), (0, u "SIOOBE_FORMATTER"), (0, u "Ljava/util/function/BiFunction;"), (0, .methodref 1054 1060), (0, .nameAndType 501 1061), (0, u "(IILjava/util/function/BiFunction;)I"), (39, u "serialPersistentFields"), (0, u "[Ljava/io/ObjectStreamField;"), (0, .class_ 1104), (0, u "java/lang/String$CaseInsensitiveComparator"), (1, .class_ 1107), (0, u "java/io/Serializable"), (0, .class_ 1109), (0, u "java/lang/Comparable"), (0, .class_ 1111), (0, u "java/lang/constant/Constable"), (0, .class_ 1113), (0, u "java/lang/constant/ConstantDesc"), (2, u "serialVersionUID"), (0, u "J"), (3, u "REPL"), (0, u "C"), (2, u "LATIN1"), (1, u "UTF16")] 323

def k7m0 : Method := { name := "<init>", desc := "()V", sig := { parameters := [], returnType := none }, accessFlags := 1, code := none }
def k7c1 : Code := { maxStack := 5, maxLocals := 2, code := jdk_42_method_3_code, exceptionTable := #[], attributes := #[] }
def k7m1 : Method := { name := "<init>", desc := "([C)V", sig := { parameters := [(.array .char)], returnType := none }, accessFlags := 1, code := some k7c1 }
def k7c2 : Code := { maxStack := 2, maxLocals := 1, code := jdk_42_method_54_code, exceptionTable := #[], attributes := #[] }
def k7m2 : Method := { name := "length", desc := "()I", sig := { parameters := [], returnType := some .int }, accessFlags := 1, code := some k7c2 }
def k7c3 : Code := { maxStack := 2, maxLocals := 2, code := jdk_42_method_56_code, exceptionTable := #[], attributes := #[] }
def k7m3 : Method := { name := "charAt", desc := "(I)C", sig := { parameters := [.int], returnType := some .char }, accessFlags := 1, code := some k7c3 }
def k7c4 : Code := { maxStack := 4, maxLocals := 6, code := jdk_42_method_149_code, exceptionTable := #[], attributes := #[] }
def k7m4 : Method := { name := "<init>", desc := "([CIILjava/lang/Void;)V", sig := { parameters := [(.array .char), .int, .int, (.object "java/lang/Void")], returnType := none }, accessFlags := 2, code := some k7c4 }
def k7c5 : Code := { maxStack := 1, maxLocals := 1, code := jdk_42_method_152_code, exceptionTable := #[], attributes := #[] }
def k7m5 : Method := { name := "coder", desc := "()B", sig := { parameters := [], returnType := some .byte }, accessFlags := 0, code := some k7c5 }
def k7c6 : Code := { maxStack := 1, maxLocals := 1, code := jdk_42_method_154_code, exceptionTable := #[], attributes := #[] }
def k7m6 : Method := { name := "isLatin1", desc := "()Z", sig := { parameters := [], returnType := some .boolean }, accessFlags := 0, code := some k7c6 }
def k7c7 : Code := { maxStack := 3, maxLocals := 2, code := jdk_42_method_155_code, exceptionTable := #[], attributes := #[] }
def k7m7 : Method := { name := "checkIndex", desc := "(II)V", sig := { parameters := [.int, .int], returnType := none }, accessFlags := 8, code := some k7c7 }
/-- java/lang/String -/
def k7 : Class := { plain "java/lang/String" (some 0) with
  accessFlags := 49
  interfaces := #[2, 3, 4, 5, 6]
  cf := some (fileOf pool7 10 #[.nestMembers #[1103]] #[{ accessFlags := 1, nameIndex := 5, descriptorIndex := 6, attributes := #[] }, { accessFlags := 1, nameIndex := 5, descriptorIndex := 1010, attributes := #[] }, { accessFlags := 1, nameIndex := 507, descriptorIndex := 334, attributes := #[] }, { accessFlags := 1, nameIndex := 497, descriptorIndex := 427, attributes := #[] }, { accessFlags := 2, nameIndex := 5, descriptorIndex := 29, attributes := #[] }, { accessFlags := 0, nameIndex := 17, descriptorIndex := 337, attributes := #[] }, { accessFlags := 0, nameIndex := 494, descriptorIndex := 142, attributes := #[] }, { accessFlags := 8, nameIndex := 501, descriptorIndex := 391, attributes := #[] }] 49 2 #[1106, 1108, 575, 1110, 1112] #[{ accessFlags := 18, nameIndex := 13, descriptorIndex := 14, attributes := #[] }, { accessFlags := 18, nameIndex := 17, descriptorIndex := 18, attributes := #[] }, { accessFlags := 2, nameIndex := 21, descriptorIndex := 22, attributes := #[] }, { accessFlags := 2, nameIndex := 25, descriptorIndex := 26, attributes := #[] }, { accessFlags := 26, nameIndex := 1116, descriptorIndex := 1117, attributes := #[] }, { accessFlags := 24, nameIndex := 40, descriptorIndex := 26, attributes := #[] }, { accessFlags := 26, nameIndex := 1101, descriptorIndex := 1102, attributes := #[] }, { accessFlags := 26, nameIndex := 1121, descriptorIndex := 1122, attributes := #[] }, { accessFlags := 25, nameIndex := 599, descriptorIndex := 600, attributes := #[] }, { accessFlags := 24, nameIndex := 1125, descriptorIndex := 18, attributes := #[] }, { accessFlags := 24, nameIndex := 1127, descriptorIndex := 18, attributes := #[] }])
  fields := #[{ name := "value", type := (.array .byte), accessFlags := 18, slot := 0, constantValue := 0 }, { name := "coder", type := .byte, accessFlags := 18, slot := 1, constantValue := 0 }, { name := "hash", type := .int, accessFlags := 2, slot := 2, constantValue := 0 }, { name := "hashIsZero", type := .boolean, accessFlags := 2, slot := 3, constantValue := 0 }, { name := "serialVersionUID", type := .long, accessFlags := 26, slot := 0, constantValue := 0 }, { name := "COMPACT_STRINGS", type := .boolean, accessFlags := 24, slot := 1, constantValue := 0 }, { name := "serialPersistentFields", type := (.array (.object "java/io/ObjectStreamField")), accessFlags := 26, slot := 2, constantValue := 0 }, { name := "REPL", type := .char, accessFlags := 26, slot := 3, constantValue := 0 }, { name := "CASE_INSENSITIVE_ORDER", type := (.object "java/util/Comparator"), accessFlags := 25, slot := 4, constantValue := 0 }, { name := "LATIN1", type := .byte, accessFlags := 24, slot := 5, constantValue := 0 }, { name := "UTF16", type := .byte, accessFlags := 24, slot := 6, constantValue := 0 }]
  methods := #[k7m0, k7m1, k7m2, k7m3, k7m4, k7m5, k7m6, k7m7]
  instanceTypes := #[(.array .byte), .byte, .int, .boolean]
  staticTypes := #[.long, .boolean, (.array (.object "java/io/ObjectStreamField")), .char, (.object "java/util/Comparator"), .byte, .byte]
  resolved := Array.replicate 1451 none
  statics := some 0 }

def pool8 : Array CpInfo := pool [(2, .class_ 4), (1, u "java/lang/Object"), (0, u "<init>"), (0, u "()V"), (0, .methodref 8 9), (0, .class_ 10), (0, .nameAndType 11 12), (0, u "java/lang/String"), (0, u "length"), (0, u "()I"), (0, .methodref 14 15), (0, .class_ 16), (0, .nameAndType 17 18), (0, u "java/lang/Math"), (0, u "min"), (0, u "(II)I"), (0, .methodref 8 20), (0, .nameAndType 21 22), (0, u "charAt"), (0, u "(I)C"), (0, .methodref 24 25), (0, .class_ 26), (0, .nameAndType 27 28), (0, u "com/example/rank_merge/rankmerge/model/IdOrder"), (0, u "codePointRank"), (0, u "(C)I"), (0, .methodref 30 31), (0, .class_ 32), (0, .nameAndType 33 18), (0, u "java/lang/Integer"), (0, u "compare"), (0, .integer 57344), (0, .integer 55296), (2, u "(Ljava/lang/String;Ljava/lang/String;)I")] 3

def k8m0 : Method := { name := "<init>", desc := "()V", sig := { parameters := [], returnType := none }, accessFlags := 2, code := none }
def k8c1 : Code := { maxStack := 2, maxLocals := 6, code := prog_65_method_2_code, exceptionTable := #[], attributes := #[] }
def k8m1 : Method := { name := "compare", desc := "(Ljava/lang/String;Ljava/lang/String;)I", sig := { parameters := [(.object "java/lang/String"), (.object "java/lang/String")], returnType := some .int }, accessFlags := 9, code := some k8c1 }
def k8c2 : Code := { maxStack := 2, maxLocals := 1, code := prog_65_method_3_code, exceptionTable := #[], attributes := #[] }
def k8m2 : Method := { name := "codePointRank", desc := "(C)I", sig := { parameters := [.char], returnType := some .int }, accessFlags := 10, code := some k8c2 }
/-- com/example/rank_merge/rankmerge/model/IdOrder -/
def k8 : Class := { plain "com/example/rank_merge/rankmerge/model/IdOrder" (some 0) with
  accessFlags := 33
  interfaces := #[]
  cf := some (fileOf pool8 24 #[] #[{ accessFlags := 2, nameIndex := 5, descriptorIndex := 6, attributes := #[] }, { accessFlags := 9, nameIndex := 33, descriptorIndex := 38, attributes := #[] }, { accessFlags := 10, nameIndex := 27, descriptorIndex := 28, attributes := #[] }] 33 2 #[] #[])
  fields := #[]
  methods := #[k8m0, k8m1, k8m2]
  instanceTypes := #[]
  staticTypes := #[]
  resolved := Array.replicate 42 none
  statics := none }

def pool9 : Array CpInfo := pool [(1, .class_ 2), (0, u "java/lang/Math"), (1, .class_ 6), (1, u "java/lang/Object"), (0, u "<init>"), (0, u "()V"), (89, .class_ 100), (1, u "java/lang/Math$RandomNumberGeneratorHolder"), (71, u "negativeZeroFloatBits"), (0, u "J"), (2, u "negativeZeroDoubleBits"), (24, u "min"), (43, u "$assertionsDisabled"), (0, u "Z"), (88, u "(II)I"), (2, u "twoToTheDoubleScaleDown"), (0, u "D"), (4, u "twoToTheDoubleScaleUp"), (9, u "E"), (3, u "PI"), (2, u "TAU"), (2, u "DEGREES_TO_RADIANS"), (0, u "RADIANS_TO_DEGREES")] 94

def k9m0 : Method := { name := "<init>", desc := "()V", sig := { parameters := [], returnType := none }, accessFlags := 2, code := none }
def k9c1 : Code := { maxStack := 2, maxLocals := 2, code := jdk_29_method_69_code, exceptionTable := #[], attributes := #[] }
def k9m1 : Method := { name := "min", desc := "(II)I", sig := { parameters := [.int, .int], returnType := some .int }, accessFlags := 9, code := some k9c1 }
/-- java/lang/Math -/
def k9 : Class := { plain "java/lang/Math" (some 0) with
  accessFlags := 49
  interfaces := #[]
  cf := some (fileOf pool9 1 #[.nestMembers #[98]] #[{ accessFlags := 2, nameIndex := 7, descriptorIndex := 8, attributes := #[] }, { accessFlags := 9, nameIndex := 201, descriptorIndex := 335, attributes := #[] }] 49 4 #[] #[{ accessFlags := 25, nameIndex := 354, descriptorIndex := 339, attributes := #[] }, { accessFlags := 25, nameIndex := 358, descriptorIndex := 339, attributes := #[] }, { accessFlags := 25, nameIndex := 361, descriptorIndex := 339, attributes := #[] }, { accessFlags := 26, nameIndex := 364, descriptorIndex := 339, attributes := #[] }, { accessFlags := 26, nameIndex := 365, descriptorIndex := 339, attributes := #[] }, { accessFlags := 26, nameIndex := 172, descriptorIndex := 173, attributes := #[] }, { accessFlags := 26, nameIndex := 176, descriptorIndex := 173, attributes := #[] }, { accessFlags := 8, nameIndex := 344, descriptorIndex := 339, attributes := #[] }, { accessFlags := 8, nameIndex := 338, descriptorIndex := 339, attributes := #[] }, { accessFlags := 4120, nameIndex := 245, descriptorIndex := 246, attributes := #[] }])
  fields := #[{ name := "E", type := .double, accessFlags := 25, slot := 0, constantValue := 0 }, { name := "PI", type := .double, accessFlags := 25, slot := 1, constantValue := 0 }, { name := "TAU", type := .double, accessFlags := 25, slot := 2, constantValue := 0 }, { name := "DEGREES_TO_RADIANS", type := .double, accessFlags := 26, slot := 3, constantValue := 0 }, { name := "RADIANS_TO_DEGREES", type := .double, accessFlags := 26, slot := 4, constantValue := 0 }, { name := "negativeZeroFloatBits", type := .long, accessFlags := 26, slot := 5, constantValue := 0 }, { name := "negativeZeroDoubleBits", type := .long, accessFlags := 26, slot := 6, constantValue := 0 }, { name := "twoToTheDoubleScaleUp", type := .double, accessFlags := 8, slot := 7, constantValue := 0 }, { name := "twoToTheDoubleScaleDown", type := .double, accessFlags := 8, slot := 8, constantValue := 0 }, { name := "$assertionsDisabled", type := .boolean, accessFlags := 4120, slot := 9, constantValue := 0 }]
  methods := #[k9m0, k9m1]
  instanceTypes := #[]
  staticTypes := #[.double, .double, .double, .double, .double, .long, .long, .double, .double, .boolean]
  resolved := Array.replicate 460 none
  statics := none }

def pool10 : Array CpInfo := pool [(2, .class_ 4), (1, u "java/lang/Object"), (0, u "<init>"), (0, u "()V"), (1, .class_ 10), (1, u "java/lang/Number"), (2, .class_ 14), (0, u "java/io/Serializable"), (0, u "serialVersionUID"), (0, u "J")] 20

def k10m0 : Method := { name := "<init>", desc := "()V", sig := { parameters := [], returnType := none }, accessFlags := 1, code := none }
/-- java/lang/Number -/
def k10 : Class := { plain "java/lang/Number" (some 0) with
  accessFlags := 1057
  interfaces := #[2]
  cf := some (fileOf pool10 8 #[] #[{ accessFlags := 1, nameIndex := 5, descriptorIndex := 6, attributes := #[] }] 1057 2 #[13] #[{ accessFlags := 26, nameIndex := 15, descriptorIndex := 16, attributes := #[] }])
  fields := #[{ name := "serialVersionUID", type := .long, accessFlags := 26, slot := 0, constantValue := 0 }]
  methods := #[k10m0]
  instanceTypes := #[]
  staticTypes := #[.long]
  resolved := Array.replicate 37 none
  statics := none }

def pool11 : Array CpInfo := pool [(1, .class_ 2), (0, u "java/lang/Integer"), (16, u "digits"), (0, u "[C"), (39, u "(II)I"), (24, u "DigitOnes"), (0, u "[B"), (2, u "DigitTens"), (99, .class_ 190), (0, u "java/lang/Integer$IntegerCache"), (3, u "I"), (8, .class_ 204), (0, u "java/lang/Number"), (2, u "value"), (53, u "compare"), (40, u "TYPE"), (0, u "Ljava/lang/Class;"), (0, .class_ 305), (0, u "java/lang/Comparable"), (0, .class_ 307), (0, u "java/lang/constant/Constable"), (0, .class_ 309), (0, u "java/lang/constant/ConstantDesc"), (0, u "MIN_VALUE"), (1, u "MAX_VALUE"), (3, u "SIZE"), (1, u "BYTES"), (1, u "serialVersionUID"), (0, u "J")] 131

def k11c0 : Code := { maxStack := 2, maxLocals := 2, code := jdk_33_method_40_code, exceptionTable := #[], attributes := #[] }
def k11m0 : Method := { name := "compare", desc := "(II)I", sig := { parameters := [.int, .int], returnType := some .int }, accessFlags := 9, code := some k11c0 }
/-- java/lang/Integer -/
def k11 : Class := { plain "java/lang/Integer" (some 10) with
  accessFlags := 49
  interfaces := #[3, 5, 6]
  cf := some (fileOf pool11 1 #[.nestMembers #[189]] #[{ accessFlags := 9, nameIndex := 261, descriptorIndex := 60, attributes := #[] }] 49 203 #[304, 306, 308] #[{ accessFlags := 25, nameIndex := 310, descriptorIndex := 194, attributes := #[] }, { accessFlags := 25, nameIndex := 312, descriptorIndex := 194, attributes := #[] }, { accessFlags := 25, nameIndex := 302, descriptorIndex := 303, attributes := #[] }, { accessFlags := 24, nameIndex := 19, descriptorIndex := 20, attributes := #[] }, { accessFlags := 24, nameIndex := 89, descriptorIndex := 86, attributes := #[] }, { accessFlags := 24, nameIndex := 85, descriptorIndex := 86, attributes := #[] }, { accessFlags := 18, nameIndex := 207, descriptorIndex := 194, attributes := #[] }, { accessFlags := 25, nameIndex := 316, descriptorIndex := 194, attributes := #[] }, { accessFlags := 25, nameIndex := 318, descriptorIndex := 194, attributes := #[] }, { accessFlags := 26, nameIndex := 320, descriptorIndex := 321, attributes := #[] }])
  fields := #[{ name := "MIN_VALUE", type := .int, accessFlags := 25, slot := 0, constantValue := 0 }, { name := "MAX_VALUE", type := .int, accessFlags := 25, slot := 1, constantValue := 0 }, { name := "TYPE", type := (.object "java/lang/Class"), accessFlags := 25, slot := 2, constantValue := 0 }, { name := "digits", type := (.array .char), accessFlags := 24, slot := 3, constantValue := 0 }, { name := "DigitTens", type := (.array .byte), accessFlags := 24, slot := 4, constantValue := 0 }, { name := "DigitOnes", type := (.array .byte), accessFlags := 24, slot := 5, constantValue := 0 }, { name := "value", type := .int, accessFlags := 18, slot := 0, constantValue := 0 }, { name := "SIZE", type := .int, accessFlags := 25, slot := 6, constantValue := 0 }, { name := "BYTES", type := .int, accessFlags := 25, slot := 7, constantValue := 0 }, { name := "serialVersionUID", type := .long, accessFlags := 26, slot := 8, constantValue := 0 }]
  methods := #[k11m0]
  instanceTypes := #[.int]
  staticTypes := #[.int, .int, (.object "java/lang/Class"), (.array .char), (.array .byte), (.array .byte), .int, .int, .long]
  resolved := Array.replicate 453 none
  statics := none }

def pool12 : Array CpInfo := pool [(3, .class_ 4), (0, u "java/lang/String"), (1, .class_ 8), (1, u "java/lang/Object"), (0, u "<init>"), (0, u "()V"), (0, .methodref 12 13), (0, .class_ 14), (0, .nameAndType 15 16), (0, u "java/lang/StringUTF16"), (0, u "newBytesLength"), (0, u "(I)I"), (3, .integer 1073741823), (23, .fieldref 12 45), (0, .nameAndType 46 47), (0, u "$assertionsDisabled"), (0, u "Z"), (0, .methodref 12 49), (0, .nameAndType 50 51), (0, u "length"), (0, u "([B)I"), (7, .fieldref 12 60), (0, .nameAndType 61 62), (0, u "HI_BYTE_SHIFT"), (0, u "I"), (0, .fieldref 12 64), (0, .nameAndType 65 62), (0, u "LO_BYTE_SHIFT"), (1, .methodref 12 68), (0, .nameAndType 69 70), (0, u "checkIndex"), (0, u "(I[B)V"), (0, .methodref 12 72), (0, .nameAndType 73 74), (0, u "getChar"), (0, u "([BI)C"), (32, .methodref 12 108), (0, .nameAndType 109 110), (0, u "newBytesFor"), (0, u "(I)[B"), (0, .methodref 12 112), (0, .nameAndType 113 114), (0, u "putChar"), (0, u "([BII)V"), (0, .methodref 12 116), (0, .nameAndType 117 118), (0, u "compress"), (0, u "([CI[BII)I"), (0, .methodref 12 120), (0, .nameAndType 121 122), (0, u "toBytes"), (0, u "([CII)[B"), (138, u "coderFromArrayLen"), (0, u "([BI)B"), (106, .class_ 371), (1, u "java/lang/StringUTF16$LinesSpliterator"), (20, u "charAt"), (21, .methodref 3 415), (0, .nameAndType 69 416), (0, u "(II)V"), (13, u "MAX_LENGTH"), (196, .class_ 628), (0, u "java/lang/StringUTF16$CodePointsSpliterator"), (0, .class_ 630), (0, u "java/lang/StringUTF16$CharsSpliterator")] 4

def k12m0 : Method := { name := "<init>", desc := "()V", sig := { parameters := [], returnType := none }, accessFlags := 0, code := none }
def k12c1 : Code := { maxStack := 1, maxLocals := 1, code := jdk_52_method_2_code, exceptionTable := #[], attributes := #[] }
def k12m1 : Method := { name := "newBytesFor", desc := "(I)[B", sig := { parameters := [.int], returnType := some (.array .byte) }, accessFlags := 9, code := some k12c1 }
def k12c2 : Code := { maxStack := 4, maxLocals := 1, code := jdk_52_method_3_code, exceptionTable := #[], attributes := #[] }
def k12m2 : Method := { name := "newBytesLength", desc := "(I)I", sig := { parameters := [.int], returnType := some .int }, accessFlags := 9, code := some k12c2 }
def k12c3 : Code := { maxStack := 4, maxLocals := 3, code := jdk_52_method_4_code, exceptionTable := #[], attributes := #[] }
def k12m3 : Method := { name := "putChar", desc := "([BII)V", sig := { parameters := [(.array .byte), .int, .int], returnType := none }, accessFlags := 8, code := some k12c3 }
def k12c4 : Code := { maxStack := 3, maxLocals := 2, code := jdk_52_method_5_code, exceptionTable := #[], attributes := #[] }
def k12m4 : Method := { name := "getChar", desc := "([BI)C", sig := { parameters := [(.array .byte), .int], returnType := some .char }, accessFlags := 8, code := some k12c4 }
def k12c5 : Code := { maxStack := 2, maxLocals := 1, code := jdk_52_method_6_code, exceptionTable := #[], attributes := #[] }
def k12m5 : Method := { name := "length", desc := "([B)I", sig := { parameters := [(.array .byte)], returnType := some .int }, accessFlags := 9, code := some k12c5 }
def k12c6 : Code := { maxStack := 4, maxLocals := 5, code := jdk_52_method_14_code, exceptionTable := #[], attributes := #[] }
def k12m6 : Method := { name := "toBytes", desc := "([CII)[B", sig := { parameters := [(.array .char), .int, .int], returnType := some (.array .byte) }, accessFlags := 9, code := some k12c6 }
def k12c7 : Code := { maxStack := 2, maxLocals := 2, code := jdk_52_method_15_code, exceptionTable := #[], attributes := #[] }
def k12m7 : Method := { name := "coderFromArrayLen", desc := "([BI)B", sig := { parameters := [(.array .byte), .int], returnType := some .byte }, accessFlags := 8, code := some k12c7 }
def k12c8 : Code := { maxStack := 5, maxLocals := 6, code := jdk_52_method_16_code, exceptionTable := #[], attributes := #[] }
def k12m8 : Method := { name := "compress", desc := "([CII)[B", sig := { parameters := [(.array .char), .int, .int], returnType := some (.array .byte) }, accessFlags := 9, code := some k12c8 }
def k12c9 : Code := { maxStack := 3, maxLocals := 7, code := jdk_52_method_21_code, exceptionTable := #[], attributes := #[] }
def k12m9 : Method := { name := "compress", desc := "([CI[BII)I", sig := { parameters := [(.array .char), .int, (.array .byte), .int, .int], returnType := some .int }, accessFlags := 9, code := some k12c9 }
def k12c10 : Code := { maxStack := 2, maxLocals := 2, code := jdk_52_method_83_code, exceptionTable := #[], attributes := #[] }
def k12m10 : Method := { name := "charAt", desc := "([BI)C", sig := { parameters := [(.array .byte), .int], returnType := some .char }, accessFlags := 9, code := some k12c10 }
def k12c11 : Code := { maxStack := 2, maxLocals := 2, code := jdk_52_method_91_code, exceptionTable := #[], attributes := #[] }
def k12m11 : Method := { name := "checkIndex", desc := "(I[B)V", sig := { parameters := [.int, (.array .byte)], returnType := none }, accessFlags := 9, code := some k12c11 }
/-- java/lang/StringUTF16 -/
def k12 : Class := { plain "java/lang/StringUTF16" (some 0) with
  accessFlags := 48
  interfaces := #[]
  cf := some (fileOf pool12 12 #[.nestMembers #[627, 629, 369]] #[{ accessFlags := 0, nameIndex := 9, descriptorIndex := 10, attributes := #[] }, { accessFlags := 9, nameIndex := 109, descriptorIndex := 110, attributes := #[] }, { accessFlags := 9, nameIndex := 15, descriptorIndex := 16, attributes := #[] }, { accessFlags := 8, nameIndex := 113, descriptorIndex := 114, attributes := #[] }, { accessFlags := 8, nameIndex := 73, descriptorIndex := 74, attributes := #[] }, { accessFlags := 9, nameIndex := 50, descriptorIndex := 51, attributes := #[] }, { accessFlags := 9, nameIndex := 121, descriptorIndex := 122, attributes := #[] }, { accessFlags := 8, nameIndex := 261, descriptorIndex := 262, attributes := #[] }, { accessFlags := 9, nameIndex := 117, descriptorIndex := 122, attributes := #[] }, { accessFlags := 9, nameIndex := 117, descriptorIndex := 118, attributes := #[] }, { accessFlags := 9, nameIndex := 392, descriptorIndex := 74, attributes := #[] }, { accessFlags := 9, nameIndex := 69, descriptorIndex := 70, attributes := #[] }] 48 6 #[] #[{ accessFlags := 26, nameIndex := 61, descriptorIndex := 62, attributes := #[] }, { accessFlags := 26, nameIndex := 65, descriptorIndex := 62, attributes := #[] }, { accessFlags := 24, nameIndex := 430, descriptorIndex := 62, attributes := #[] }, { accessFlags := 4120, nameIndex := 46, descriptorIndex := 47, attributes := #[] }])
  fields := #[{ name := "HI_BYTE_SHIFT", type := .int, accessFlags := 26, slot := 0, constantValue := 0 }, { name := "LO_BYTE_SHIFT", type := .int, accessFlags := 26, slot := 1, constantValue := 0 }, { name := "MAX_LENGTH", type := .int, accessFlags := 24, slot := 2, constantValue := 0 }, { name := "$assertionsDisabled", type := .boolean, accessFlags := 4120, slot := 3, constantValue := 0 }]
  methods := #[k12m0, k12m1, k12m2, k12m3, k12m4, k12m5, k12m6, k12m7, k12m8, k12m9, k12m10, k12m11]
  instanceTypes := #[]
  staticTypes := #[.int, .int, .int, .boolean]
  resolved := Array.replicate 635 none
  statics := some 1 }

def pool13 : Array CpInfo := pool [(1, .class_ 2), (0, u "java/lang/String"), (1, .class_ 6), (1, u "java/lang/Object"), (0, u "<init>"), (0, u "()V"), (0, .methodref 1 10), (0, .nameAndType 11 12), (0, u "checkIndex"), (0, u "(II)V"), (1, .class_ 16), (1, u "java/lang/StringLatin1"), (36, u "([BI)C"), (67, u "$assertionsDisabled"), (0, u "Z"), (98, .class_ 223), (1, u "java/lang/StringLatin1$LinesSpliterator"), (28, u "charAt"), (137, .class_ 391), (0, u "java/lang/StringLatin1$CharsSpliterator")] 3

def k13m0 : Method := { name := "<init>", desc := "()V", sig := { parameters := [], returnType := none }, accessFlags := 0, code := none }
def k13c1 : Code := { maxStack := 2, maxLocals := 2, code := jdk_43_method_2_code, exceptionTable := #[], attributes := #[] }
def k13m1 : Method := { name := "charAt", desc := "([BI)C", sig := { parameters := [(.array .byte), .int], returnType := some .char }, accessFlags := 9, code := some k13c1 }
/-- java/lang/StringLatin1 -/
def k13 : Class := { plain "java/lang/StringLatin1" (some 0) with
  accessFlags := 48
  interfaces := #[]
  cf := some (fileOf pool13 14 #[.nestMembers #[390, 221]] #[{ accessFlags := 0, nameIndex := 7, descriptorIndex := 8, attributes := #[] }, { accessFlags := 9, nameIndex := 252, descriptorIndex := 53, attributes := #[] }] 48 4 #[] #[{ accessFlags := 4120, nameIndex := 121, descriptorIndex := 122, attributes := #[] }])
  fields := #[{ name := "$assertionsDisabled", type := .boolean, accessFlags := 4120, slot := 0, constantValue := 0 }]
  methods := #[k13m0, k13m1]
  instanceTypes := #[]
  staticTypes := #[.boolean]
  resolved := Array.replicate 395 none
  statics := none }

def pool14 : Array CpInfo := pool [(2, .class_ 4), (1, u "java/lang/Object"), (0, u "<init>"), (0, u "()V"), (17, .class_ 26), (1, u "jdk/internal/util/Preconditions"), (6, u "checkIndex"), (21, .class_ 56), (0, u "jdk/internal/util/Preconditions$4"), (57, .class_ 115), (0, u "jdk/internal/util/Preconditions$1"), (7, u "SIOOBE_FORMATTER"), (0, u "Ljava/util/function/BiFunction;"), (0, .class_ 126), (0, u "jdk/internal/util/Preconditions$2"), (3, u "AIOOBE_FORMATTER"), (0, .class_ 132), (0, u "jdk/internal/util/Preconditions$3"), (3, u "IOOBE_FORMATTER"), (41, u "(IILjava/util/function/BiFunction;)I")] 15

def k14m0 : Method := { name := "<init>", desc := "()V", sig := { parameters := [], returnType := none }, accessFlags := 1, code := none }
def k14c1 : Code := { maxStack := 3, maxLocals := 3, code := jdk_41_method_11_code, exceptionTable := #[], attributes := #[] }
def k14m1 : Method := { name := "checkIndex", desc := "(IILjava/util/function/BiFunction;)I", sig := { parameters := [.int, .int, (.object "java/util/function/BiFunction")], returnType := some .int }, accessFlags := 9, code := some k14c1 }
/-- jdk/internal/util/Preconditions -/
def k14 : Class := { plain "jdk/internal/util/Preconditions" (some 0) with
  accessFlags := 33
  interfaces := #[]
  cf := some (fileOf pool14 24 #[.nestMembers #[55, 131, 125, 114]] #[{ accessFlags := 1, nameIndex := 5, descriptorIndex := 6, attributes := #[] }, { accessFlags := 9, nameIndex := 33, descriptorIndex := 178, attributes := #[] }] 33 2 #[] #[{ accessFlags := 25, nameIndex := 123, descriptorIndex := 124, attributes := #[] }, { accessFlags := 25, nameIndex := 130, descriptorIndex := 124, attributes := #[] }, { accessFlags := 25, nameIndex := 136, descriptorIndex := 124, attributes := #[] }])
  fields := #[{ name := "SIOOBE_FORMATTER", type := (.object "java/util/function/BiFunction"), accessFlags := 25, slot := 0, constantValue := 0 }, { name := "AIOOBE_FORMATTER", type := (.object "java/util/function/BiFunction"), accessFlags := 25, slot := 1, constantValue := 0 }, { name := "IOOBE_FORMATTER", type := (.object "java/util/function/BiFunction"), accessFlags := 25, slot := 2, constantValue := 0 }]
  methods := #[k14m0, k14m1]
  instanceTypes := #[]
  staticTypes := #[(.object "java/util/function/BiFunction"), (.object "java/util/function/BiFunction"), (.object "java/util/function/BiFunction")]
  resolved := Array.replicate 194 none
  statics := some 2 }

def pool15 : Array CpInfo := pool [(9, u "<init>"), (6, .class_ 18), (1, u "java/lang/Object"), (0, u "()V"), (1, .class_ 23), (1, u "jdk/internal/util/ArraysSupport"), (0, u "LOG2_ARRAY_LONG_INDEX_SCALE"), (0, u "I"), (2, u "U"), (0, u "Ljdk/internal/misc/Unsafe;"), (8, u "BIG_ENDIAN"), (0, u "Z"), (8, u "LOG2_BYTE_BIT_SIZE"), (4, u "LOG2_ARRAY_INT_INDEX_SCALE"), (54, u "JLA"), (0, u "Ljdk/internal/access/JavaLangAccess;"), (11, u "LOG2_ARRAY_BOOLEAN_INDEX_SCALE"), (9, u "LOG2_ARRAY_BYTE_INDEX_SCALE"), (5, u "LOG2_ARRAY_CHAR_INDEX_SCALE"), (5, u "LOG2_ARRAY_SHORT_INDEX_SCALE"), (18, u "LOG2_ARRAY_FLOAT_INDEX_SCALE"), (24, u "LOG2_ARRAY_DOUBLE_INDEX_SCALE"), (89, u "T_BOOLEAN"), (2, u "T_CHAR"), (1, u "T_FLOAT"), (1, u "T_DOUBLE"), (1, u "T_BYTE"), (1, u "T_SHORT"), (1, u "T_INT"), (1, u "T_LONG"), (1, u "SOFT_MAX_ARRAY_LENGTH")] 83

def k15m0 : Method := { name := "<init>", desc := "()V", sig := { parameters := [], returnType := none }, accessFlags := 2, code := none }
/-- jdk/internal/util/ArraysSupport -/
def k15 : Class := { plain "jdk/internal/util/ArraysSupport" (some 0) with
  accessFlags := 33
  interfaces := #[]
  cf := some (fileOf pool15 21 #[] #[{ accessFlags := 2, nameIndex := 9, descriptorIndex := 19, attributes := #[] }] 33 16 #[] #[{ accessFlags := 24, nameIndex := 28, descriptorIndex := 29, attributes := #[] }, { accessFlags := 26, nameIndex := 38, descriptorIndex := 39, attributes := #[] }, { accessFlags := 25, nameIndex := 121, descriptorIndex := 25, attributes := #[] }, { accessFlags := 25, nameIndex := 131, descriptorIndex := 25, attributes := #[] }, { accessFlags := 25, nameIndex := 137, descriptorIndex := 25, attributes := #[] }, { accessFlags := 25, nameIndex := 143, descriptorIndex := 25, attributes := #[] }, { accessFlags := 25, nameIndex := 53, descriptorIndex := 25, attributes := #[] }, { accessFlags := 25, nameIndex := 24, descriptorIndex := 25, attributes := #[] }, { accessFlags := 25, nameIndex := 162, descriptorIndex := 25, attributes := #[] }, { accessFlags := 25, nameIndex := 187, descriptorIndex := 25, attributes := #[] }, { accessFlags := 26, nameIndex := 48, descriptorIndex := 25, attributes := #[] }, { accessFlags := 25, nameIndex := 277, descriptorIndex := 25, attributes := #[] }, { accessFlags := 25, nameIndex := 280, descriptorIndex := 25, attributes := #[] }, { accessFlags := 25, nameIndex := 282, descriptorIndex := 25, attributes := #[] }, { accessFlags := 25, nameIndex := 284, descriptorIndex := 25, attributes := #[] }, { accessFlags := 25, nameIndex := 286, descriptorIndex := 25, attributes := #[] }, { accessFlags := 25, nameIndex := 288, descriptorIndex := 25, attributes := #[] }, { accessFlags := 25, nameIndex := 290, descriptorIndex := 25, attributes := #[] }, { accessFlags := 25, nameIndex := 292, descriptorIndex := 25, attributes := #[] }, { accessFlags := 26, nameIndex := 108, descriptorIndex := 109, attributes := #[] }, { accessFlags := 25, nameIndex := 294, descriptorIndex := 25, attributes := #[] }])
  fields := #[{ name := "U", type := (.object "jdk/internal/misc/Unsafe"), accessFlags := 24, slot := 0, constantValue := 0 }, { name := "BIG_ENDIAN", type := .boolean, accessFlags := 26, slot := 1, constantValue := 0 }, { name := "LOG2_ARRAY_BOOLEAN_INDEX_SCALE", type := .int, accessFlags := 25, slot := 2, constantValue := 0 }, { name := "LOG2_ARRAY_BYTE_INDEX_SCALE", type := .int, accessFlags := 25, slot := 3, constantValue := 0 }, { name := "LOG2_ARRAY_CHAR_INDEX_SCALE", type := .int, accessFlags := 25, slot := 4, constantValue := 0 }, { name := "LOG2_ARRAY_SHORT_INDEX_SCALE", type := .int, accessFlags := 25, slot := 5, constantValue := 0 }, { name := "LOG2_ARRAY_INT_INDEX_SCALE", type := .int, accessFlags := 25, slot := 6, constantValue := 0 }, { name := "LOG2_ARRAY_LONG_INDEX_SCALE", type := .int, accessFlags := 25, slot := 7, constantValue := 0 }, { name := "LOG2_ARRAY_FLOAT_INDEX_SCALE", type := .int, accessFlags := 25, slot := 8, constantValue := 0 }, { name := "LOG2_ARRAY_DOUBLE_INDEX_SCALE", type := .int, accessFlags := 25, slot := 9, constantValue := 0 }, { name := "LOG2_BYTE_BIT_SIZE", type := .int, accessFlags := 26, slot := 10, constantValue := 0 }, { name := "T_BOOLEAN", type := .int, accessFlags := 25, slot := 11, constantValue := 0 }, { name := "T_CHAR", type := .int, accessFlags := 25, slot := 12, constantValue := 0 }, { name := "T_FLOAT", type := .int, accessFlags := 25, slot := 13, constantValue := 0 }, { name := "T_DOUBLE", type := .int, accessFlags := 25, slot := 14, constantValue := 0 }, { name := "T_BYTE", type := .int, accessFlags := 25, slot := 15, constantValue := 0 }, { name := "T_SHORT", type := .int, accessFlags := 25, slot := 16, constantValue := 0 }, { name := "T_INT", type := .int, accessFlags := 25, slot := 17, constantValue := 0 }, { name := "T_LONG", type := .int, accessFlags := 25, slot := 18, constantValue := 0 }, { name := "JLA", type := (.object "jdk/internal/access/JavaLangAccess"), accessFlags := 26, slot := 19, constantValue := 0 }, { name := "SOFT_MAX_ARRAY_LENGTH", type := .int, accessFlags := 25, slot := 20, constantValue := 0 }]
  methods := #[k15m0]
  instanceTypes := #[]
  staticTypes := #[(.object "jdk/internal/misc/Unsafe"), .boolean, .int, .int, .int, .int, .int, .int, .int, .int, .int, .int, .int, .int, .int, .int, .int, .int, .int, (.object "jdk/internal/access/JavaLangAccess"), .int]
  resolved := Array.replicate 378 none
  statics := none }

def pool16 : Array CpInfo := pool [(1, u "java/lang/Cloneable"), (0, .class_ 1), (0, u "java/lang/Object"), (0, .class_ 3)] 3

/-- java/lang/Cloneable -/
def k16 : Class := { plain "java/lang/Cloneable" (some 0) with
  accessFlags := 1537
  interfaces := #[]
  cf := some (fileOf pool16 2 #[] #[] 1537 4 #[] #[])
  fields := #[]
  methods := #[]
  instanceTypes := #[]
  staticTypes := #[]
  resolved := Array.replicate 8 none
  statics := none }

/-- the primitive byte -/
def k17 : Class := { plain "byte" none with kind := .primitive 'B', accessFlags := 0x411 }
/-- [B -/
def k18 : Class := { plain "[B" (some 0) with kind := .array 17 .byte, interfaces := #[16, 2], accessFlags := 1041 }

/-- the primitive char -/
def k19 : Class := { plain "char" none with kind := .primitive 'C', accessFlags := 0x411 }
/-- [C -/
def k20 : Class := { plain "[C" (some 0) with kind := .array 19 .char, interfaces := #[16, 2], accessFlags := 1041 }

/-- the primitive int -/
def k21 : Class := { plain "int" none with kind := .primitive 'I', accessFlags := 0x411 }
/-- [I -/
def k22 : Class := { plain "[I" (some 0) with kind := .array 21 .int, interfaces := #[16, 2], accessFlags := 1041 }

def heap : Heap := #[{ cls := 7, slots := #[.long 0, .int 1, .null, .int 0, .null, .int 0, .int 0], vm := .statics 7 },
  { cls := 12, slots := #[.int 0, .int 8, .int 0, .int 1], vm := .statics 12 },
  { cls := 14, slots := #[.null, .null, .null], vm := .statics 14 }]
def classes : Array Class := #[k0, k1, k2, k3, k4, k5, k6, k7, k8, k9, k10, k11, k12, k13, k14, k15, k16, k17, k18, k19, k20, k21, k22]
def interned : List (Array UInt16 × Addr) := []
def slotsUsed : Nat := 14
def theMethod : MethodId := ⟨1, 1⟩
def args0 : Array Value := #[.int 97, .int 300, .int 7, .int 8, .int 9]
def aboutOver (below : List Frame) : State where
  vm := { classes := classes, interned := interned.toArray }
  heap := heap
  slotsUsed := slotsUsed
  threads := #[{ frames := .invoking theMethod args0 :: below }]
def below0 : List Frame := [.native { method := ⟨0, 0⟩, args := #[] }]
def about1 : State := aboutOver below0
def p0 : Program := .bare "" "" ""
def e0 : Env := launch0.env 0 0 0
theorem w_frames : about1.frames = Frame.invoking theMethod args0 :: below0 := rfl
set_option maxRecDepth 65536 in
theorem w_args : argsFit about1.vm theMethod args0 = true := by decide +kernel
set_option maxRecDepth 65536 in
theorem w_heap : heapFits about1 = true := by decide +kernel
set_option maxRecDepth 65536 in
theorem w_runnable : about1.curStatus? = some .runnable := by decide +kernel
set_option maxRecDepth 65536 in
theorem w_alone : about1.alone = true := by decide +kernel
set_option maxRecDepth 65536 in
theorem w_named : about1.methodNamed? x = some theMethod := by decide +kernel
set_option maxRecDepth 65536 in
theorem w_hears : about1.hears theMethod below0 = true := by decide +kernel
set_option maxRecDepth 65536 in
theorem w_ripe : about1.ripe theMethod args0 below0 = true := by decide +kernel
theorem w_running : about1.status = .running := rfl
set_option maxRecDepth 65536 in
theorem w_room : about1.hasRoom e0.platform room_1 = true :=
  launch0.hasRoom_least _ room_1 (by decide +kernel) (by decide +kernel) (by decide +kernel) (by decide +kernel) (by decide +kernel) (by decide +kernel)
theorem allAtoms_all (ts : List Jvm.Cond) (a : Array Jvm.Value) (st : Jvm.State) : (allAtoms ts).before a st = ts.all (fun c => c.before a st) := by
  induction ts with
  | nil => rfl
  | cons c t ih =>
    show (Jvm.Cond.and c (allAtoms t)).before a st = _
    rw [Jvm.Cond.before_and, ih, List.all_cons]
def words1 : List Jvm.Cond := Jvm.Cond.code x code maxLocals ret :: tables_1
/-- a 'code' word, met by the world's own term for the bytes: nothing is compared byte by byte -/
theorem code_word {y : MethodName} {bytes : ByteArray} {mx : Nat} {rt : Option FieldType} {a : Array Value} {s : State} {m : MethodId} {meth : Method} {c : Code} (h1 : s.methodNamed? y = some m) (h2 : s.vm.method? m = some meth) (h3 : meth.code = some c) (h4 : c.code = bytes)
    (h5 : (c.maxLocals == mx && c.exceptionTable.isEmpty && decide (c.maxStack ≤ mostOperands) && decide (meth.sig.returnType = rt) && !meth.locks && decide (parseMethodDescriptor y.desc = some meth.sig)) = true) : (Jvm.Cond.code y bytes mx rt).before a s = true := by
  simp only [Bool.and_eq_true, beq_iff_eq, Bool.not_eq_true', decide_eq_true_eq] at h5
  obtain ⟨⟨⟨⟨⟨g1, g2⟩, g3⟩, g4⟩, g5⟩, g6⟩ := h5
  simp [Cond.before, Cond.holds, Cond.value, h1, h2, h3, h4, g1, g2, g3, g4, g5, g6]
def isCode : Jvm.Cond → Bool
  | .code _ _ _ _ => true
  | _ => false
theorem all_split {L : List Jvm.Cond} {P : Jvm.Cond → Bool} (h1 : L.all (fun c => isCode c || P c) = true) (h2 : ∀ c ∈ L.filter isCode, P c = true) : L.all P = true := by
  refine List.all_eq_true.mpr fun c hc => ?_
  have h := List.all_eq_true.mp h1 c hc
  rcases Bool.eq_false_or_eq_true (isCode c) with hi | hi
  · exact h2 c (List.mem_filter.mpr ⟨hc, hi⟩)
  · simpa [hi] using h
set_option maxRecDepth 65536 in
theorem w_c0 : (Jvm.Cond.code x code maxLocals ret).before args0 about1 = true := code_word (m := ⟨1, 1⟩) (meth := k1m1) (c := k1c1) (by decide +kernel) rfl rfl rfl (by decide +kernel)
set_option maxRecDepth 65536 in
theorem w_c1 : (Jvm.Cond.code ({ cls := "com/example/rank_merge/rankmerge/model/IdOrderComparePinLaw", name := "make", desc := "(ICC)Ljava/lang/String;" } : Jvm.MethodName) method_3_code (3 : Nat) (Option.some (Jvm.ClassFile.FieldType.object "java/lang/String"))).before args0 about1 = true := code_word (m := ⟨1, 2⟩) (meth := k1m2) (c := k1c2) (by decide +kernel) rfl rfl rfl (by decide +kernel)
set_option maxRecDepth 65536 in
theorem w_c2 : (Jvm.Cond.code ({ cls := "java/lang/String", name := "<init>", desc := "([C)V" } : Jvm.MethodName) jdk_42_method_3_code (2 : Nat) (Option.none : Option Jvm.ClassFile.FieldType)).before args0 about1 = true := code_word (m := ⟨7, 1⟩) (meth := k7m1) (c := k7c1) (by decide +kernel) rfl rfl rfl (by decide +kernel)
set_option maxRecDepth 65536 in
theorem w_c3 : (Jvm.Cond.code ({ cls := "java/lang/String", name := "<init>", desc := "([CIILjava/lang/Void;)V" } : Jvm.MethodName) jdk_42_method_149_code (6 : Nat) (Option.none : Option Jvm.ClassFile.FieldType)).before args0 about1 = true := code_word (m := ⟨7, 4⟩) (meth := k7m4) (c := k7c4) (by decide +kernel) rfl rfl rfl (by decide +kernel)
set_option maxRecDepth 65536 in
theorem w_c4 : (Jvm.Cond.code ({ cls := "java/lang/Object", name := "<init>", desc := "()V" } : Jvm.MethodName) object_method_1_code (1 : Nat) (Option.none : Option Jvm.ClassFile.FieldType)).before args0 about1 = true := code_word (m := ⟨0, 0⟩) (meth := k0m0) (c := k0c0) (by decide +kernel) rfl rfl rfl (by decide +kernel)
set_option maxRecDepth 65536 in
theorem w_c5 : (Jvm.Cond.code ({ cls := "com/example/rank_merge/rankmerge/model/IdOrderComparePinLaw", name := "sign", desc := "(I)I" } : Jvm.MethodName) method_5_code (1 : Nat) (Option.some Jvm.ClassFile.FieldType.int)).before args0 about1 = true := code_word (m := ⟨1, 4⟩) (meth := k1m4) (c := k1c4) (by decide +kernel) rfl rfl rfl (by decide +kernel)
set_option maxRecDepth 65536 in
theorem w_c6 : (Jvm.Cond.code ({ cls := "com/example/rank_merge/rankmerge/model/IdOrder", name := "compare", desc := "(Ljava/lang/String;Ljava/lang/String;)I" } : Jvm.MethodName) prog_65_method_2_code (6 : Nat) (Option.some Jvm.ClassFile.FieldType.int)).before args0 about1 = true := code_word (m := ⟨8, 1⟩) (meth := k8m1) (c := k8c1) (by decide +kernel) rfl rfl rfl (by decide +kernel)
set_option maxRecDepth 65536 in
theorem w_c7 : (Jvm.Cond.code ({ cls := "java/lang/String", name := "length", desc := "()I" } : Jvm.MethodName) jdk_42_method_54_code (1 : Nat) (Option.some Jvm.ClassFile.FieldType.int)).before args0 about1 = true := code_word (m := ⟨7, 2⟩) (meth := k7m2) (c := k7c2) (by decide +kernel) rfl rfl rfl (by decide +kernel)
set_option maxRecDepth 65536 in
theorem w_c8 : (Jvm.Cond.code ({ cls := "java/lang/String", name := "coder", desc := "()B" } : Jvm.MethodName) jdk_42_method_152_code (1 : Nat) (Option.some Jvm.ClassFile.FieldType.byte)).before args0 about1 = true := code_word (m := ⟨7, 5⟩) (meth := k7m5) (c := k7c5) (by decide +kernel) rfl rfl rfl (by decide +kernel)
set_option maxRecDepth 65536 in
theorem w_c9 : (Jvm.Cond.code ({ cls := "java/lang/Math", name := "min", desc := "(II)I" } : Jvm.MethodName) jdk_29_method_69_code (2 : Nat) (Option.some Jvm.ClassFile.FieldType.int)).before args0 about1 = true := code_word (m := ⟨9, 1⟩) (meth := k9m1) (c := k9c1) (by decide +kernel) rfl rfl rfl (by decide +kernel)
set_option maxRecDepth 65536 in
theorem w_c10 : (Jvm.Cond.code ({ cls := "java/lang/Integer", name := "compare", desc := "(II)I" } : Jvm.MethodName) jdk_33_method_40_code (2 : Nat) (Option.some Jvm.ClassFile.FieldType.int)).before args0 about1 = true := code_word (m := ⟨11, 0⟩) (meth := k11m0) (c := k11c0) (by decide +kernel) rfl rfl rfl (by decide +kernel)
set_option maxRecDepth 65536 in
theorem w_c11 : (Jvm.Cond.code ({ cls := "java/lang/StringUTF16", name := "compress", desc := "([CII)[B" } : Jvm.MethodName) jdk_52_method_16_code (6 : Nat) (Option.some (Jvm.ClassFile.FieldType.array Jvm.ClassFile.FieldType.byte))).before args0 about1 = true := code_word (m := ⟨12, 8⟩) (meth := k12m8) (c := k12c8) (by decide +kernel) rfl rfl rfl (by decide +kernel)
set_option maxRecDepth 65536 in
theorem w_c12 : (Jvm.Cond.code ({ cls := "java/lang/StringUTF16", name := "compress", desc := "([CI[BII)I" } : Jvm.MethodName) jdk_52_method_21_code (7 : Nat) (Option.some Jvm.ClassFile.FieldType.int)).before args0 about1 = true := code_word (m := ⟨12, 9⟩) (meth := k12m9) (c := k12c9) (by decide +kernel) rfl rfl rfl (by decide +kernel)
set_option maxRecDepth 65536 in
theorem w_c13 : (Jvm.Cond.code ({ cls := "java/lang/StringUTF16", name := "coderFromArrayLen", desc := "([BI)B" } : Jvm.MethodName) jdk_52_method_15_code (2 : Nat) (Option.some Jvm.ClassFile.FieldType.byte)).before args0 about1 = true := code_word (m := ⟨12, 7⟩) (meth := k12m7) (c := k12c7) (by decide +kernel) rfl rfl rfl (by decide +kernel)
set_option maxRecDepth 65536 in
theorem w_c14 : (Jvm.Cond.code ({ cls := "com/example/rank_merge/rankmerge/model/IdOrderComparePinLaw", name := "key", desc := "(C)I" } : Jvm.MethodName) method_4_code (2 : Nat) (Option.some Jvm.ClassFile.FieldType.int)).before args0 about1 = true := code_word (m := ⟨1, 3⟩) (meth := k1m3) (c := k1c3) (by decide +kernel) rfl rfl rfl (by decide +kernel)
set_option maxRecDepth 65536 in
theorem w_c15 : (Jvm.Cond.code ({ cls := "java/lang/String", name := "charAt", desc := "(I)C" } : Jvm.MethodName) jdk_42_method_56_code (2 : Nat) (Option.some Jvm.ClassFile.FieldType.char)).before args0 about1 = true := code_word (m := ⟨7, 3⟩) (meth := k7m3) (c := k7c3) (by decide +kernel) rfl rfl rfl (by decide +kernel)
set_option maxRecDepth 65536 in
theorem w_c16 : (Jvm.Cond.code ({ cls := "java/lang/String", name := "isLatin1", desc := "()Z" } : Jvm.MethodName) jdk_42_method_154_code (1 : Nat) (Option.some Jvm.ClassFile.FieldType.boolean)).before args0 about1 = true := code_word (m := ⟨7, 6⟩) (meth := k7m6) (c := k7c6) (by decide +kernel) rfl rfl rfl (by decide +kernel)
set_option maxRecDepth 65536 in
theorem w_c17 : (Jvm.Cond.code ({ cls := "java/lang/StringLatin1", name := "charAt", desc := "([BI)C" } : Jvm.MethodName) jdk_43_method_2_code (2 : Nat) (Option.some Jvm.ClassFile.FieldType.char)).before args0 about1 = true := code_word (m := ⟨13, 1⟩) (meth := k13m1) (c := k13c1) (by decide +kernel) rfl rfl rfl (by decide +kernel)
set_option maxRecDepth 65536 in
theorem w_c18 : (Jvm.Cond.code ({ cls := "java/lang/String", name := "checkIndex", desc := "(II)V" } : Jvm.MethodName) jdk_42_method_155_code (2 : Nat) (Option.none : Option Jvm.ClassFile.FieldType)).before args0 about1 = true := code_word (m := ⟨7, 7⟩) (meth := k7m7) (c := k7c7) (by decide +kernel) rfl rfl rfl (by decide +kernel)
set_option maxRecDepth 65536 in
theorem w_c19 : (Jvm.Cond.code ({ cls := "jdk/internal/util/Preconditions", name := "checkIndex", desc := "(IILjava/util/function/BiFunction;)I" } : Jvm.MethodName) jdk_41_method_11_code (3 : Nat) (Option.some Jvm.ClassFile.FieldType.int)).before args0 about1 = true := code_word (m := ⟨14, 1⟩) (meth := k14m1) (c := k14c1) (by decide +kernel) rfl rfl rfl (by decide +kernel)
set_option maxRecDepth 65536 in
theorem w_c20 : (Jvm.Cond.code ({ cls := "com/example/rank_merge/rankmerge/model/IdOrder", name := "codePointRank", desc := "(C)I" } : Jvm.MethodName) prog_65_method_3_code (1 : Nat) (Option.some Jvm.ClassFile.FieldType.int)).before args0 about1 = true := code_word (m := ⟨8, 2⟩) (meth := k8m2) (c := k8c2) (by decide +kernel) rfl rfl rfl (by decide +kernel)
set_option maxRecDepth 65536 in
theorem w_c21 : (Jvm.Cond.code ({ cls := "java/lang/StringUTF16", name := "toBytes", desc := "([CII)[B" } : Jvm.MethodName) jdk_52_method_14_code (5 : Nat) (Option.some (Jvm.ClassFile.FieldType.array Jvm.ClassFile.FieldType.byte))).before args0 about1 = true := code_word (m := ⟨12, 6⟩) (meth := k12m6) (c := k12c6) (by decide +kernel) rfl rfl rfl (by decide +kernel)
set_option maxRecDepth 65536 in
theorem w_c22 : (Jvm.Cond.code ({ cls := "java/lang/StringUTF16", name := "newBytesFor", desc := "(I)[B" } : Jvm.MethodName) jdk_52_method_2_code (1 : Nat) (Option.some (Jvm.ClassFile.FieldType.array Jvm.ClassFile.FieldType.byte))).before args0 about1 = true := code_word (m := ⟨12, 1⟩) (meth := k12m1) (c := k12c1) (by decide +kernel) rfl rfl rfl (by decide +kernel)
set_option maxRecDepth 65536 in
theorem w_c23 : (Jvm.Cond.code ({ cls := "java/lang/StringUTF16", name := "newBytesLength", desc := "(I)I" } : Jvm.MethodName) jdk_52_method_3_code (1 : Nat) (Option.some Jvm.ClassFile.FieldType.int)).before args0 about1 = true := code_word (m := ⟨12, 2⟩) (meth := k12m2) (c := k12c2) (by decide +kernel) rfl rfl rfl (by decide +kernel)
set_option maxRecDepth 65536 in
theorem w_c24 : (Jvm.Cond.code ({ cls := "java/lang/StringUTF16", name := "putChar", desc := "([BII)V" } : Jvm.MethodName) jdk_52_method_4_code (3 : Nat) (Option.none : Option Jvm.ClassFile.FieldType)).before args0 about1 = true := code_word (m := ⟨12, 3⟩) (meth := k12m3) (c := k12c3) (by decide +kernel) rfl rfl rfl (by decide +kernel)
set_option maxRecDepth 65536 in
theorem w_c25 : (Jvm.Cond.code ({ cls := "java/lang/StringUTF16", name := "getChar", desc := "([BI)C" } : Jvm.MethodName) jdk_52_method_5_code (2 : Nat) (Option.some Jvm.ClassFile.FieldType.char)).before args0 about1 = true := code_word (m := ⟨12, 4⟩) (meth := k12m4) (c := k12c4) (by decide +kernel) rfl rfl rfl (by decide +kernel)
set_option maxRecDepth 65536 in
theorem w_c26 : (Jvm.Cond.code ({ cls := "java/lang/StringUTF16", name := "charAt", desc := "([BI)C" } : Jvm.MethodName) jdk_52_method_83_code (2 : Nat) (Option.some Jvm.ClassFile.FieldType.char)).before args0 about1 = true := code_word (m := ⟨12, 10⟩) (meth := k12m10) (c := k12c10) (by decide +kernel) rfl rfl rfl (by decide +kernel)
set_option maxRecDepth 65536 in
theorem w_c27 : (Jvm.Cond.code ({ cls := "java/lang/StringUTF16", name := "checkIndex", desc := "(I[B)V" } : Jvm.MethodName) jdk_52_method_91_code (2 : Nat) (Option.none : Option Jvm.ClassFile.FieldType)).before args0 about1 = true := code_word (m := ⟨12, 11⟩) (meth := k12m11) (c := k12c11) (by decide +kernel) rfl rfl rfl (by decide +kernel)
set_option maxRecDepth 65536 in
theorem w_c28 : (Jvm.Cond.code ({ cls := "java/lang/StringUTF16", name := "length", desc := "([B)I" } : Jvm.MethodName) jdk_52_method_6_code (1 : Nat) (Option.some Jvm.ClassFile.FieldType.int)).before args0 about1 = true := code_word (m := ⟨12, 5⟩) (meth := k12m5) (c := k12c5) (by decide +kernel) rfl rfl rfl (by decide +kernel)
def codes1 : List Jvm.Cond := [Jvm.Cond.code x code maxLocals ret, Jvm.Cond.code ({ cls := "com/example/rank_merge/rankmerge/model/IdOrderComparePinLaw", name := "make", desc := "(ICC)Ljava/lang/String;" } : Jvm.MethodName) method_3_code (3 : Nat) (Option.some (Jvm.ClassFile.FieldType.object "java/lang/String")), Jvm.Cond.code ({ cls := "java/lang/String", name := "<init>", desc := "([C)V" } : Jvm.MethodName) jdk_42_method_3_code (2 : Nat) (Option.none : Option Jvm.ClassFile.FieldType), Jvm.Cond.code ({ cls := "java/lang/String", name := "<init>", desc := "([CIILjava/lang/Void;)V" } : Jvm.MethodName) jdk_42_method_149_code (6 : Nat) (Option.none : Option Jvm.ClassFile.FieldType), Jvm.Cond.code ({ cls := "java/lang/Object", name := "<init>", desc := "()V" } : Jvm.MethodName) object_method_1_code (1 : Nat) (Option.none : Option Jvm.ClassFile.FieldType), Jvm.Cond.code ({ cls := "com/example/rank_merge/rankmerge/model/IdOrderComparePinLaw", name := "sign", desc := "(I)I" } : Jvm.MethodName) method_5_code (1 : Nat) (Option.some Jvm.ClassFile.FieldType.int), Jvm.Cond.code ({ cls := "com/example/rank_merge/rankmerge/model/IdOrder", name := "compare", desc := "(Ljava/lang/String;Ljava/lang/String;)I" } : Jvm.MethodName) prog_65_method_2_code (6 : Nat) (Option.some Jvm.ClassFile.FieldType.int), Jvm.Cond.code ({ cls := "java/lang/String", name := "length", desc := "()I" } : Jvm.MethodName) jdk_42_method_54_code (1 : Nat) (Option.some Jvm.ClassFile.FieldType.int), Jvm.Cond.code ({ cls := "java/lang/String", name := "coder", desc := "()B" } : Jvm.MethodName) jdk_42_method_152_code (1 : Nat) (Option.some Jvm.ClassFile.FieldType.byte), Jvm.Cond.code ({ cls := "java/lang/Math", name := "min", desc := "(II)I" } : Jvm.MethodName) jdk_29_method_69_code (2 : Nat) (Option.some Jvm.ClassFile.FieldType.int), Jvm.Cond.code ({ cls := "java/lang/Integer", name := "compare", desc := "(II)I" } : Jvm.MethodName) jdk_33_method_40_code (2 : Nat) (Option.some Jvm.ClassFile.FieldType.int), Jvm.Cond.code ({ cls := "java/lang/StringUTF16", name := "compress", desc := "([CII)[B" } : Jvm.MethodName) jdk_52_method_16_code (6 : Nat) (Option.some (Jvm.ClassFile.FieldType.array Jvm.ClassFile.FieldType.byte)), Jvm.Cond.code ({ cls := "java/lang/StringUTF16", name := "compress", desc := "([CI[BII)I" } : Jvm.MethodName) jdk_52_method_21_code (7 : Nat) (Option.some Jvm.ClassFile.FieldType.int), Jvm.Cond.code ({ cls := "java/lang/StringUTF16", name := "coderFromArrayLen", desc := "([BI)B" } : Jvm.MethodName) jdk_52_method_15_code (2 : Nat) (Option.some Jvm.ClassFile.FieldType.byte), Jvm.Cond.code ({ cls := "com/example/rank_merge/rankmerge/model/IdOrderComparePinLaw", name := "key", desc := "(C)I" } : Jvm.MethodName) method_4_code (2 : Nat) (Option.some Jvm.ClassFile.FieldType.int), Jvm.Cond.code ({ cls := "java/lang/String", name := "charAt", desc := "(I)C" } : Jvm.MethodName) jdk_42_method_56_code (2 : Nat) (Option.some Jvm.ClassFile.FieldType.char), Jvm.Cond.code ({ cls := "java/lang/String", name := "isLatin1", desc := "()Z" } : Jvm.MethodName) jdk_42_method_154_code (1 : Nat) (Option.some Jvm.ClassFile.FieldType.boolean), Jvm.Cond.code ({ cls := "java/lang/StringLatin1", name := "charAt", desc := "([BI)C" } : Jvm.MethodName) jdk_43_method_2_code (2 : Nat) (Option.some Jvm.ClassFile.FieldType.char), Jvm.Cond.code ({ cls := "java/lang/String", name := "checkIndex", desc := "(II)V" } : Jvm.MethodName) jdk_42_method_155_code (2 : Nat) (Option.none : Option Jvm.ClassFile.FieldType), Jvm.Cond.code ({ cls := "jdk/internal/util/Preconditions", name := "checkIndex", desc := "(IILjava/util/function/BiFunction;)I" } : Jvm.MethodName) jdk_41_method_11_code (3 : Nat) (Option.some Jvm.ClassFile.FieldType.int), Jvm.Cond.code ({ cls := "com/example/rank_merge/rankmerge/model/IdOrder", name := "codePointRank", desc := "(C)I" } : Jvm.MethodName) prog_65_method_3_code (1 : Nat) (Option.some Jvm.ClassFile.FieldType.int), Jvm.Cond.code ({ cls := "java/lang/StringUTF16", name := "toBytes", desc := "([CII)[B" } : Jvm.MethodName) jdk_52_method_14_code (5 : Nat) (Option.some (Jvm.ClassFile.FieldType.array Jvm.ClassFile.FieldType.byte)), Jvm.Cond.code ({ cls := "java/lang/StringUTF16", name := "newBytesFor", desc := "(I)[B" } : Jvm.MethodName) jdk_52_method_2_code (1 : Nat) (Option.some (Jvm.ClassFile.FieldType.array Jvm.ClassFile.FieldType.byte)), Jvm.Cond.code ({ cls := "java/lang/StringUTF16", name := "newBytesLength", desc := "(I)I" } : Jvm.MethodName) jdk_52_method_3_code (1 : Nat) (Option.some Jvm.ClassFile.FieldType.int), Jvm.Cond.code ({ cls := "java/lang/StringUTF16", name := "putChar", desc := "([BII)V" } : Jvm.MethodName) jdk_52_method_4_code (3 : Nat) (Option.none : Option Jvm.ClassFile.FieldType), Jvm.Cond.code ({ cls := "java/lang/StringUTF16", name := "getChar", desc := "([BI)C" } : Jvm.MethodName) jdk_52_method_5_code (2 : Nat) (Option.some Jvm.ClassFile.FieldType.char), Jvm.Cond.code ({ cls := "java/lang/StringUTF16", name := "charAt", desc := "([BI)C" } : Jvm.MethodName) jdk_52_method_83_code (2 : Nat) (Option.some Jvm.ClassFile.FieldType.char), Jvm.Cond.code ({ cls := "java/lang/StringUTF16", name := "checkIndex", desc := "(I[B)V" } : Jvm.MethodName) jdk_52_method_91_code (2 : Nat) (Option.none : Option Jvm.ClassFile.FieldType), Jvm.Cond.code ({ cls := "java/lang/StringUTF16", name := "length", desc := "([B)I" } : Jvm.MethodName) jdk_52_method_6_code (1 : Nat) (Option.some Jvm.ClassFile.FieldType.int)]
set_option maxRecDepth 65536 in
theorem codes_eq : words1.filter isCode = codes1 := rfl
theorem w_codes : ∀ c ∈ words1.filter isCode, c.before args0 about1 = true := by
  rw [codes_eq]
  intro c hc
  simp only [codes1, List.mem_cons, List.not_mem_nil, or_false] at hc
  rcases hc with rfl | rfl | rfl | rfl | rfl | rfl | rfl | rfl | rfl | rfl | rfl | rfl | rfl | rfl | rfl | rfl | rfl | rfl | rfl | rfl | rfl | rfl | rfl | rfl | rfl | rfl | rfl | rfl | rfl
  · exact w_c0
  · exact w_c1
  · exact w_c2
  · exact w_c3
  · exact w_c4
  · exact w_c5
  · exact w_c6
  · exact w_c7
  · exact w_c8
  · exact w_c9
  · exact w_c10
  · exact w_c11
  · exact w_c12
  · exact w_c13
  · exact w_c14
  · exact w_c15
  · exact w_c16
  · exact w_c17
  · exact w_c18
  · exact w_c19
  · exact w_c20
  · exact w_c21
  · exact w_c22
  · exact w_c23
  · exact w_c24
  · exact w_c25
  · exact w_c26
  · exact w_c27
  · exact w_c28
set_option maxRecDepth 65536 in
theorem w_t1 : (words1.take 24).all (fun c => isCode c || c.before args0 about1) = true := by decide +kernel
set_option maxRecDepth 65536 in
theorem w_t2 : ((words1.drop 24).take 24).all (fun c => isCode c || c.before args0 about1) = true := by decide +kernel
set_option maxRecDepth 65536 in
theorem w_t3 : (((words1.drop 24).drop 24).take 24).all (fun c => isCode c || c.before args0 about1) = true := by decide +kernel
set_option maxRecDepth 65536 in
theorem w_t4 : ((((words1.drop 24).drop 24).drop 24).take 24).all (fun c => isCode c || c.before args0 about1) = true := by decide +kernel
set_option maxRecDepth 65536 in
theorem w_t5 : (((((words1.drop 24).drop 24).drop 24).drop 24).take 24).all (fun c => isCode c || c.before args0 about1) = true := by decide +kernel
set_option maxRecDepth 65536 in
theorem w_t6 : (((((words1.drop 24).drop 24).drop 24).drop 24).drop 24).all (fun c => isCode c || c.before args0 about1) = true := by decide +kernel
theorem w_tables : (allAtoms (Jvm.Cond.code x code maxLocals ret :: tables_1)).before args0 about1 = true := by
  rw [allAtoms_all]
  show words1.all (fun c => c.before args0 about1) = true
  refine all_split ?_ w_codes
  rw [← List.take_append_drop 24 words1, List.all_append, w_t1, ← List.take_append_drop 24 (words1.drop 24), List.all_append, w_t2, ← List.take_append_drop 24 ((words1.drop 24).drop 24), List.all_append, w_t3, ← List.take_append_drop 24 (((words1.drop 24).drop 24).drop 24), List.all_append, w_t4, ← List.take_append_drop 24 ((((words1.drop 24).drop 24).drop 24).drop 24), List.all_append, w_t5, w_t6]
  rfl
set_option maxRecDepth 65536 in
theorem w_rest : rest_1_c.before args0 about1 = true := by decide +kernel
set_option maxRecDepth 65536 in
theorem w_case : (Jvm.Cond.and given_1 narrow_1).before args0 about1 = true := by decide +kernel
set_option maxRecDepth 65536 in
theorem w_consts : constsHeld consts_1 about1 := Jvm.Lit.constsHeldB_iff.mp (by decide +kernel)
theorem w_applies : (headSpec (Jvm.Cond.code x code maxLocals ret :: tables_1) room_1).applies x e0.platform about1 = true :=
  (Spec.applies_iff w_frames).mpr ⟨w_running, w_runnable, w_alone, w_named, w_hears, w_ripe, w_room, w_tables⟩
theorem atStart : AtStart classFile x code maxLocals ret World_1 tables_1 room_1 Calls_1 rest_1 Pre_1 launch0 p0 e0 about1 theMethod args0 below0 :=
  ⟨lists_1, trivial, launch0.admits_env _ _ _, launch0.least_env, fairChoices_fair.cas, fairChoices_fair.clock, w_frames, w_args, w_heap, w_applies, ⟨w_consts, trivial⟩, w_rest, w_case⟩
end start1
theorem witness_1 : WitnessClaimed_1 := ⟨start1.p0, start1.e0, start1.about1, start1.theMethod, start1.args0, start1.below0, start1.atStart⟩
end Jvm.Pilot.@@N@@
